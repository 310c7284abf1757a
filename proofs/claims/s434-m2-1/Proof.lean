import JvmDerived
import JvmDerived.Pilot.@@N@@Statement
import JvmDerived.Pilot.@@N@@Code
set_option linter.unusedVariables false
set_option linter.unusedSimpArgs false
namespace Jvm.Wk
open Sem ClassFile Op Lib Jvm.Stand Jvm.Free Jvm.LawKit Jvm.RoadKit
section W
variable {p : Program} {l : Launch} {e : Env} {R : Room} {s : State} {m : MethodId} {args : Array Value} {below : List Frame} {meth : Method} {c : Code} {T T' : State} {locs : List Loc} {cells slots : Nat} {Q : Option Value → Heap → List Loc → Prop} {Fe : Outcome → State → List Loc → Nat → Nat → Prop} {vm0 : Vm} {K N pc n t k0 : Nat} {Ls l' : Array Slot} {st rest : List Value} {Z : State} {a0 : Array Value} {h : Heap}
/-- the walk stands at the frame g over T and comes to an end that Q allows -/
def Go (p : Program) (e : Env) (below : List Frame) (Fe : Outcome → State → List Loc → Nat → Nat → Prop) (Q : Option Value → Heap → List Loc → Prop) (K N : Nat) (T : State) (g : JFrame) : Prop :=
  ∃ s₂ o, Steps p.tables e below (T.setTop g) s₂ ∧ s₂.status = .running ∧ Ended s₂ below o ∧ ∃ v L, o = .returned v ∧ Q v s₂.heap L ∧ Fe o s₂ L K N
theorem cut {A B : Prop} (h1 : A → B) (h2 : A) : B := h1 h2
theorem go {g g' : JFrame} (h : ∀ target, Steps p.tables e below (T'.setTop g') target → Steps p.tables e below (T.setTop g) target) (F : Go p e below Fe Q K N T' g') : Go p e below Fe Q K N T g := by
  obtain ⟨s₂, o, h1, r⟩ := F
  exact ⟨s₂, o, h _ h1, r⟩
/-- a boolean as an int -/
def b (P : Prop) [Decidable P] : Int32 := if P then 1 else 0
theorem b_t {P : Prop} [Decidable P] (h : P) : b P = 1 := if_pos h
theorem b_f {P : Prop} [Decidable P] (h : ¬ P) : b P = 0 := if_neg h
theorem b_iff {P P' : Prop} [Decidable P] [Decidable P'] (h : P ↔ P') : b P = b P' := by
  by_cases q : P
  · rw [b_t q, b_t (h.mp q)]
  · rw [b_f q, b_f (fun z => q (h.mpr z))]
theorem b_inj {P P' : Prop} [Decidable P] [Decidable P'] (h : b P = b P') : P ↔ P' := by
  by_cases q : P <;> by_cases q' : P' <;> simp_all [b]
/-- a mask with one more bit, or as it is -/
def ob (P : Prop) [Decidable P] (k x : Int32) : Int32 := if P then x ||| k else x
theorem ob_t {P : Prop} [Decidable P] {k x : Int32} (h : P) : ob P k x = x ||| k := if_pos h
theorem ob_f {P : Prop} [Decidable P] {k x : Int32} (h : ¬ P) : ob P k x = x := if_neg h
theorem goB1 {P : Prop} [Decidable P] (H : Go p e below Fe Q K N T (mkF m pc Ls (.int (b P) :: st))) (hP : P) : Go p e below Fe Q K N T (mkF m pc Ls (.int 1 :: st)) := by rw [b_t hP] at H; exact H
theorem goB0 {P : Prop} [Decidable P] (H : Go p e below Fe Q K N T (mkF m pc Ls (.int (b P) :: st))) (hP : ¬ P) : Go p e below Fe Q K N T (mkF m pc Ls (.int 0 :: st)) := by rw [b_f hP] at H; exact H

theorem iloadN (X : Stand p l e R s m args below meth c T locs cells slots) (hx : p.tables.exec = Jvm.exec) {k : Fin 4} {v : Int32} (hd : decode c.code pc = .ok (.iload_n k, 1)) (hl : Ls[k.val]? = some (.val (.int v))) (hn : pc + 1 = n) (F : Go p e below Fe Q K N T (mkF m n Ls (.int v :: st))) : Go p e below Fe Q K N T (mkF m pc Ls st) := by
  subst hn
  exact go (fun _ h => XS.iloadN X.here hx rfl hd hl h) F
theorem iload (X : Stand p l e R s m args below meth c T locs cells slots) (hx : p.tables.exec = Jvm.exec) {k : Nat} {v : Int32} (hd : decode c.code pc = .ok (.iload k, 2)) (hl : Ls[k]? = some (.val (.int v))) (hn : pc + 2 = n) (F : Go p e below Fe Q K N T (mkF m n Ls (.int v :: st))) : Go p e below Fe Q K N T (mkF m pc Ls st) := by
  subst hn
  exact go (fun _ h => XS.iload X.here hx rfl hd hl h) F
theorem aloadN (X : Stand p l e R s m args below meth c T locs cells slots) (hx : p.tables.exec = Jvm.exec) {k : Fin 4} {v : Value} (hd : decode c.code pc = .ok (.aload_n k, 1)) (hl : Ls[k.val]? = some (.val v)) (hv : v.isRef = true) (hn : pc + 1 = n) (F : Go p e below Fe Q K N T (mkF m n Ls (v :: st))) : Go p e below Fe Q K N T (mkF m pc Ls st) := by
  subst hn
  exact go (fun _ h => XS.aloadN X.here hx rfl hd hl hv h) F
theorem aload (X : Stand p l e R s m args below meth c T locs cells slots) (hx : p.tables.exec = Jvm.exec) {k : Nat} {v : Value} (hd : decode c.code pc = .ok (.aload k, 2)) (hl : Ls[k]? = some (.val v)) (hv : v.isRef = true) (hn : pc + 2 = n) (F : Go p e below Fe Q K N T (mkF m n Ls (v :: st))) : Go p e below Fe Q K N T (mkF m pc Ls st) := by
  subst hn
  exact go (fun _ h => XS.aload X.here hx rfl hd hl hv h) F
theorem lloadN (X : Stand p l e R s m args below meth c T locs cells slots) (hx : p.tables.exec = Jvm.exec) {k : Fin 4} {v : Int64} (hd : decode c.code pc = .ok (.lload_n k, 1)) (hl : Ls[k.val]? = some (.val (.long v))) (hn : pc + 1 = n) (F : Go p e below Fe Q K N T (mkF m n Ls (.long v :: st))) : Go p e below Fe Q K N T (mkF m pc Ls st) := by
  subst hn
  exact go (fun _ h => XT.lloadN X.here hx rfl hd hl h) F
theorem lload (X : Stand p l e R s m args below meth c T locs cells slots) (hx : p.tables.exec = Jvm.exec) {k : Nat} {v : Int64} (hd : decode c.code pc = .ok (.lload k, 2)) (hl : Ls[k]? = some (.val (.long v))) (hn : pc + 2 = n) (F : Go p e below Fe Q K N T (mkF m n Ls (.long v :: st))) : Go p e below Fe Q K N T (mkF m pc Ls st) := by
  subst hn
  exact go (fun _ h => XT.lload X.here hx rfl hd hl h) F
theorem istoreN (X : Stand p l e R s m args below meth c T locs cells slots) (hx : p.tables.exec = Jvm.exec) {k : Fin 4} {x : Int32} (hd : decode c.code pc = .ok (.istore_n k, 1)) (hl : storeLocals Ls k.val (.int x) = some l') (hn : pc + 1 = n) (F : Go p e below Fe Q K N T (mkF m n l' st)) : Go p e below Fe Q K N T (mkF m pc Ls (.int x :: st)) := by
  subst hn
  exact go (fun _ h => XS.istoreN X.here hx rfl hd rfl hl h) F
theorem istore (X : Stand p l e R s m args below meth c T locs cells slots) (hx : p.tables.exec = Jvm.exec) {k : Nat} {x : Int32} (hd : decode c.code pc = .ok (.istore k, 2)) (hl : storeLocals Ls k (.int x) = some l') (hn : pc + 2 = n) (F : Go p e below Fe Q K N T (mkF m n l' st)) : Go p e below Fe Q K N T (mkF m pc Ls (.int x :: st)) := by
  subst hn
  exact go (fun _ h => XS.istore X.here hx rfl hd rfl hl h) F
theorem astoreN (X : Stand p l e R s m args below meth c T locs cells slots) (hx : p.tables.exec = Jvm.exec) {k : Fin 4} {x : Value} (hd : decode c.code pc = .ok (.astore_n k, 1)) (hv : x.isRef = true) (hl : storeLocals Ls k.val x = some l') (hn : pc + 1 = n) (F : Go p e below Fe Q K N T (mkF m n l' st)) : Go p e below Fe Q K N T (mkF m pc Ls (x :: st)) := by
  subst hn
  exact go (fun _ h => XS.astoreN X.here hx rfl hd rfl hv hl h) F
theorem astore (X : Stand p l e R s m args below meth c T locs cells slots) (hx : p.tables.exec = Jvm.exec) {k : Nat} {x : Value} (hd : decode c.code pc = .ok (.astore k, 2)) (hv : x.isRef = true) (hl : storeLocals Ls k x = some l') (hn : pc + 2 = n) (F : Go p e below Fe Q K N T (mkF m n l' st)) : Go p e below Fe Q K N T (mkF m pc Ls (x :: st)) := by
  subst hn
  exact go (fun _ h => XS.astore X.here hx rfl hd rfl hv hl h) F
theorem lstoreN (X : Stand p l e R s m args below meth c T locs cells slots) (hx : p.tables.exec = Jvm.exec) {k : Fin 4} {x : Int64} (hd : decode c.code pc = .ok (.lstore_n k, 1)) (hl : storeLocals Ls k.val (.long x) = some l') (hn : pc + 1 = n) (F : Go p e below Fe Q K N T (mkF m n l' st)) : Go p e below Fe Q K N T (mkF m pc Ls (.long x :: st)) := by
  subst hn
  exact go (fun _ h => XT.lstoreN X.here hx rfl hd rfl hl h) F
theorem lstore (X : Stand p l e R s m args below meth c T locs cells slots) (hx : p.tables.exec = Jvm.exec) {k : Nat} {x : Int64} (hd : decode c.code pc = .ok (.lstore k, 2)) (hl : storeLocals Ls k (.long x) = some l') (hn : pc + 2 = n) (F : Go p e below Fe Q K N T (mkF m n l' st)) : Go p e below Fe Q K N T (mkF m pc Ls (.long x :: st)) := by
  subst hn
  exact go (fun _ h => XT.lstore X.here hx rfl hd rfl hl h) F
theorem iinc (X : Stand p l e R s m args below meth c T locs cells slots) (hx : p.tables.exec = Jvm.exec) {k : Nat} {cst : Int} {x : Int32} (v : Int32) (hd : decode c.code pc = .ok (.iinc k cst, 3)) (hv : Int32.ofInt cst = v) (hl : Ls[k]? = some (.val (.int x))) (hl' : storeLocals Ls k (.int (x + v)) = some l') (hn : pc + 3 = n) (F : Go p e below Fe Q K N T (mkF m n l' st)) : Go p e below Fe Q K N T (mkF m pc Ls st) := by
  subst hn
  exact go (fun _ h => XT.iincV X.here hx rfl v hd hv hl hl' h) F
theorem iconst (X : Stand p l e R s m args below meth c T locs cells slots) (hx : p.tables.exec = Jvm.exec) {i : Int} (v : Int32) (hd : decode c.code pc = .ok (.iconst i, 1)) (hv : Int32.ofInt i = v) (hn : pc + 1 = n) (F : Go p e below Fe Q K N T (mkF m n Ls (.int v :: st))) : Go p e below Fe Q K N T (mkF m pc Ls st) := by
  subst hn
  exact go (fun _ h => XT.iconstV X.here hx rfl v hd hv h) F
theorem bipush (X : Stand p l e R s m args below meth c T locs cells slots) (hx : p.tables.exec = Jvm.exec) {i : Int} (v : Int32) (hd : decode c.code pc = .ok (.bipush i, 2)) (hv : (Int8.ofInt i).toInt32 = v) (hn : pc + 2 = n) (F : Go p e below Fe Q K N T (mkF m n Ls (.int v :: st))) : Go p e below Fe Q K N T (mkF m pc Ls st) := by
  subst hn
  exact go (fun _ h => XT.bipushV X.here hx rfl v hd hv h) F
theorem sipush (X : Stand p l e R s m args below meth c T locs cells slots) (hx : p.tables.exec = Jvm.exec) {i : Int} (v : Int32) (hd : decode c.code pc = .ok (.sipush i, 3)) (hv : (Int16.ofInt i).toInt32 = v) (hn : pc + 3 = n) (F : Go p e below Fe Q K N T (mkF m n Ls (.int v :: st))) : Go p e below Fe Q K N T (mkF m pc Ls st) := by
  subst hn
  exact go (fun _ h => XT.sipushV X.here hx rfl v hd hv h) F
theorem lconst (X : Stand p l e R s m args below meth c T locs cells slots) (hx : p.tables.exec = Jvm.exec) {k : Fin 2} (v : Int64) (hd : decode c.code pc = .ok (.lconst k, 1)) (hv : Int64.ofNat k = v) (hn : pc + 1 = n) (F : Go p e below Fe Q K N T (mkF m n Ls (.long v :: st))) : Go p e below Fe Q K N T (mkF m pc Ls st) := by
  subst hn
  exact go (fun _ h => XT.lconstV X.here hx rfl v hd hv h) F
theorem anull (X : Stand p l e R s m args below meth c T locs cells slots) (hx : p.tables.exec = Jvm.exec)  (hd : decode c.code pc = .ok (.aconst_null, 1)) (hn : pc + 1 = n) (F : Go p e below Fe Q K N T (mkF m n Ls (.null :: st))) : Go p e below Fe Q K N T (mkF m pc Ls st) := by
  subst hn
  exact go (fun _ h => XS.aconstNull X.here hx rfl hd h) F
theorem ldcI (X : Stand p l e R s m args below meth c T locs cells slots) (hx : p.tables.exec = Jvm.exec) {own : String} {index : Nat} {v : Int32} (hZ : Z.Warmed39 s.vm) (hown : s.vm.findClass own = some m.cls) (wd : (Cond.constant own index v).before a0 Z = true) (hd : decode c.code pc = .ok (.ldc index, 2)) (hn : pc + 2 = n) (F : Go p e below Fe Q K N T (mkF m n Ls (.int v :: st))) : Go p e below Fe Q K N T (mkF m pc Ls st) := by
  subst hn
  exact go (fun _ h => X.ldcInt hx hown (mvT hZ wd) (g := mkF m pc Ls st) rfl hd _ h) F
theorem ldcW (X : Stand p l e R s m args below meth c T locs cells slots) (hx : p.tables.exec = Jvm.exec) {own : String} {index : Nat} {v : Int32} (hZ : Z.Warmed39 s.vm) (hown : s.vm.findClass own = some m.cls) (wd : (Cond.constant own index v).before a0 Z = true) (hd : decode c.code pc = .ok (.ldc_w index, 3)) (hn : pc + 3 = n) (F : Go p e below Fe Q K N T (mkF m n Ls (.int v :: st))) : Go p e below Fe Q K N T (mkF m pc Ls st) := by
  subst hn
  exact go (fun _ h => X.ldcwInt hx hown (mvT hZ wd) (g := mkF m pc Ls st) rfl hd _ h) F
theorem ldcJ (X : Stand p l e R s m args below meth c T locs cells slots) (hx : p.tables.exec = Jvm.exec) {own : String} {index : Nat} {v : Int64} (hZ : Z.Warmed39 s.vm) (hown : s.vm.findClass own = some m.cls) (wd : (Cond.constantLong own index v).before a0 Z = true) (hd : decode c.code pc = .ok (.ldc2_w index, 3)) (hn : pc + 3 = n) (F : Go p e below Fe Q K N T (mkF m n Ls (.long v :: st))) : Go p e below Fe Q K N T (mkF m pc Ls st) := by
  subst hn
  exact go (fun _ h => X.ldc2Long hx hown (mvT hZ wd) (g := mkF m pc Ls st) rfl hd _ h) F
theorem iadd (X : Stand p l e R s m args below meth c T locs cells slots) (hx : p.tables.exec = Jvm.exec) {x y : Int32} (hd : decode c.code pc = .ok (.iadd, 1)) (hn : pc + 1 = n) (F : Go p e below Fe Q K N T (mkF m n Ls (.int (x + y) :: st))) : Go p e below Fe Q K N T (mkF m pc Ls (.int y :: .int x :: st)) := by
  subst hn
  exact go (fun _ h => XS.iadd X.here hx rfl hd rfl h) F
theorem isub (X : Stand p l e R s m args below meth c T locs cells slots) (hx : p.tables.exec = Jvm.exec) {x y : Int32} (hd : decode c.code pc = .ok (.isub, 1)) (hn : pc + 1 = n) (F : Go p e below Fe Q K N T (mkF m n Ls (.int (x - y) :: st))) : Go p e below Fe Q K N T (mkF m pc Ls (.int y :: .int x :: st)) := by
  subst hn
  exact go (fun _ h => XS.isub X.here hx rfl hd rfl h) F
theorem iand (X : Stand p l e R s m args below meth c T locs cells slots) (hx : p.tables.exec = Jvm.exec) {x y : Int32} (hd : decode c.code pc = .ok (.iand, 1)) (hn : pc + 1 = n) (F : Go p e below Fe Q K N T (mkF m n Ls (.int (x &&& y) :: st))) : Go p e below Fe Q K N T (mkF m pc Ls (.int y :: .int x :: st)) := by
  subst hn
  exact go (fun _ h => XS.iand X.here hx rfl hd rfl h) F
theorem imul (X : Stand p l e R s m args below meth c T locs cells slots) (hx : p.tables.exec = Jvm.exec) {x y : Int32} (hd : decode c.code pc = .ok (.imul, 1)) (hn : pc + 1 = n) (F : Go p e below Fe Q K N T (mkF m n Ls (.int (x * y) :: st))) : Go p e below Fe Q K N T (mkF m pc Ls (.int y :: .int x :: st)) := by
  subst hn
  exact go (fun _ h => XS.imul X.here hx rfl hd rfl h) F
theorem ixor (X : Stand p l e R s m args below meth c T locs cells slots) (hx : p.tables.exec = Jvm.exec) {x y : Int32} (hd : decode c.code pc = .ok (.ixor, 1)) (hn : pc + 1 = n) (F : Go p e below Fe Q K N T (mkF m n Ls (.int (x ^^^ y) :: st))) : Go p e below Fe Q K N T (mkF m pc Ls (.int y :: .int x :: st)) := by
  subst hn
  exact go (fun _ h => XT.ixor X.here hx rfl hd rfl h) F
theorem ior (X : Stand p l e R s m args below meth c T locs cells slots) (hx : p.tables.exec = Jvm.exec) {x y : Int32} (hd : decode c.code pc = .ok (.ior, 1)) (hn : pc + 1 = n) (F : Go p e below Fe Q K N T (mkF m n Ls (.int (x ||| y) :: st))) : Go p e below Fe Q K N T (mkF m pc Ls (.int y :: .int x :: st)) := by
  subst hn
  exact go (fun _ h => XT.ior X.here hx rfl hd rfl h) F
theorem i2c (X : Stand p l e R s m args below meth c T locs cells slots) (hx : p.tables.exec = Jvm.exec) {x : Int32} (hd : decode c.code pc = .ok (.i2c, 1)) (hn : pc + 1 = n) (F : Go p e below Fe Q K N T (mkF m n Ls (.int x.toUInt32.toUInt16.toUInt32.toInt32 :: st))) : Go p e below Fe Q K N T (mkF m pc Ls (.int x :: st)) := by
  subst hn
  exact go (fun _ h => XT.i2c X.here hx rfl hd rfl h) F
theorem i2b (X : Stand p l e R s m args below meth c T locs cells slots) (hx : p.tables.exec = Jvm.exec) {x : Int32} (hd : decode c.code pc = .ok (.i2b, 1)) (hn : pc + 1 = n) (F : Go p e below Fe Q K N T (mkF m n Ls (.int x.toInt8.toInt32 :: st))) : Go p e below Fe Q K N T (mkF m pc Ls (.int x :: st)) := by
  subst hn
  exact go (fun _ h => XT.i2b X.here hx rfl hd rfl h) F
theorem i2l (X : Stand p l e R s m args below meth c T locs cells slots) (hx : p.tables.exec = Jvm.exec) {x : Int32} (hd : decode c.code pc = .ok (.i2l, 1)) (hn : pc + 1 = n) (F : Go p e below Fe Q K N T (mkF m n Ls (.long x.toInt64 :: st))) : Go p e below Fe Q K N T (mkF m pc Ls (.int x :: st)) := by
  subst hn
  exact go (fun _ h => XT.i2l X.here hx rfl hd rfl h) F
theorem l2i (X : Stand p l e R s m args below meth c T locs cells slots) (hx : p.tables.exec = Jvm.exec) {x : Int64} (hd : decode c.code pc = .ok (.l2i, 1)) (hn : pc + 1 = n) (F : Go p e below Fe Q K N T (mkF m n Ls (.int x.toInt32 :: st))) : Go p e below Fe Q K N T (mkF m pc Ls (.long x :: st)) := by
  subst hn
  exact go (fun _ h => XT.l2i X.here hx rfl hd rfl h) F
theorem ladd (X : Stand p l e R s m args below meth c T locs cells slots) (hx : p.tables.exec = Jvm.exec) {x y : Int64} (hd : decode c.code pc = .ok (.ladd, 1)) (hn : pc + 1 = n) (F : Go p e below Fe Q K N T (mkF m n Ls (.long (x + y) :: st))) : Go p e below Fe Q K N T (mkF m pc Ls (.long y :: .long x :: st)) := by
  subst hn
  exact go (fun _ h => XT.ladd X.here hx rfl hd rfl h) F
theorem lsub (X : Stand p l e R s m args below meth c T locs cells slots) (hx : p.tables.exec = Jvm.exec) {x y : Int64} (hd : decode c.code pc = .ok (.lsub, 1)) (hn : pc + 1 = n) (F : Go p e below Fe Q K N T (mkF m n Ls (.long (x - y) :: st))) : Go p e below Fe Q K N T (mkF m pc Ls (.long y :: .long x :: st)) := by
  subst hn
  exact go (fun _ h => XT.lsub X.here hx rfl hd rfl h) F
theorem lmul (X : Stand p l e R s m args below meth c T locs cells slots) (hx : p.tables.exec = Jvm.exec) {x y : Int64} (hd : decode c.code pc = .ok (.lmul, 1)) (hn : pc + 1 = n) (F : Go p e below Fe Q K N T (mkF m n Ls (.long (x * y) :: st))) : Go p e below Fe Q K N T (mkF m pc Ls (.long y :: .long x :: st)) := by
  subst hn
  exact go (fun _ h => XT.lmul X.here hx rfl hd rfl h) F
theorem land (X : Stand p l e R s m args below meth c T locs cells slots) (hx : p.tables.exec = Jvm.exec) {x y : Int64} (hd : decode c.code pc = .ok (.land, 1)) (hn : pc + 1 = n) (F : Go p e below Fe Q K N T (mkF m n Ls (.long (x &&& y) :: st))) : Go p e below Fe Q K N T (mkF m pc Ls (.long y :: .long x :: st)) := by
  subst hn
  exact go (fun _ h => XT.land X.here hx rfl hd rfl h) F
theorem lor (X : Stand p l e R s m args below meth c T locs cells slots) (hx : p.tables.exec = Jvm.exec) {x y : Int64} (hd : decode c.code pc = .ok (.lor, 1)) (hn : pc + 1 = n) (F : Go p e below Fe Q K N T (mkF m n Ls (.long (x ||| y) :: st))) : Go p e below Fe Q K N T (mkF m pc Ls (.long y :: .long x :: st)) := by
  subst hn
  exact go (fun _ h => XT.lor X.here hx rfl hd rfl h) F
theorem lxor (X : Stand p l e R s m args below meth c T locs cells slots) (hx : p.tables.exec = Jvm.exec) {x y : Int64} (hd : decode c.code pc = .ok (.lxor, 1)) (hn : pc + 1 = n) (F : Go p e below Fe Q K N T (mkF m n Ls (.long (x ^^^ y) :: st))) : Go p e below Fe Q K N T (mkF m pc Ls (.long y :: .long x :: st)) := by
  subst hn
  exact go (fun _ h => XT.lxor X.here hx rfl hd rfl h) F
theorem irem (X : Stand p l e R s m args below meth c T locs cells slots) (hx : p.tables.exec = Jvm.exec) {x y : Int32} (hd : decode c.code pc = .ok (.irem, 1)) (hy : y ≠ 0) (hn : pc + 1 = n) (F : Go p e below Fe Q K N T (mkF m n Ls (.int (x % y) :: st))) : Go p e below Fe Q K N T (mkF m pc Ls (.int y :: .int x :: st)) := by
  subst hn
  exact go (fun _ h => iremM X hx rfl hd rfl hy h) F
theorem idiv (X : Stand p l e R s m args below meth c T locs cells slots) (hx : p.tables.exec = Jvm.exec) {x y : Int32} (hd : decode c.code pc = .ok (.idiv, 1)) (hy : y ≠ 0) (hn : pc + 1 = n) (F : Go p e below Fe Q K N T (mkF m n Ls (.int (x / y) :: st))) : Go p e below Fe Q K N T (mkF m pc Ls (.int y :: .int x :: st)) := by
  subst hn
  exact go (fun _ h => XS.idiv X.here hx rfl hd rfl hy h) F
theorem dup (X : Stand p l e R s m args below meth c T locs cells slots) (hx : p.tables.exec = Jvm.exec) {x : Value} (hd : decode c.code pc = .ok (.dup, 1)) (hc : x.category = 1) (hn : pc + 1 = n) (F : Go p e below Fe Q K N T (mkF m n Ls (x :: x :: st))) : Go p e below Fe Q K N T (mkF m pc Ls (x :: st)) := by
  subst hn
  exact go (fun _ h => XS.dup X.here hx rfl hd rfl hc h) F
theorem pop (X : Stand p l e R s m args below meth c T locs cells slots) (hx : p.tables.exec = Jvm.exec) {x : Value} (hd : decode c.code pc = .ok (.pop, 1)) (hc : x.category = 1) (hn : pc + 1 = n) (F : Go p e below Fe Q K N T (mkF m n Ls st)) : Go p e below Fe Q K N T (mkF m pc Ls (x :: st)) := by
  subst hn
  exact go (fun _ h => XT.pop X.here hx rfl hd rfl hc h) F
theorem pop2L (X : Stand p l e R s m args below meth c T locs cells slots) (hx : p.tables.exec = Jvm.exec) {x : Int64} (hd : decode c.code pc = .ok (.pop2, 1)) (hn : pc + 1 = n) (F : Go p e below Fe Q K N T (mkF m n Ls st)) : Go p e below Fe Q K N T (mkF m pc Ls (.long x :: st)) := by
  subst hn
  refine go (fun _ h => ?_) F
  have ht := X.here
  jvm_step ht [ht.top, hx, hd, Value.category]
  exact h
theorem lshl (X : Stand p l e R s m args below meth c T locs cells slots) (hx : p.tables.exec = Jvm.exec) {x : Int64} {y : Int32} (hd : decode c.code pc = .ok (.lshl, 1)) (hn : pc + 1 = n) (F : Go p e below Fe Q K N T (mkF m n Ls (.long (x <<< (y.toInt64 &&& 63)) :: st))) : Go p e below Fe Q K N T (mkF m pc Ls (.int y :: .long x :: st)) := by
  subst hn
  exact go (fun _ h => XT.lshl X.here hx rfl hd rfl h) F
theorem lushr (X : Stand p l e R s m args below meth c T locs cells slots) (hx : p.tables.exec = Jvm.exec) {x : Int64} {y : Int32} (hd : decode c.code pc = .ok (.lushr, 1)) (hn : pc + 1 = n) (F : Go p e below Fe Q K N T (mkF m n Ls (.long (XT.ushrL x y) :: st))) : Go p e below Fe Q K N T (mkF m pc Ls (.int y :: .long x :: st)) := by
  subst hn
  exact go (fun _ h => XT.lushr X.here hx rfl hd rfl h) F
theorem iushr (X : Stand p l e R s m args below meth c T locs cells slots) (hx : p.tables.exec = Jvm.exec) {x y : Int32} (hd : decode c.code pc = .ok (.iushr, 1)) (hn : pc + 1 = n) (F : Go p e below Fe Q K N T (mkF m n Ls (.int (XT.ushr x y) :: st))) : Go p e below Fe Q K N T (mkF m pc Ls (.int y :: .int x :: st)) := by
  subst hn
  exact go (fun _ h => XT.iushr X.here hx rfl hd rfl h) F
theorem ishr (X : Stand p l e R s m args below meth c T locs cells slots) (hx : p.tables.exec = Jvm.exec) {x y : Int32} (hd : decode c.code pc = .ok (.ishr, 1)) (hn : pc + 1 = n) (F : Go p e below Fe Q K N T (mkF m n Ls (.int (x >>> (y &&& 31)) :: st))) : Go p e below Fe Q K N T (mkF m pc Ls (.int y :: .int x :: st)) := by
  subst hn
  exact go (fun _ h => XT.ishr X.here hx rfl hd rfl h) F
theorem ishl (X : Stand p l e R s m args below meth c T locs cells slots) (hx : p.tables.exec = Jvm.exec) {x y : Int32} (hd : decode c.code pc = .ok (.ishl, 1)) (hn : pc + 1 = n) (F : Go p e below Fe Q K N T (mkF m n Ls (.int (x <<< (y &&& 31)) :: st))) : Go p e below Fe Q K N T (mkF m pc Ls (.int y :: .int x :: st)) := by
  subst hn
  exact go (fun _ h => XT.ishl X.here hx rfl hd rfl h) F
theorem i2s (X : Stand p l e R s m args below meth c T locs cells slots) (hx : p.tables.exec = Jvm.exec) {x : Int32} (hd : decode c.code pc = .ok (.i2s, 1)) (hn : pc + 1 = n) (F : Go p e below Fe Q K N T (mkF m n Ls (.int x.toInt16.toInt32 :: st))) : Go p e below Fe Q K N T (mkF m pc Ls (.int x :: st)) := by
  subst hn
  exact go (fun _ h => XT.i2s X.here hx rfl hd rfl h) F
theorem goto (X : Stand p l e R s m args below meth c T locs cells slots) (hx : p.tables.exec = Jvm.exec) {o : Int} (t : Nat) (hd : decode c.code pc = .ok (.goto o, 3)) (ht : (pc : Int) + o = t) (F : Go p e below Fe Q K N T (mkF m t Ls st)) : Go p e below Fe Q K N T (mkF m pc Ls st) := go (fun _ h => XS.goto X.here hx rfl (pc0 := pc) (pc' := t) rfl hd (by rw [ht]; exact Int.natCast_nonneg _) (by rw [ht]; rfl) h) F
theorem holds_t {cd : ClassFile.Cond} {x y : Int32} : if_icmp.holds cd x y = true ↔ match cd with | .eq => x.toInt = y.toInt | .ne => ¬ x.toInt = y.toInt | .lt => x.toInt < y.toInt | .ge => y.toInt ≤ x.toInt | .gt => y.toInt < x.toInt | .le => x.toInt ≤ y.toInt := by
  cases cd <;> simp [if_icmp.holds, Int32.lt_iff_toInt_lt, Int32.le_iff_toInt_le, Int32.toInt_inj]
theorem icmp (X : Stand p l e R s m args below meth c T locs cells slots) (hx : p.tables.exec = Jvm.exec) {cd : ClassFile.Cond} {x y : Int32} {o : Int} (hd : decode c.code pc = .ok (.if_icmp cd o, 3)) (ht : (pc : Int) + o = t) (hn : pc + 3 = n) (FT : if_icmp.holds cd x y = true → Go p e below Fe Q K N T (mkF m t Ls rest)) (FF : ¬ if_icmp.holds cd x y = true → Go p e below Fe Q K N T (mkF m n Ls rest)) : Go p e below Fe Q K N T (mkF m pc Ls (.int y :: .int x :: rest)) := by
  subst hn
  by_cases q : if_icmp.holds cd x y = true
  · exact go (fun _ h => XS.icmpYes X.here hx rfl (pc0 := pc) (pc' := t) rfl hd rfl q (by rw [ht]; exact Int.natCast_nonneg _) (by rw [ht]; rfl) h) (FT q)
  · exact go (fun _ h => XS.icmpNo X.here hx rfl hd rfl (by simpa using q) h) (FF q)
theorem ifc (X : Stand p l e R s m args below meth c T locs cells slots) (hx : p.tables.exec = Jvm.exec) {cd : ClassFile.Cond} {x : Int32} {o : Int} (hd : decode c.code pc = .ok (.ifCond cd o, 3)) (ht : (pc : Int) + o = t) (hn : pc + 3 = n) (FT : if_icmp.holds cd x 0 = true → Go p e below Fe Q K N T (mkF m t Ls rest)) (FF : ¬ if_icmp.holds cd x 0 = true → Go p e below Fe Q K N T (mkF m n Ls rest)) : Go p e below Fe Q K N T (mkF m pc Ls (.int x :: rest)) := by
  subst hn
  by_cases q : if_icmp.holds cd x 0 = true
  · exact go (fun _ h => XS.ifYes X.here hx rfl (pc0 := pc) (pc' := t) rfl hd rfl ((if0 _ _).trans q) (by rw [ht]; exact Int.natCast_nonneg _) (by rw [ht]; rfl) h) (FT q)
  · exact go (fun _ h => XS.ifNo X.here hx rfl hd rfl ((if0 _ _).trans (by simpa using q)) h) (FF q)
theorem icmp_eq (X : Stand p l e R s m args below meth c T locs cells slots) (hx : p.tables.exec = Jvm.exec) {x y : Int32} {o : Int} (t n : Nat) (hd : decode c.code pc = .ok (.if_icmp .eq o, 3)) (ht : (pc : Int) + o = t) (hn : pc + 3 = n) {a b' : Int} (ha : x.toInt = a) (hb : y.toInt = b') (FT : a = b' → Go p e below Fe Q K N T (mkF m t Ls rest)) (FF : ¬ a = b' → Go p e below Fe Q K N T (mkF m n Ls rest)) : Go p e below Fe Q K N T (mkF m pc Ls (.int y :: .int x :: rest)) := by
  subst ha hb
  exact icmp X hx hd ht hn (fun q => FT (holds_t.mp q)) (fun q => FF (by have := mt holds_t.mpr q; first | exact this | exact Int.not_lt.mp this | exact Int.not_le.mp this | exact Classical.not_not.mp this))
theorem if_eq (X : Stand p l e R s m args below meth c T locs cells slots) (hx : p.tables.exec = Jvm.exec) {x : Int32} {o : Int} (t n : Nat) (hd : decode c.code pc = .ok (.ifCond .eq o, 3)) (ht : (pc : Int) + o = t) (hn : pc + 3 = n) {a : Int} (ha : x.toInt = a) (FT : a = 0 → Go p e below Fe Q K N T (mkF m t Ls rest)) (FF : ¬ a = 0 → Go p e below Fe Q K N T (mkF m n Ls rest)) : Go p e below Fe Q K N T (mkF m pc Ls (.int x :: rest)) := by
  subst ha
  exact ifc X hx hd ht hn (fun q => FT (holds_t.mp q)) (fun q => FF (by have := mt holds_t.mpr q; first | exact this | exact Int.not_lt.mp this | exact Int.not_le.mp this | exact Classical.not_not.mp this))
theorem icmp_ne (X : Stand p l e R s m args below meth c T locs cells slots) (hx : p.tables.exec = Jvm.exec) {x y : Int32} {o : Int} (t n : Nat) (hd : decode c.code pc = .ok (.if_icmp .ne o, 3)) (ht : (pc : Int) + o = t) (hn : pc + 3 = n) {a b' : Int} (ha : x.toInt = a) (hb : y.toInt = b') (FT : ¬ a = b' → Go p e below Fe Q K N T (mkF m t Ls rest)) (FF : a = b' → Go p e below Fe Q K N T (mkF m n Ls rest)) : Go p e below Fe Q K N T (mkF m pc Ls (.int y :: .int x :: rest)) := by
  subst ha hb
  exact icmp X hx hd ht hn (fun q => FT (holds_t.mp q)) (fun q => FF (by have := mt holds_t.mpr q; first | exact this | exact Int.not_lt.mp this | exact Int.not_le.mp this | exact Classical.not_not.mp this))
theorem if_ne (X : Stand p l e R s m args below meth c T locs cells slots) (hx : p.tables.exec = Jvm.exec) {x : Int32} {o : Int} (t n : Nat) (hd : decode c.code pc = .ok (.ifCond .ne o, 3)) (ht : (pc : Int) + o = t) (hn : pc + 3 = n) {a : Int} (ha : x.toInt = a) (FT : ¬ a = 0 → Go p e below Fe Q K N T (mkF m t Ls rest)) (FF : a = 0 → Go p e below Fe Q K N T (mkF m n Ls rest)) : Go p e below Fe Q K N T (mkF m pc Ls (.int x :: rest)) := by
  subst ha
  exact ifc X hx hd ht hn (fun q => FT (holds_t.mp q)) (fun q => FF (by have := mt holds_t.mpr q; first | exact this | exact Int.not_lt.mp this | exact Int.not_le.mp this | exact Classical.not_not.mp this))
theorem icmp_lt (X : Stand p l e R s m args below meth c T locs cells slots) (hx : p.tables.exec = Jvm.exec) {x y : Int32} {o : Int} (t n : Nat) (hd : decode c.code pc = .ok (.if_icmp .lt o, 3)) (ht : (pc : Int) + o = t) (hn : pc + 3 = n) {a b' : Int} (ha : x.toInt = a) (hb : y.toInt = b') (FT : a < b' → Go p e below Fe Q K N T (mkF m t Ls rest)) (FF : b' ≤ a → Go p e below Fe Q K N T (mkF m n Ls rest)) : Go p e below Fe Q K N T (mkF m pc Ls (.int y :: .int x :: rest)) := by
  subst ha hb
  exact icmp X hx hd ht hn (fun q => FT (holds_t.mp q)) (fun q => FF (by have := mt holds_t.mpr q; first | exact this | exact Int.not_lt.mp this | exact Int.not_le.mp this | exact Classical.not_not.mp this))
theorem if_lt (X : Stand p l e R s m args below meth c T locs cells slots) (hx : p.tables.exec = Jvm.exec) {x : Int32} {o : Int} (t n : Nat) (hd : decode c.code pc = .ok (.ifCond .lt o, 3)) (ht : (pc : Int) + o = t) (hn : pc + 3 = n) {a : Int} (ha : x.toInt = a) (FT : a < 0 → Go p e below Fe Q K N T (mkF m t Ls rest)) (FF : 0 ≤ a → Go p e below Fe Q K N T (mkF m n Ls rest)) : Go p e below Fe Q K N T (mkF m pc Ls (.int x :: rest)) := by
  subst ha
  exact ifc X hx hd ht hn (fun q => FT (holds_t.mp q)) (fun q => FF (by have := mt holds_t.mpr q; first | exact this | exact Int.not_lt.mp this | exact Int.not_le.mp this | exact Classical.not_not.mp this))
theorem icmp_ge (X : Stand p l e R s m args below meth c T locs cells slots) (hx : p.tables.exec = Jvm.exec) {x y : Int32} {o : Int} (t n : Nat) (hd : decode c.code pc = .ok (.if_icmp .ge o, 3)) (ht : (pc : Int) + o = t) (hn : pc + 3 = n) {a b' : Int} (ha : x.toInt = a) (hb : y.toInt = b') (FT : b' ≤ a → Go p e below Fe Q K N T (mkF m t Ls rest)) (FF : a < b' → Go p e below Fe Q K N T (mkF m n Ls rest)) : Go p e below Fe Q K N T (mkF m pc Ls (.int y :: .int x :: rest)) := by
  subst ha hb
  exact icmp X hx hd ht hn (fun q => FT (holds_t.mp q)) (fun q => FF (by have := mt holds_t.mpr q; first | exact this | exact Int.not_lt.mp this | exact Int.not_le.mp this | exact Classical.not_not.mp this))
theorem if_ge (X : Stand p l e R s m args below meth c T locs cells slots) (hx : p.tables.exec = Jvm.exec) {x : Int32} {o : Int} (t n : Nat) (hd : decode c.code pc = .ok (.ifCond .ge o, 3)) (ht : (pc : Int) + o = t) (hn : pc + 3 = n) {a : Int} (ha : x.toInt = a) (FT : 0 ≤ a → Go p e below Fe Q K N T (mkF m t Ls rest)) (FF : a < 0 → Go p e below Fe Q K N T (mkF m n Ls rest)) : Go p e below Fe Q K N T (mkF m pc Ls (.int x :: rest)) := by
  subst ha
  exact ifc X hx hd ht hn (fun q => FT (holds_t.mp q)) (fun q => FF (by have := mt holds_t.mpr q; first | exact this | exact Int.not_lt.mp this | exact Int.not_le.mp this | exact Classical.not_not.mp this))
theorem icmp_gt (X : Stand p l e R s m args below meth c T locs cells slots) (hx : p.tables.exec = Jvm.exec) {x y : Int32} {o : Int} (t n : Nat) (hd : decode c.code pc = .ok (.if_icmp .gt o, 3)) (ht : (pc : Int) + o = t) (hn : pc + 3 = n) {a b' : Int} (ha : x.toInt = a) (hb : y.toInt = b') (FT : b' < a → Go p e below Fe Q K N T (mkF m t Ls rest)) (FF : a ≤ b' → Go p e below Fe Q K N T (mkF m n Ls rest)) : Go p e below Fe Q K N T (mkF m pc Ls (.int y :: .int x :: rest)) := by
  subst ha hb
  exact icmp X hx hd ht hn (fun q => FT (holds_t.mp q)) (fun q => FF (by have := mt holds_t.mpr q; first | exact this | exact Int.not_lt.mp this | exact Int.not_le.mp this | exact Classical.not_not.mp this))
theorem if_gt (X : Stand p l e R s m args below meth c T locs cells slots) (hx : p.tables.exec = Jvm.exec) {x : Int32} {o : Int} (t n : Nat) (hd : decode c.code pc = .ok (.ifCond .gt o, 3)) (ht : (pc : Int) + o = t) (hn : pc + 3 = n) {a : Int} (ha : x.toInt = a) (FT : 0 < a → Go p e below Fe Q K N T (mkF m t Ls rest)) (FF : a ≤ 0 → Go p e below Fe Q K N T (mkF m n Ls rest)) : Go p e below Fe Q K N T (mkF m pc Ls (.int x :: rest)) := by
  subst ha
  exact ifc X hx hd ht hn (fun q => FT (holds_t.mp q)) (fun q => FF (by have := mt holds_t.mpr q; first | exact this | exact Int.not_lt.mp this | exact Int.not_le.mp this | exact Classical.not_not.mp this))
theorem icmp_le (X : Stand p l e R s m args below meth c T locs cells slots) (hx : p.tables.exec = Jvm.exec) {x y : Int32} {o : Int} (t n : Nat) (hd : decode c.code pc = .ok (.if_icmp .le o, 3)) (ht : (pc : Int) + o = t) (hn : pc + 3 = n) {a b' : Int} (ha : x.toInt = a) (hb : y.toInt = b') (FT : a ≤ b' → Go p e below Fe Q K N T (mkF m t Ls rest)) (FF : b' < a → Go p e below Fe Q K N T (mkF m n Ls rest)) : Go p e below Fe Q K N T (mkF m pc Ls (.int y :: .int x :: rest)) := by
  subst ha hb
  exact icmp X hx hd ht hn (fun q => FT (holds_t.mp q)) (fun q => FF (by have := mt holds_t.mpr q; first | exact this | exact Int.not_lt.mp this | exact Int.not_le.mp this | exact Classical.not_not.mp this))
theorem if_le (X : Stand p l e R s m args below meth c T locs cells slots) (hx : p.tables.exec = Jvm.exec) {x : Int32} {o : Int} (t n : Nat) (hd : decode c.code pc = .ok (.ifCond .le o, 3)) (ht : (pc : Int) + o = t) (hn : pc + 3 = n) {a : Int} (ha : x.toInt = a) (FT : a ≤ 0 → Go p e below Fe Q K N T (mkF m t Ls rest)) (FF : 0 < a → Go p e below Fe Q K N T (mkF m n Ls rest)) : Go p e below Fe Q K N T (mkF m pc Ls (.int x :: rest)) := by
  subst ha
  exact ifc X hx hd ht hn (fun q => FT (holds_t.mp q)) (fun q => FF (by have := mt holds_t.mpr q; first | exact this | exact Int.not_lt.mp this | exact Int.not_le.mp this | exact Classical.not_not.mp this))
theorem if_neB (X : Stand p l e R s m args below meth c T locs cells slots) (hx : p.tables.exec = Jvm.exec) {P : Prop} [Decidable P] {o : Int} (t n : Nat) (hd : decode c.code pc = .ok (.ifCond .ne o, 3)) (ht : (pc : Int) + o = t) (hn : pc + 3 = n) (FT : P → Go p e below Fe Q K N T (mkF m t Ls rest)) (FF : ¬ P → Go p e below Fe Q K N T (mkF m n Ls rest)) : Go p e below Fe Q K N T (mkF m pc Ls (.int (b P) :: rest)) := by
  refine ifc X hx hd ht hn (fun q => FT ?_) (fun q => FF ?_)
  · by_cases z : P
    · exact z
    · rw [b_f z] at q; exact absurd q (by decide)
  · intro z; rw [b_t z] at q; exact q (by decide)
theorem if_eqB (X : Stand p l e R s m args below meth c T locs cells slots) (hx : p.tables.exec = Jvm.exec) {P : Prop} [Decidable P] {o : Int} (t n : Nat) (hd : decode c.code pc = .ok (.ifCond .eq o, 3)) (ht : (pc : Int) + o = t) (hn : pc + 3 = n) (FT : ¬ P → Go p e below Fe Q K N T (mkF m t Ls rest)) (FF : P → Go p e below Fe Q K N T (mkF m n Ls rest)) : Go p e below Fe Q K N T (mkF m pc Ls (.int (b P) :: rest)) := by
  refine ifc X hx hd ht hn (fun q => FT ?_) (fun q => FF ?_)
  · intro z; rw [b_t z] at q; exact absurd q (by decide)
  · by_cases z : P
    · exact z
    · rw [b_f z] at q; exact absurd (by decide) q
theorem icmp_neB (X : Stand p l e R s m args below meth c T locs cells slots) (hx : p.tables.exec = Jvm.exec) {P P' : Prop} [Decidable P] [Decidable P'] {o : Int} (t n : Nat) (hd : decode c.code pc = .ok (.if_icmp .ne o, 3)) (ht : (pc : Int) + o = t) (hn : pc + 3 = n) (FT : ¬ (P ↔ P') → Go p e below Fe Q K N T (mkF m t Ls rest)) (FF : (P ↔ P') → Go p e below Fe Q K N T (mkF m n Ls rest)) : Go p e below Fe Q K N T (mkF m pc Ls (.int (b P') :: .int (b P) :: rest)) :=
  icmp_ne X hx t n hd ht hn rfl rfl (fun q => FT fun z => q (by rw [b_iff z])) (fun q => FF (b_inj (Int32.toInt_inj.mp q)))
theorem lcmp (X : Stand p l e R s m args below meth c T locs cells slots) (hx : p.tables.exec = Jvm.exec) {x y : Int64} (hd : decode c.code pc = .ok (.lcmp, 1)) (hn : pc + 1 = n) (F : Go p e below Fe Q K N T (mkF m n Ls (.int (lcmpW x y) :: st))) : Go p e below Fe Q K N T (mkF m pc Ls (.long y :: .long x :: st)) := by
  subst hn
  exact go (fun _ h => XT.lcmp X.here hx rfl hd rfl h) F
theorem lc_t {cd : ClassFile.Cond} {x y : Int64} : if_icmp.holds cd (lcmpW x y) 0 = true ↔ match cd with | .eq => x.toInt = y.toInt | .ne => ¬ x.toInt = y.toInt | .lt => x.toInt < y.toInt | .ge => y.toInt ≤ x.toInt | .gt => y.toInt < x.toInt | .le => x.toInt ≤ y.toInt := by
  have hgt : (x > y) ↔ y.toInt < x.toInt := Int64.lt_iff_toInt_lt
  have heq : (x = y) ↔ x.toInt = y.toInt := Int64.toInt_inj.symm
  by_cases q : x > y
  · have := hgt.mp q
    cases cd <;> simp [if_icmp.holds, lcmpW, q] <;> omega
  · have q1 := mt hgt.mpr q
    by_cases r : x = y
    · have := heq.mp r
      cases cd <;> simp [if_icmp.holds, lcmpW, r] 
    · have r1 := mt heq.mpr r
      cases cd <;> simp [if_icmp.holds, lcmpW, q, r] <;> omega
theorem lif_eq (X : Stand p l e R s m args below meth c T locs cells slots) (hx : p.tables.exec = Jvm.exec) {x y : Int64} {o : Int} (t n : Nat) (hd : decode c.code pc = .ok (.ifCond .eq o, 3)) (ht : (pc : Int) + o = t) (hn : pc + 3 = n) {a b' : Int} (ha : x.toInt = a) (hb : y.toInt = b') (FT : a = b' → Go p e below Fe Q K N T (mkF m t Ls rest)) (FF : ¬ a = b' → Go p e below Fe Q K N T (mkF m n Ls rest)) : Go p e below Fe Q K N T (mkF m pc Ls (.int (lcmpW x y) :: rest)) := by
  subst ha hb
  exact ifc X hx hd ht hn (fun q => FT (lc_t.mp q)) (fun q => FF (by have := mt lc_t.mpr q; first | exact this | exact Int.not_lt.mp this | exact Int.not_le.mp this | exact Classical.not_not.mp this))
theorem lif_ne (X : Stand p l e R s m args below meth c T locs cells slots) (hx : p.tables.exec = Jvm.exec) {x y : Int64} {o : Int} (t n : Nat) (hd : decode c.code pc = .ok (.ifCond .ne o, 3)) (ht : (pc : Int) + o = t) (hn : pc + 3 = n) {a b' : Int} (ha : x.toInt = a) (hb : y.toInt = b') (FT : ¬ a = b' → Go p e below Fe Q K N T (mkF m t Ls rest)) (FF : a = b' → Go p e below Fe Q K N T (mkF m n Ls rest)) : Go p e below Fe Q K N T (mkF m pc Ls (.int (lcmpW x y) :: rest)) := by
  subst ha hb
  exact ifc X hx hd ht hn (fun q => FT (lc_t.mp q)) (fun q => FF (by have := mt lc_t.mpr q; first | exact this | exact Int.not_lt.mp this | exact Int.not_le.mp this | exact Classical.not_not.mp this))
theorem lif_lt (X : Stand p l e R s m args below meth c T locs cells slots) (hx : p.tables.exec = Jvm.exec) {x y : Int64} {o : Int} (t n : Nat) (hd : decode c.code pc = .ok (.ifCond .lt o, 3)) (ht : (pc : Int) + o = t) (hn : pc + 3 = n) {a b' : Int} (ha : x.toInt = a) (hb : y.toInt = b') (FT : a < b' → Go p e below Fe Q K N T (mkF m t Ls rest)) (FF : b' ≤ a → Go p e below Fe Q K N T (mkF m n Ls rest)) : Go p e below Fe Q K N T (mkF m pc Ls (.int (lcmpW x y) :: rest)) := by
  subst ha hb
  exact ifc X hx hd ht hn (fun q => FT (lc_t.mp q)) (fun q => FF (by have := mt lc_t.mpr q; first | exact this | exact Int.not_lt.mp this | exact Int.not_le.mp this | exact Classical.not_not.mp this))
theorem lif_ge (X : Stand p l e R s m args below meth c T locs cells slots) (hx : p.tables.exec = Jvm.exec) {x y : Int64} {o : Int} (t n : Nat) (hd : decode c.code pc = .ok (.ifCond .ge o, 3)) (ht : (pc : Int) + o = t) (hn : pc + 3 = n) {a b' : Int} (ha : x.toInt = a) (hb : y.toInt = b') (FT : b' ≤ a → Go p e below Fe Q K N T (mkF m t Ls rest)) (FF : a < b' → Go p e below Fe Q K N T (mkF m n Ls rest)) : Go p e below Fe Q K N T (mkF m pc Ls (.int (lcmpW x y) :: rest)) := by
  subst ha hb
  exact ifc X hx hd ht hn (fun q => FT (lc_t.mp q)) (fun q => FF (by have := mt lc_t.mpr q; first | exact this | exact Int.not_lt.mp this | exact Int.not_le.mp this | exact Classical.not_not.mp this))
theorem lif_gt (X : Stand p l e R s m args below meth c T locs cells slots) (hx : p.tables.exec = Jvm.exec) {x y : Int64} {o : Int} (t n : Nat) (hd : decode c.code pc = .ok (.ifCond .gt o, 3)) (ht : (pc : Int) + o = t) (hn : pc + 3 = n) {a b' : Int} (ha : x.toInt = a) (hb : y.toInt = b') (FT : b' < a → Go p e below Fe Q K N T (mkF m t Ls rest)) (FF : a ≤ b' → Go p e below Fe Q K N T (mkF m n Ls rest)) : Go p e below Fe Q K N T (mkF m pc Ls (.int (lcmpW x y) :: rest)) := by
  subst ha hb
  exact ifc X hx hd ht hn (fun q => FT (lc_t.mp q)) (fun q => FF (by have := mt lc_t.mpr q; first | exact this | exact Int.not_lt.mp this | exact Int.not_le.mp this | exact Classical.not_not.mp this))
theorem lif_le (X : Stand p l e R s m args below meth c T locs cells slots) (hx : p.tables.exec = Jvm.exec) {x y : Int64} {o : Int} (t n : Nat) (hd : decode c.code pc = .ok (.ifCond .le o, 3)) (ht : (pc : Int) + o = t) (hn : pc + 3 = n) {a b' : Int} (ha : x.toInt = a) (hb : y.toInt = b') (FT : a ≤ b' → Go p e below Fe Q K N T (mkF m t Ls rest)) (FF : b' < a → Go p e below Fe Q K N T (mkF m n Ls rest)) : Go p e below Fe Q K N T (mkF m pc Ls (.int (lcmpW x y) :: rest)) := by
  subst ha hb
  exact ifc X hx hd ht hn (fun q => FT (lc_t.mp q)) (fun q => FF (by have := mt lc_t.mpr q; first | exact this | exact Int.not_lt.mp this | exact Int.not_le.mp this | exact Classical.not_not.mp this))
theorem acmp_ne (X : Stand p l e R s m args below meth c T locs cells slots) (hx : p.tables.exec = Jvm.exec) {x y : Value} {o : Int} (t n : Nat) (hd : decode c.code pc = .ok (.if_acmp .ne o, 3)) (ht : (pc : Int) + o = t) (hn : pc + 3 = n) (h1 : x.isRef = true) (h2 : y.isRef = true) (FT : ¬ x = y → Go p e below Fe Q K N T (mkF m t Ls rest)) (FF : x = y → Go p e below Fe Q K N T (mkF m n Ls rest)) : Go p e below Fe Q K N T (mkF m pc Ls (y :: x :: rest)) := by
  subst hn
  by_cases q : x = y
  · exact go (fun _ h => XT.acmpNo X.here hx rfl hd rfl h1 h2 (XT.aa_ne_f q) h) (FF q)
  · exact go (fun _ h => XT.acmpYes X.here hx rfl (pc0 := pc) (pc' := t) rfl hd rfl h1 h2 (XT.aa_ne_t q) (by rw [ht]; exact Int.natCast_nonneg _) (by rw [ht]; rfl) h) (FT q)
theorem acmp_eq (X : Stand p l e R s m args below meth c T locs cells slots) (hx : p.tables.exec = Jvm.exec) {x y : Value} {o : Int} (t n : Nat) (hd : decode c.code pc = .ok (.if_acmp .eq o, 3)) (ht : (pc : Int) + o = t) (hn : pc + 3 = n) (h1 : x.isRef = true) (h2 : y.isRef = true) (FT : x = y → Go p e below Fe Q K N T (mkF m t Ls rest)) (FF : ¬ x = y → Go p e below Fe Q K N T (mkF m n Ls rest)) : Go p e below Fe Q K N T (mkF m pc Ls (y :: x :: rest)) := by
  subst hn
  by_cases q : x = y
  · exact go (fun _ h => XT.acmpYes X.here hx rfl (pc0 := pc) (pc' := t) rfl hd rfl h1 h2 (XT.aa_eq_t q) (by rw [ht]; exact Int.natCast_nonneg _) (by rw [ht]; rfl) h) (FT q)
  · exact go (fun _ h => XT.acmpNo X.here hx rfl hd rfl h1 h2 (XT.aa_eq_f q) h) (FF q)
theorem nonnullR (X : Stand p l e R s m args below meth c T locs cells slots) (hx : p.tables.exec = Jvm.exec) {a : Addr} {o : Int} (t : Nat) (hd : decode c.code pc = .ok (.ifnonnull o, 3)) (ht : (pc : Int) + o = t) (F : Go p e below Fe Q K N T (mkF m t Ls rest)) : Go p e below Fe Q K N T (mkF m pc Ls (.ref a :: rest)) :=
  go (fun _ h => XT.ifnonnullYes X.here hx rfl (pc0 := pc) (pc' := t) rfl hd rfl (by rw [ht]; exact Int.natCast_nonneg _) (by rw [ht]; rfl) h) F
theorem nonnullN (X : Stand p l e R s m args below meth c T locs cells slots) (hx : p.tables.exec = Jvm.exec) {o : Int} (hd : decode c.code pc = .ok (.ifnonnull o, 3)) (hn : pc + 3 = n) (F : Go p e below Fe Q K N T (mkF m n Ls rest)) : Go p e below Fe Q K N T (mkF m pc Ls (.null :: rest)) := by
  subst hn
  exact go (fun _ h => XT.ifnonnullNo X.here hx rfl hd rfl h) F
theorem nullR (X : Stand p l e R s m args below meth c T locs cells slots) (hx : p.tables.exec = Jvm.exec) {a : Addr} {o : Int} (hd : decode c.code pc = .ok (.ifnull o, 3)) (hn : pc + 3 = n) (F : Go p e below Fe Q K N T (mkF m n Ls rest)) : Go p e below Fe Q K N T (mkF m pc Ls (.ref a :: rest)) := by
  subst hn
  exact go (fun _ h => XT.nullNo X.here hx rfl hd rfl rfl (by simp) h) F
theorem nullN (X : Stand p l e R s m args below meth c T locs cells slots) (hx : p.tables.exec = Jvm.exec) {o : Int} (t : Nat) (hd : decode c.code pc = .ok (.ifnull o, 3)) (ht : (pc : Int) + o = t) (F : Go p e below Fe Q K N T (mkF m t Ls rest)) : Go p e below Fe Q K N T (mkF m pc Ls (.null :: rest)) :=
  go (fun _ h => XT.nullYes X.here hx rfl (pc0 := pc) (pc' := t) rfl hd rfl rfl (by rw [ht]; exact Int.natCast_nonneg _) (by rw [ht]; rfl) h) F
theorem getS (X : Stand p l e R s m args below meth c T locs cells slots) (hx : p.tables.exec = Jvm.exec) (hZ : Z.Warmed39 s.vm) {own O f d host : String} {index : Nat} (hown : s.vm.findClass own = some m.cls) (w : (Cond.fieldLink own index O f d).before a0 Z = true ∨ (Cond.fieldLinkNest own index O f d host).before a0 Z = true) (eT : T.heap = h) {v : Value} (S : Sta Z h O f d v) (hd : decode c.code pc = .ok (.getstatic index, 3)) (hn : pc + 3 = n)
    (F : ∀ T', Stand p l e R s m args below meth c T' locs cells slots → T'.heap = h → Go p e below Fe Q K N T' (mkF m n Ls (v :: st))) : Go p e below Fe Q K N T (mkF m pc Ls st) := by
  subst hn
  obtain ⟨T', X', e', st'⟩ := getS2 X hx hZ hown (host := host) w Via.refl eT S (g := mkF m pc Ls st) rfl hd
  exact go (fun _ h => st' _ h) (F T' X' e')
theorem getF (X : Stand p l e R s m args below meth c T locs cells slots) (hx : p.tables.exec = Jvm.exec) (hZ : Z.Warmed39 s.vm) {own O f d host : String} {index : Nat} (hown : s.vm.findClass own = some m.cls) (w : (Cond.fieldLink own index O f d).before a0 Z = true ∨ (Cond.fieldLinkNest own index O f d host).before a0 Z = true) (eT : T.heap = h) {a : Addr} {v : Value} (S : Fld Z h a O f d v) (hd : decode c.code pc = .ok (.getfield index, 3)) (hn : pc + 3 = n)
    (F : ∀ T', Stand p l e R s m args below meth c T' locs cells slots → T'.heap = h → Go p e below Fe Q K N T' (mkF m n Ls (v :: st))) : Go p e below Fe Q K N T (mkF m pc Ls (.ref a :: st)) := by
  subst hn
  obtain ⟨T', X', e', st'⟩ := RoadKit.getF X hx hZ hown (host := host) w Via.refl eT S (g := mkF m pc Ls (.ref a :: st)) rfl rfl hd
  exact go (fun _ h => st' _ h) (F T' X' e')
theorem in_of {cl : Cell} {z j : Int32} (S : cl.slots.size = z.toNatClampNeg) (N : ¬ z < 0) (h1 : 0 ≤ j.toInt) (h2 : j.toInt < z.toInt) : ¬ (j < 0 ∨ cl.slots.size ≤ j.toNatClampNeg) := by
  rw [S, Int32.lt_iff_toInt_lt]
  rw [Int32.lt_iff_toInt_lt] at N
  have e0 : (0 : Int32).toInt = 0 := rfl
  have q1 : z.toNatClampNeg = z.toInt.toNat := rfl
  have q2 : j.toNatClampNeg = j.toInt.toNat := rfl
  omega
theorem alen (X : Stand p l e R s m args below meth c T locs cells slots) (hx : p.tables.exec = Jvm.exec) (hZ : Z.Warmed39 s.vm) {a : Addr} {k : ClassId} {ty : FieldType} {z : Int32} {vs : List Value} {d : Value} (eT : T.heap = h) (A : Arv Z h a k ty z vs d) (hd : decode c.code pc = .ok (.arraylength, 1)) (hn : pc + 1 = n) (F : Go p e below Fe Q K N T (mkF m n Ls (.int z :: st))) : Go p e below Fe Q K N T (mkF m pc Ls (.ref a :: st)) := by
  subst hn
  obtain ⟨cl, Ar, -, S, N, -, -⟩ := A
  refine go (fun _ h => X.arraylength hx (by rw [eT]; exact Ar.1) (State.isArrayOf_alike hZ.alike Ar.2.1) (g := mkF m pc Ls (.ref a :: st)) rfl rfl hd _ h) ?_
  rw [len_of S N]
  exact F
theorem iaload (X : Stand p l e R s m args below meth c T locs cells slots) (hx : p.tables.exec = Jvm.exec) (hZ : Z.Warmed39 s.vm) {a : Addr} {k : ClassId} {z j : Int32} {vs : List Value} {d v : Value} (eT : T.heap = h) (A : Arv Z h a k .int z vs d) (h1 : 0 ≤ j.toInt) (h2 : j.toInt < z.toInt) (hv : vs.getD j.toNatClampNeg d = v) (hd : decode c.code pc = .ok (.iaload, 1)) (hn : pc + 1 = n) (F : Go p e below Fe Q K N T (mkF m n Ls (v :: st))) : Go p e below Fe Q K N T (mkF m pc Ls (.int j :: .ref a :: st)) := by
  subst hn
  obtain ⟨cl, Ar, -, S, N, H, -⟩ := A
  have hin := in_of S N h1 h2
  exact go (fun _ h => X.iaload hx (j := j) (v := v) (by rw [eT]; exact Ar.1) (State.isArrayOf_alike hZ.alike Ar.2.1) Ar.2.2 hin (H.at hin hv) (g := mkF m pc Ls (.int j :: .ref a :: st)) rfl rfl hd _ h) F
theorem caload (X : Stand p l e R s m args below meth c T locs cells slots) (hx : p.tables.exec = Jvm.exec) (hZ : Z.Warmed39 s.vm) {a : Addr} {k : ClassId} {z j : Int32} {vs : List Value} {d v : Value} (eT : T.heap = h) (A : Arv Z h a k .char z vs d) (h1 : 0 ≤ j.toInt) (h2 : j.toInt < z.toInt) (hv : vs.getD j.toNatClampNeg d = v) (hd : decode c.code pc = .ok (.caload, 1)) (hn : pc + 1 = n) (F : Go p e below Fe Q K N T (mkF m n Ls (v :: st))) : Go p e below Fe Q K N T (mkF m pc Ls (.int j :: .ref a :: st)) := by
  subst hn
  obtain ⟨cl, Ar, -, S, N, H, -⟩ := A
  have hin := in_of S N h1 h2
  exact go (fun _ h => X.caload hx (j := j) (v := v) (by rw [eT]; exact Ar.1) (State.isArrayOf_alike hZ.alike Ar.2.1) Ar.2.2 hin (H.at hin hv) (g := mkF m pc Ls (.int j :: .ref a :: st)) rfl rfl hd _ h) F
theorem laload (X : Stand p l e R s m args below meth c T locs cells slots) (hx : p.tables.exec = Jvm.exec) (hZ : Z.Warmed39 s.vm) {a : Addr} {k : ClassId} {z j : Int32} {vs : List Value} {d v : Value} (eT : T.heap = h) (A : Arv Z h a k .long z vs d) (h1 : 0 ≤ j.toInt) (h2 : j.toInt < z.toInt) (hv : vs.getD j.toNatClampNeg d = v) (hd : decode c.code pc = .ok (.laload, 1)) (hn : pc + 1 = n) (F : Go p e below Fe Q K N T (mkF m n Ls (v :: st))) : Go p e below Fe Q K N T (mkF m pc Ls (.int j :: .ref a :: st)) := by
  subst hn
  obtain ⟨cl, Ar, -, S, N, H, -⟩ := A
  have hin := in_of S N h1 h2
  exact go (fun _ h => X.laload hx (j := j) (v := v) (by rw [eT]; exact Ar.1) (State.isArrayOf_alike hZ.alike Ar.2.1) Ar.2.2 hin (H.at hin hv) (g := mkF m pc Ls (.int j :: .ref a :: st)) rfl rfl hd _ h) F
theorem baload (X : Stand p l e R s m args below meth c T locs cells slots) (hx : p.tables.exec = Jvm.exec) (hZ : Z.Warmed39 s.vm) {a : Addr} {k : ClassId} {z j : Int32} {vs : List Value} {d v : Value} (eT : T.heap = h) (A : Arv Z h a k .byte z vs d) (h1 : 0 ≤ j.toInt) (h2 : j.toInt < z.toInt) (hv : vs.getD j.toNatClampNeg d = v) (hd : decode c.code pc = .ok (.baload, 1)) (hn : pc + 1 = n) (F : Go p e below Fe Q K N T (mkF m n Ls (v :: st))) : Go p e below Fe Q K N T (mkF m pc Ls (.int j :: .ref a :: st)) := by
  subst hn
  obtain ⟨cl, Ar, -, S, N, H, -⟩ := A
  have hin := in_of S N h1 h2
  exact go (fun _ h => X.baloadBytes hx (j := j) (v := v) (by rw [eT]; exact Ar.1) (State.isArrayOf_alike hZ.alike Ar.2.1) Ar.2.2 hin (H.at hin hv) (g := mkF m pc Ls (.int j :: .ref a :: st)) rfl rfl hd _ h) F
theorem aaload (X : Stand p l e R s m args below meth c T locs cells slots) (hx : p.tables.exec = Jvm.exec) (hZ : Z.Warmed39 s.vm) {a : Addr} {k : ClassId} {ty : FieldType} {z j : Int32} {vs : List Value} {d v : Value} (eT : T.heap = h) (A : Arv Z h a k ty z vs d) (hty : ty.isReference = true) (h1 : 0 ≤ j.toInt) (h2 : j.toInt < z.toInt) (hv : vs.getD j.toNatClampNeg d = v) (hd : decode c.code pc = .ok (.aaload, 1)) (hn : pc + 1 = n) (F : Go p e below Fe Q K N T (mkF m n Ls (v :: st))) : Go p e below Fe Q K N T (mkF m pc Ls (.int j :: .ref a :: st)) := by
  subst hn
  obtain ⟨cl, Ar, -, S, N, H, -⟩ := A
  have hin := in_of S N h1 h2
  exact go (fun _ h => X.aaload hx (j := j) (v := v) (by rw [eT]; exact Ar.1) (State.isArrayOf_alike hZ.alike Ar.2.1) hty Ar.2.2 hin (H.at hin hv) (g := mkF m pc Ls (.int j :: .ref a :: st)) rfl rfl hd _ h) F
theorem b01 {P : Prop} [Decidable P] : b P = 0 ∨ b P = 1 := by by_cases q : P <;> simp [b, q]
theorem fin {w : Option Value} {g : JFrame} (X : Stand p l e R s m args below meth c T locs cells slots) (hlk : meth.locks = false) (hv : meth.sig.returnType = none → w = none) (hc : cells ≤ K) (hs : slots ≤ N) (hQ : Q w T.heap locs) (step : ∀ fs, (∀ (f : JFrame) (acts : List Action), f.method = m → f.locked = none → f.entered = [] → (doReturn e (T.setTop f) acts w).1 = T.setFrames fs) → Steps p.tables e below (T.setTop g) (T.setFrames fs)) : Go p e below (FrameEnd s) Q K N T g := by
  obtain ⟨fs, hr, hrun, hended, hW, hsame⟩ := X.leave (v := w) hv hlk
  exact ⟨_, _, step fs hr, hrun, hended, _, _, rfl, hQ, ⟨_, rfl⟩, hW, hsame.mono hc hs⟩
theorem finW {w : Option Value} {g : JFrame} (X : Stand p l e R (s.setVm vm0) m args below meth c T locs cells slots) (hS : s.Since vm0 k0) (hk0 : k0 ≤ T.heap.size) (hlk : meth.locks = false) (hv : meth.sig.returnType = none → w = none) (hc : cells ≤ K) (hs : slots ≤ N) (hQ : Q w T.heap locs) (step : ∀ fs, (∀ (f : JFrame) (acts : List Action), f.method = m → f.locked = none → f.entered = [] → (doReturn e (T.setTop f) acts w).1 = T.setFrames fs) → Steps p.tables e below (T.setTop g) (T.setFrames fs)) : Go p e below (ReturnedEndW s) Q K N T g := by
  obtain ⟨fs, hr, hrun, hended, hW, hsame⟩ := X.leave (v := w) hv hlk
  obtain ⟨q1, q2, q3⟩ := hS.ended (U := T.setFrames fs) hW hk0 hsame
  exact ⟨_, _, step fs hr, hrun, hended, _, _, rfl, hQ, ⟨_, rfl⟩, q1, q2, q3.mono hc hs⟩
/-- the wide end, with a word on the tables -/
def EndV (s : State) (Qv : Vm → Prop) (o : Outcome) (t : State) (L : List Loc) (k n : Nat) : Prop := ReturnedEndW s o t L k n ∧ Qv t.vm
theorem finV {w : Option Value} {g : JFrame} {Qv : Vm → Prop} (X : Stand p l e R (s.setVm vm0) m args below meth c T locs cells slots) (hS : s.Since vm0 k0) (hk0 : k0 ≤ T.heap.size) (hV : Qv T.vm) (hlk : meth.locks = false) (hv : meth.sig.returnType = none → w = none) (hc : cells ≤ K) (hs : slots ≤ N) (hQ : Q w T.heap locs) (step : ∀ fs, (∀ (f : JFrame) (acts : List Action), f.method = m → f.locked = none → f.entered = [] → (doReturn e (T.setTop f) acts w).1 = T.setFrames fs) → Steps p.tables e below (T.setTop g) (T.setFrames fs)) : Go p e below (EndV s Qv) Q K N T g := by
  obtain ⟨fs, hr, hrun, hended, hW, hsame⟩ := X.leave (v := w) hv hlk
  obtain ⟨q1, q2, q3⟩ := hS.ended (U := T.setFrames fs) hW hk0 hsame
  exact ⟨_, _, step fs hr, hrun, hended, _, _, rfl, hQ, ⟨⟨_, rfl⟩, q1, q2, q3.mono hc hs⟩, hV⟩
theorem to_wide {g : JFrame} (F : Go p e below (FrameEnd s) Q K N T g) : Go p e below (ReturnedEndW s) Q K N T g := by
  obtain ⟨s₂, o, h1, h2, h3, v, L, h4, h5, h6⟩ := F
  exact ⟨s₂, o, h1, h2, h3, v, L, h4, h5, wide h6⟩
theorem retI (X : Stand p l e R s m args below meth c T locs cells slots) (hx : p.tables.exec = Jvm.exec) (hlk : meth.locks = false) (hret : meth.sig.returnType = some .int) {z : Int32} (hd : decode c.code pc = .ok (.ireturn, 1)) (hc : cells ≤ K) (hs : slots ≤ N) (hQ : Q (some (.int z)) T.heap locs) : Go p e below (FrameEnd s) Q K N T (mkF m pc Ls (.int z :: rest)) :=
  fin X hlk (fun h => by rw [hret] at h; cases h) hc hs hQ (fun _ hr => retOut X hx hret rfl (Or.inl ⟨rfl, Or.inl rfl, _, rfl⟩) hd hr)
theorem retZ (X : Stand p l e R s m args below meth c T locs cells slots) (hx : p.tables.exec = Jvm.exec) (hlk : meth.locks = false) (hret : meth.sig.returnType = some .boolean) {z : Int32} (hd : decode c.code pc = .ok (.ireturn, 1)) (hz : z = 0 ∨ z = 1) (hc : cells ≤ K) (hs : slots ≤ N) (hQ : Q (some (.int z)) T.heap locs) : Go p e below (FrameEnd s) Q K N T (mkF m pc Ls (.int z :: rest)) :=
  fin X hlk (fun h => by rw [hret] at h; cases h) hc hs hQ (fun _ hr => retOut X hx hret (by rcases hz with rfl | rfl <;> rfl) (Or.inl ⟨rfl, Or.inr (Or.inl rfl), _, rfl⟩) hd hr)
theorem retC (X : Stand p l e R s m args below meth c T locs cells slots) (hx : p.tables.exec = Jvm.exec) (hlk : meth.locks = false) (hret : meth.sig.returnType = some .char) {z : Int32} (hd : decode c.code pc = .ok (.ireturn, 1)) (hz : narrow .char (.int z) = .int z) (hc : cells ≤ K) (hs : slots ≤ N) (hQ : Q (some (.int z)) T.heap locs) : Go p e below (FrameEnd s) Q K N T (mkF m pc Ls (.int z :: rest)) :=
  fin X hlk (fun h => by rw [hret] at h; cases h) hc hs hQ (fun _ hr => retOut X hx hret hz (Or.inl ⟨rfl, Or.inr (Or.inr (Or.inr (Or.inl rfl))), _, rfl⟩) hd hr)
theorem retB (X : Stand p l e R s m args below meth c T locs cells slots) (hx : p.tables.exec = Jvm.exec) (hlk : meth.locks = false) (hret : meth.sig.returnType = some .byte) {z : Int32} (hd : decode c.code pc = .ok (.ireturn, 1)) (hz : narrow .byte (.int z) = .int z) (hc : cells ≤ K) (hs : slots ≤ N) (hQ : Q (some (.int z)) T.heap locs) : Go p e below (FrameEnd s) Q K N T (mkF m pc Ls (.int z :: rest)) :=
  fin X hlk (fun h => by rw [hret] at h; cases h) hc hs hQ (fun _ hr => retOut X hx hret hz (Or.inl ⟨rfl, Or.inr (Or.inr (Or.inl rfl)), _, rfl⟩) hd hr)
theorem retL (X : Stand p l e R s m args below meth c T locs cells slots) (hx : p.tables.exec = Jvm.exec) (hlk : meth.locks = false) (hret : meth.sig.returnType = some .long) {z : Int64} (hd : decode c.code pc = .ok (.lreturn, 1)) (hc : cells ≤ K) (hs : slots ≤ N) (hQ : Q (some (.long z)) T.heap locs) : Go p e below (FrameEnd s) Q K N T (mkF m pc Ls (.long z :: rest)) :=
  fin X hlk (fun h => by rw [hret] at h; cases h) hc hs hQ (fun _ hr => retOut X hx hret rfl (Or.inr (Or.inl ⟨rfl, rfl, _, rfl⟩)) hd hr)
theorem retA (X : Stand p l e R s m args below meth c T locs cells slots) (hx : p.tables.exec = Jvm.exec) (hlk : meth.locks = false) {ty : FieldType} (hret : meth.sig.returnType = some ty) (hty : ty.isReference = true) {v : Value} (hv : v.isRef = true) (hd : decode c.code pc = .ok (.areturn, 1)) (hc : cells ≤ K) (hs : slots ≤ N) (hQ : Q (some v) T.heap locs) : Go p e below (FrameEnd s) Q K N T (mkF m pc Ls (v :: rest)) :=
  fin X hlk (fun h => by rw [hret] at h; cases h) hc hs hQ (fun _ hr => retOut X hx hret (by cases ty <;> cases v <;> first | rfl | simp [Value.isRef] at hv | simp [FieldType.isReference] at hty) (Or.inr (Or.inr (Or.inr (Or.inr ⟨rfl, hty, hv⟩)))) hd hr)
theorem retV (X : Stand p l e R s m args below meth c T locs cells slots) (hx : p.tables.exec = Jvm.exec) (hlk : meth.locks = false) (hret : meth.sig.returnType = none) (hd : decode c.code pc = .ok (.return_, 1)) (hc : cells ≤ K) (hs : slots ≤ N) (hQ : Q none T.heap locs) : Go p e below (FrameEnd s) Q K N T (mkF m pc Ls []) :=
  fin X hlk (fun _ => rfl) hc hs hQ (fun _ hr => X.returnOut hx hret hd hr)
theorem retIW (X : Stand p l e R (s.setVm vm0) m args below meth c T locs cells slots) (hx : p.tables.exec = Jvm.exec) (hS : s.Since vm0 k0) (hk0 : k0 ≤ T.heap.size) (hlk : meth.locks = false) (hret : meth.sig.returnType = some .int) {z : Int32} (hd : decode c.code pc = .ok (.ireturn, 1)) (hc : cells ≤ K) (hs : slots ≤ N) (hQ : Q (some (.int z)) T.heap locs) : Go p e below (ReturnedEndW s) Q K N T (mkF m pc Ls (.int z :: rest)) :=
  finW X hS hk0 hlk (fun h => by rw [hret] at h; cases h) hc hs hQ (fun _ hr => retOut X hx hret rfl (Or.inl ⟨rfl, Or.inl rfl, _, rfl⟩) hd hr)
theorem retZW (X : Stand p l e R (s.setVm vm0) m args below meth c T locs cells slots) (hx : p.tables.exec = Jvm.exec) (hS : s.Since vm0 k0) (hk0 : k0 ≤ T.heap.size) (hlk : meth.locks = false) (hret : meth.sig.returnType = some .boolean) {z : Int32} (hd : decode c.code pc = .ok (.ireturn, 1)) (hz : z = 0 ∨ z = 1) (hc : cells ≤ K) (hs : slots ≤ N) (hQ : Q (some (.int z)) T.heap locs) : Go p e below (ReturnedEndW s) Q K N T (mkF m pc Ls (.int z :: rest)) :=
  finW X hS hk0 hlk (fun h => by rw [hret] at h; cases h) hc hs hQ (fun _ hr => retOut X hx hret (by rcases hz with rfl | rfl <;> rfl) (Or.inl ⟨rfl, Or.inr (Or.inl rfl), _, rfl⟩) hd hr)
theorem retCW (X : Stand p l e R (s.setVm vm0) m args below meth c T locs cells slots) (hx : p.tables.exec = Jvm.exec) (hS : s.Since vm0 k0) (hk0 : k0 ≤ T.heap.size) (hlk : meth.locks = false) (hret : meth.sig.returnType = some .char) {z : Int32} (hd : decode c.code pc = .ok (.ireturn, 1)) (hz : narrow .char (.int z) = .int z) (hc : cells ≤ K) (hs : slots ≤ N) (hQ : Q (some (.int z)) T.heap locs) : Go p e below (ReturnedEndW s) Q K N T (mkF m pc Ls (.int z :: rest)) :=
  finW X hS hk0 hlk (fun h => by rw [hret] at h; cases h) hc hs hQ (fun _ hr => retOut X hx hret hz (Or.inl ⟨rfl, Or.inr (Or.inr (Or.inr (Or.inl rfl))), _, rfl⟩) hd hr)
theorem retBW (X : Stand p l e R (s.setVm vm0) m args below meth c T locs cells slots) (hx : p.tables.exec = Jvm.exec) (hS : s.Since vm0 k0) (hk0 : k0 ≤ T.heap.size) (hlk : meth.locks = false) (hret : meth.sig.returnType = some .byte) {z : Int32} (hd : decode c.code pc = .ok (.ireturn, 1)) (hz : narrow .byte (.int z) = .int z) (hc : cells ≤ K) (hs : slots ≤ N) (hQ : Q (some (.int z)) T.heap locs) : Go p e below (ReturnedEndW s) Q K N T (mkF m pc Ls (.int z :: rest)) :=
  finW X hS hk0 hlk (fun h => by rw [hret] at h; cases h) hc hs hQ (fun _ hr => retOut X hx hret hz (Or.inl ⟨rfl, Or.inr (Or.inr (Or.inl rfl)), _, rfl⟩) hd hr)
theorem retLW (X : Stand p l e R (s.setVm vm0) m args below meth c T locs cells slots) (hx : p.tables.exec = Jvm.exec) (hS : s.Since vm0 k0) (hk0 : k0 ≤ T.heap.size) (hlk : meth.locks = false) (hret : meth.sig.returnType = some .long) {z : Int64} (hd : decode c.code pc = .ok (.lreturn, 1)) (hc : cells ≤ K) (hs : slots ≤ N) (hQ : Q (some (.long z)) T.heap locs) : Go p e below (ReturnedEndW s) Q K N T (mkF m pc Ls (.long z :: rest)) :=
  finW X hS hk0 hlk (fun h => by rw [hret] at h; cases h) hc hs hQ (fun _ hr => retOut X hx hret rfl (Or.inr (Or.inl ⟨rfl, rfl, _, rfl⟩)) hd hr)
theorem retAW (X : Stand p l e R (s.setVm vm0) m args below meth c T locs cells slots) (hx : p.tables.exec = Jvm.exec) (hS : s.Since vm0 k0) (hk0 : k0 ≤ T.heap.size) (hlk : meth.locks = false) {ty : FieldType} (hret : meth.sig.returnType = some ty) (hty : ty.isReference = true) {v : Value} (hv : v.isRef = true) (hd : decode c.code pc = .ok (.areturn, 1)) (hc : cells ≤ K) (hs : slots ≤ N) (hQ : Q (some v) T.heap locs) : Go p e below (ReturnedEndW s) Q K N T (mkF m pc Ls (v :: rest)) :=
  finW X hS hk0 hlk (fun h => by rw [hret] at h; cases h) hc hs hQ (fun _ hr => retOut X hx hret (by cases ty <;> cases v <;> first | rfl | simp [Value.isRef] at hv | simp [FieldType.isReference] at hty) (Or.inr (Or.inr (Or.inr (Or.inr ⟨rfl, hty, hv⟩)))) hd hr)
theorem retVW (X : Stand p l e R (s.setVm vm0) m args below meth c T locs cells slots) (hx : p.tables.exec = Jvm.exec) (hS : s.Since vm0 k0) (hk0 : k0 ≤ T.heap.size) (hlk : meth.locks = false) (hret : meth.sig.returnType = none) (hd : decode c.code pc = .ok (.return_, 1)) (hc : cells ≤ K) (hs : slots ≤ N) (hQ : Q none T.heap locs) : Go p e below (ReturnedEndW s) Q K N T (mkF m pc Ls []) :=
  finW X hS hk0 hlk (fun _ => rfl) hc hs hQ (fun _ hr => X.returnOut hx hret hd hr)
theorem retIV (X : Stand p l e R (s.setVm vm0) m args below meth c T locs cells slots) (hx : p.tables.exec = Jvm.exec) {Qv : Vm → Prop} (hS : s.Since vm0 k0) (hk0 : k0 ≤ T.heap.size) (hV : Qv T.vm) (hlk : meth.locks = false) (hret : meth.sig.returnType = some .int) {z : Int32} (hd : decode c.code pc = .ok (.ireturn, 1)) (hc : cells ≤ K) (hs : slots ≤ N) (hQ : Q (some (.int z)) T.heap locs) : Go p e below (EndV s Qv) Q K N T (mkF m pc Ls (.int z :: rest)) :=
  finV X hS hk0 hV hlk (fun h => by rw [hret] at h; cases h) hc hs hQ (fun _ hr => retOut X hx hret rfl (Or.inl ⟨rfl, Or.inl rfl, _, rfl⟩) hd hr)
theorem retZV (X : Stand p l e R (s.setVm vm0) m args below meth c T locs cells slots) (hx : p.tables.exec = Jvm.exec) {Qv : Vm → Prop} (hS : s.Since vm0 k0) (hk0 : k0 ≤ T.heap.size) (hV : Qv T.vm) (hlk : meth.locks = false) (hret : meth.sig.returnType = some .boolean) {z : Int32} (hd : decode c.code pc = .ok (.ireturn, 1)) (hz : z = 0 ∨ z = 1) (hc : cells ≤ K) (hs : slots ≤ N) (hQ : Q (some (.int z)) T.heap locs) : Go p e below (EndV s Qv) Q K N T (mkF m pc Ls (.int z :: rest)) :=
  finV X hS hk0 hV hlk (fun h => by rw [hret] at h; cases h) hc hs hQ (fun _ hr => retOut X hx hret (by rcases hz with rfl | rfl <;> rfl) (Or.inl ⟨rfl, Or.inr (Or.inl rfl), _, rfl⟩) hd hr)
theorem retCV (X : Stand p l e R (s.setVm vm0) m args below meth c T locs cells slots) (hx : p.tables.exec = Jvm.exec) {Qv : Vm → Prop} (hS : s.Since vm0 k0) (hk0 : k0 ≤ T.heap.size) (hV : Qv T.vm) (hlk : meth.locks = false) (hret : meth.sig.returnType = some .char) {z : Int32} (hd : decode c.code pc = .ok (.ireturn, 1)) (hz : narrow .char (.int z) = .int z) (hc : cells ≤ K) (hs : slots ≤ N) (hQ : Q (some (.int z)) T.heap locs) : Go p e below (EndV s Qv) Q K N T (mkF m pc Ls (.int z :: rest)) :=
  finV X hS hk0 hV hlk (fun h => by rw [hret] at h; cases h) hc hs hQ (fun _ hr => retOut X hx hret hz (Or.inl ⟨rfl, Or.inr (Or.inr (Or.inr (Or.inl rfl))), _, rfl⟩) hd hr)
theorem retBV (X : Stand p l e R (s.setVm vm0) m args below meth c T locs cells slots) (hx : p.tables.exec = Jvm.exec) {Qv : Vm → Prop} (hS : s.Since vm0 k0) (hk0 : k0 ≤ T.heap.size) (hV : Qv T.vm) (hlk : meth.locks = false) (hret : meth.sig.returnType = some .byte) {z : Int32} (hd : decode c.code pc = .ok (.ireturn, 1)) (hz : narrow .byte (.int z) = .int z) (hc : cells ≤ K) (hs : slots ≤ N) (hQ : Q (some (.int z)) T.heap locs) : Go p e below (EndV s Qv) Q K N T (mkF m pc Ls (.int z :: rest)) :=
  finV X hS hk0 hV hlk (fun h => by rw [hret] at h; cases h) hc hs hQ (fun _ hr => retOut X hx hret hz (Or.inl ⟨rfl, Or.inr (Or.inr (Or.inl rfl)), _, rfl⟩) hd hr)
theorem retLV (X : Stand p l e R (s.setVm vm0) m args below meth c T locs cells slots) (hx : p.tables.exec = Jvm.exec) {Qv : Vm → Prop} (hS : s.Since vm0 k0) (hk0 : k0 ≤ T.heap.size) (hV : Qv T.vm) (hlk : meth.locks = false) (hret : meth.sig.returnType = some .long) {z : Int64} (hd : decode c.code pc = .ok (.lreturn, 1)) (hc : cells ≤ K) (hs : slots ≤ N) (hQ : Q (some (.long z)) T.heap locs) : Go p e below (EndV s Qv) Q K N T (mkF m pc Ls (.long z :: rest)) :=
  finV X hS hk0 hV hlk (fun h => by rw [hret] at h; cases h) hc hs hQ (fun _ hr => retOut X hx hret rfl (Or.inr (Or.inl ⟨rfl, rfl, _, rfl⟩)) hd hr)
theorem retAV (X : Stand p l e R (s.setVm vm0) m args below meth c T locs cells slots) (hx : p.tables.exec = Jvm.exec) {Qv : Vm → Prop} (hS : s.Since vm0 k0) (hk0 : k0 ≤ T.heap.size) (hV : Qv T.vm) (hlk : meth.locks = false) {ty : FieldType} (hret : meth.sig.returnType = some ty) (hty : ty.isReference = true) {v : Value} (hv : v.isRef = true) (hd : decode c.code pc = .ok (.areturn, 1)) (hc : cells ≤ K) (hs : slots ≤ N) (hQ : Q (some v) T.heap locs) : Go p e below (EndV s Qv) Q K N T (mkF m pc Ls (v :: rest)) :=
  finV X hS hk0 hV hlk (fun h => by rw [hret] at h; cases h) hc hs hQ (fun _ hr => retOut X hx hret (by cases ty <;> cases v <;> first | rfl | simp [Value.isRef] at hv | simp [FieldType.isReference] at hty) (Or.inr (Or.inr (Or.inr (Or.inr ⟨rfl, hty, hv⟩)))) hd hr)
theorem retVV (X : Stand p l e R (s.setVm vm0) m args below meth c T locs cells slots) (hx : p.tables.exec = Jvm.exec) {Qv : Vm → Prop} (hS : s.Since vm0 k0) (hk0 : k0 ≤ T.heap.size) (hV : Qv T.vm) (hlk : meth.locks = false) (hret : meth.sig.returnType = none) (hd : decode c.code pc = .ok (.return_, 1)) (hc : cells ≤ K) (hs : slots ≤ N) (hQ : Q none T.heap locs) : Go p e below (EndV s Qv) Q K N T (mkF m pc Ls []) :=
  finV X hS hk0 hV hlk (fun _ => rfl) hc hs hQ (fun _ hr => X.returnOut hx hret hd hr)
/-- a method's contract: with the arguments as', over the heap h0, it comes back and Q holds -/
def Met (l : Launch) (Z : State) (y : MethodName) (bytes : ByteArray) (maxL : Nat) (ret : Option FieldType) (ws : List Cond) (rm : Room) (as' : Array Value) (h0 : Heap) (Q : Option Value → Heap → List Loc → Prop) : Prop :=
  MetFree l y (head1 (Cond.code y bytes maxL ret :: ws) rm) (fun a U => a = as' ∧ Z.Warmed39 U.vm ∧ U.heap = h0) (fun _ _ _ _ _ => True) (fun _ U o U' => ∃ v L, o = .returned v ∧ Q v U'.heap L ∧ FrameEnd U o U' L rm.cells rm.slots)
/-- nothing written, nothing made: it returns w -/
def Pu (w : Value) (h0 : Heap) (v : Option Value) (h : Heap) (L : List Loc) : Prop := v = some w ∧ L = [] ∧ h = h0
theorem start {y : MethodName} {bytes : ByteArray} {maxL : Nat} {ret : Option FieldType} {ws : List Cond} {rm : Room} {as' : Array Value} {h0 : Heap} (pn : plainName y.cls = true)
    (body : ∀ (p : Program) (e : Env) (s : State) (m : MethodId) (below : List Frame) (meth : Method) (c : Code) (s₁ : State), Stand p l e rm s m as' below meth c s₁ [] 0 0 → p.tables.exec = Jvm.exec → c.code = bytes → c.maxLocals = maxL → s.vm.findClass y.cls = some m.cls → meth.name = y.name → meth.sig.returnType = ret → meth.locks = false → Z.Warmed39 s.vm → s₁.heap = h0 → Go p e below (FrameEnd s) Q rm.cells rm.slots s₁ (entryFrame m as' maxL)) : Met l Z y bytes maxL ret ws rm as' h0 Q := by
  refine MetFree.of_bodySF (plainFor_of_name pn) hisR ?_
  intro p e s m args below meth c s₁ Bd hml0 hP hK
  obtain ⟨rfl, hZ, hh⟩ := hP
  exact body p e s m below meth c s₁ (Stand.of_body Bd) Bd.exec Bd.bytes hml0 (findClass_of_methodNamed Bd.named) (name_of_methodNamed Bd.named Bd.method).1 Bd.returns Bd.notSynchronized hZ (by rw [← hh, Bd.state]; rfl)
theorem enter {g g' : JFrame} (q : g = g') (F : Go p e below Fe Q K N T g') : Go p e below Fe Q K N T g := q ▸ F
theorem callS (X : Stand p l e R s m args below meth c T locs cells slots) (hx : p.tables.exec = Jvm.exec) (hZ : Z.Warmed39 s.vm) {own : String} {index : Nat} {y : MethodName} {bytes : ByteArray} {maxL W : Nat} {ret : Option FieldType} {rm : Room} {Qc : Option Value → Heap → List Loc → Prop} {argsL : List Value} (hown : s.vm.findClass own = some m.cls)
    (wl : (Cond.methodLink own index y).before a0 Z = true) (ws : (Cond.static y).before a0 Z = true) (wi : (Cond.initialized y.cls).before a0 Z = true) (wc : (Cond.code y bytes maxL ret).before a0 Z = true) (hy : y.cls ≠ "java/lang/invoke/MethodHandle" ∧ y.cls ≠ "java/lang/invoke/VarHandle")
    (hM : Met l Z y bytes maxL ret [] rm argsL.toArray h Qc) (eT : T.heap = h) (hf : rm.frames + 1 ≤ R.frames) (hl : W + (maxL + 11) + rm.locals ≤ R.locals) (hck : cells + rm.cells ≤ R.cells) (hsk : slots + rm.slots ≤ R.slots) (hsz : Ls.size = c.maxLocals)
    (hlen : ∀ sig, parseMethodDescriptor y.desc = some sig → argsL.length = sig.parameters.length) (hst : st = argsL.reverse ++ rest) (hW : (rest.map fun v => v.category).sum ≤ W) (hd : decode c.code pc = .ok (.invokestatic index, 3)) (hn : pc + 3 = n)
    (F : ∀ T' v L, Stand p l e R s m args below meth c T' (locs ++ L) (cells + rm.cells) (slots + rm.slots) → Qc v T'.heap L → Go p e below Fe Q K N T' (mkF m n Ls (v.toList ++ rest))) : Go p e below Fe Q K N T (mkF m pc Ls st) := by
  subst hn
  obtain ⟨v, _, ⟨T18, L18, k18, n18⟩, -, X18, ⟨Lc18, hQ18, l18, y18, z18⟩, st18⟩ := Jvm.LawKit.callS X hx (y := y) hown (mvT hZ wl) (mvT hZ ws) (mvT hZ wi) (mvT hZ wc) hy (backOf (W := W) hM hZ wc wi hf hl) (g := mkF m pc Ls st) rfl hsz (argsL := argsL) (rest := rest) hlen hst (by show 2 * 0 + _ ≤ _; omega) hd (fun _ _ => ⟨rfl, eT, hck, hsk⟩)
  dsimp only [Pt.U, Pt.locs, Pt.cells, Pt.slots] at X18 l18 y18 z18 st18 hQ18
  subst l18 y18 z18
  exact go (fun _ h => st18 _ h) (F T18 v Lc18 X18 hQ18)
theorem callP (X : Stand p l e R s m args below meth c T locs cells slots) (hx : p.tables.exec = Jvm.exec) (hZ : Z.Warmed39 s.vm) {own : String} {index : Nat} {y : MethodName} {bytes : ByteArray} {maxL W : Nat} {ret : Option FieldType} {fr lo : Nat} {w : Value} {argsL : List Value} (hown : s.vm.findClass own = some m.cls)
    (wl : (Cond.methodLink own index y).before a0 Z = true) (ws : (Cond.static y).before a0 Z = true) (wi : (Cond.initialized y.cls).before a0 Z = true) (wc : (Cond.code y bytes maxL ret).before a0 Z = true) (hy : y.cls ≠ "java/lang/invoke/MethodHandle" ∧ y.cls ≠ "java/lang/invoke/VarHandle")
    (hM : Met l Z y bytes maxL ret [] { frames := fr, cells := 0, slots := 0, locals := lo } argsL.toArray h (Pu w h)) (eT : T.heap = h) (hf : fr + 1 ≤ R.frames) (hl : W + (maxL + 11) + lo ≤ R.locals) (hck : cells ≤ R.cells) (hsk : slots ≤ R.slots) (hsz : Ls.size = c.maxLocals)
    (hlen : ∀ sig, parseMethodDescriptor y.desc = some sig → argsL.length = sig.parameters.length) (hst : st = argsL.reverse ++ rest) (hW : (rest.map fun v => v.category).sum ≤ W) (hd : decode c.code pc = .ok (.invokestatic index, 3)) (hn : pc + 3 = n)
    (F : ∀ T', Stand p l e R s m args below meth c T' locs cells slots → T'.heap = h → Go p e below Fe Q K N T' (mkF m n Ls (w :: rest))) : Go p e below Fe Q K N T (mkF m pc Ls st) := by
  refine callS X hx hZ hown wl ws wi wc hy hM eT hf hl hck hsk hsz hlen hst hW hd hn ?_
  rintro T' v L X' ⟨rfl, rfl, hh⟩
  rw [List.append_nil] at X'
  exact F T' X' hh
theorem callV (X : Stand p l e R s m args below meth c T locs cells slots) (hx : p.tables.exec = Jvm.exec) (hZ : Z.Warmed39 s.vm) {own C : String} {index : Nat} {y z : MethodName} {bytes : ByteArray} {maxL W : Nat} {ret : Option FieldType} {rm : Room} {Qc : Option Value → Heap → List Loc → Prop} {argsL : List Value} {a : Addr} (hown : s.vm.findClass own = some m.cls)
    (wl : (Cond.methodLink own index y).before a0 Z = true) (wd : (Cond.declares y).before a0 Z = true) (wsel : (Cond.selects C y z).before a0 Z = true) (wm : (Cond.instanceMethod z).before a0 Z = true) (wi : (Cond.initialized z.cls).before a0 Z = true) (wc : (Cond.code z bytes maxL ret).before a0 Z = true) (hnf : NotFace s y) (hy : y.cls ≠ "java/lang/invoke/MethodHandle" ∧ y.cls ≠ "java/lang/invoke/VarHandle")
    (hM : Met l Z z bytes maxL ret [] rm (Value.ref a :: argsL).toArray h Qc) (eT : T.heap = h) (E : Exa Z h a C) (hf : rm.frames + 1 ≤ R.frames) (hl : W + (maxL + 11) + rm.locals ≤ R.locals) (hck : cells + rm.cells ≤ R.cells) (hsk : slots + rm.slots ≤ R.slots) (hsz : Ls.size = c.maxLocals)
    (hlen : ∀ sig, parseMethodDescriptor y.desc = some sig → argsL.length = sig.parameters.length) (hst : st = argsL.reverse ++ .ref a :: rest) (hW : (rest.map fun v => v.category).sum ≤ W) (hd : decode c.code pc = .ok (.invokevirtual index, 3)) (hn : pc + 3 = n)
    (F : ∀ T' v L, Stand p l e R s m args below meth c T' (locs ++ L) (cells + rm.cells) (slots + rm.slots) → Qc v T'.heap L → Go p e below Fe Q K N T' (mkF m n Ls (v.toList ++ rest))) : Go p e below Fe Q K N T (mkF m pc Ls st) := by
  subst hn
  obtain ⟨cq, kq, qa, qb, qc⟩ := isOf hZ eT E
  obtain ⟨v, _, ⟨T18, L18, k18, n18⟩, -, X18, ⟨Lc18, hQ18, l18, y18, z18⟩, st18⟩ := X.virtualBack hx (y := y) (z := z) hown (mvT hZ wl) (mvT hZ wd) hnf (mvT hZ wsel) (mvT hZ wm) hy (backOf (W := W) hM hZ wc wi hf hl) qa qc (g := mkF m pc Ls st) rfl hsz (Steps.refl _) (argsL := argsL) (rest := rest) hlen hst (by show 2 * 0 + _ ≤ _; omega) hd (fun _ _ => ⟨rfl, eT, hck, hsk⟩)
  dsimp only [Pt.U, Pt.locs, Pt.cells, Pt.slots] at X18 l18 y18 z18 st18 hQ18
  subst l18 y18 z18
  exact go (fun _ h => st18.trans h) (F T18 v Lc18 X18 hQ18)
theorem callVP (X : Stand p l e R s m args below meth c T locs cells slots) (hx : p.tables.exec = Jvm.exec) (hZ : Z.Warmed39 s.vm) {own C : String} {index : Nat} {y z : MethodName} {bytes : ByteArray} {maxL W : Nat} {ret : Option FieldType} {fr lo : Nat} {w : Value} {argsL : List Value} {a : Addr} (hown : s.vm.findClass own = some m.cls)
    (wl : (Cond.methodLink own index y).before a0 Z = true) (wd : (Cond.declares y).before a0 Z = true) (wsel : (Cond.selects C y z).before a0 Z = true) (wm : (Cond.instanceMethod z).before a0 Z = true) (wi : (Cond.initialized z.cls).before a0 Z = true) (wc : (Cond.code z bytes maxL ret).before a0 Z = true) (hnf : NotFace s y) (hy : y.cls ≠ "java/lang/invoke/MethodHandle" ∧ y.cls ≠ "java/lang/invoke/VarHandle")
    (hM : Met l Z z bytes maxL ret [] { frames := fr, cells := 0, slots := 0, locals := lo } (Value.ref a :: argsL).toArray h (Pu w h)) (eT : T.heap = h) (E : Exa Z h a C) (hf : fr + 1 ≤ R.frames) (hl : W + (maxL + 11) + lo ≤ R.locals) (hck : cells ≤ R.cells) (hsk : slots ≤ R.slots) (hsz : Ls.size = c.maxLocals)
    (hlen : ∀ sig, parseMethodDescriptor y.desc = some sig → argsL.length = sig.parameters.length) (hst : st = argsL.reverse ++ .ref a :: rest) (hW : (rest.map fun v => v.category).sum ≤ W) (hd : decode c.code pc = .ok (.invokevirtual index, 3)) (hn : pc + 3 = n)
    (F : ∀ T', Stand p l e R s m args below meth c T' locs cells slots → T'.heap = h → Go p e below Fe Q K N T' (mkF m n Ls (w :: rest))) : Go p e below Fe Q K N T (mkF m pc Ls st) := by
  refine callV X hx hZ hown wl wd wsel wm wi wc hnf hy hM eT E hf hl hck hsk hsz hlen hst hW hd hn ?_
  rintro T' v L X' ⟨rfl, rfl, hh⟩
  rw [List.append_nil] at X'
  exact F T' X' hh
theorem icmp_eqB (X : Stand p l e R s m args below meth c T locs cells slots) (hx : p.tables.exec = Jvm.exec) {P P' : Prop} [Decidable P] [Decidable P'] {o : Int} (t n : Nat) (hd : decode c.code pc = .ok (.if_icmp .eq o, 3)) (ht : (pc : Int) + o = t) (hn : pc + 3 = n) (FT : (P ↔ P') → Go p e below Fe Q K N T (mkF m t Ls rest)) (FF : ¬ (P ↔ P') → Go p e below Fe Q K N T (mkF m n Ls rest)) : Go p e below Fe Q K N T (mkF m pc Ls (.int (b P') :: .int (b P) :: rest)) :=
  icmp_eq X hx t n hd ht hn rfl rfl (fun q => FT (b_inj (Int32.toInt_inj.mp q))) (fun q => FF fun z => q (by rw [b_iff z]))
theorem tsw (X : Stand p l e R s m args below meth c T locs cells slots) (hx : p.tables.exec = Jvm.exec) {dflt low high : Int} {offs : Array Int} {len : Nat} {o : Int} {i : Int32} (t : Nat) (hd : decode c.code pc = .ok (.tableswitch dflt low high offs, len)) (hin : ¬ (i.toInt < low ∨ i.toInt > high)) (hoff : offs[(i.toInt - low).toNat]? = some o) (ht : (pc : Int) + o = t) (F : Go p e below Fe Q K N T (mkF m t Ls rest)) : Go p e below Fe Q K N T (mkF m pc Ls (.int i :: rest)) :=
  go (fun _ h => XS.tswIn X.here hx rfl (pc0 := pc) (pc' := t) rfl hd rfl hin hoff (by rw [ht]; exact Int.natCast_nonneg _) (by rw [ht]; rfl) h) F
theorem callVU (X : Stand p l e R s m args below meth c T locs cells slots) (hx : p.tables.exec = Jvm.exec) (hZ : Z.Warmed39 s.vm) {own C owner : String} {index : Nat} {y z : MethodName} {bytes : ByteArray} {maxL W : Nat} {ret : Option FieldType} {rm : Room} {Qc : Option Value → Heap → List Loc → Prop} {argsL : List Value} {a : Addr} (hown : s.vm.findClass own = some m.cls)
    (wl : (Cond.methodLink own index y).before a0 Z = true) (wsm : (Cond.sameMethod y.cls owner y.name y.desc).before a0 Z = true) (wd : (Cond.declares ⟨owner, y.name, y.desc⟩).before a0 Z = true) (wsel : (Cond.selects C y z).before a0 Z = true) (wm : (Cond.instanceMethod z).before a0 Z = true) (wi : (Cond.initialized z.cls).before a0 Z = true) (wc : (Cond.code z bytes maxL ret).before a0 Z = true) (hy : owner ≠ "java/lang/invoke/MethodHandle" ∧ owner ≠ "java/lang/invoke/VarHandle")
    (hM : Met l Z z bytes maxL ret [] rm (Value.ref a :: argsL).toArray h Qc) (eT : T.heap = h) (E : Exa Z h a C) (hf : rm.frames + 1 ≤ R.frames) (hl : W + (maxL + 11) + rm.locals ≤ R.locals) (hck : cells + rm.cells ≤ R.cells) (hsk : slots + rm.slots ≤ R.slots) (hsz : Ls.size = c.maxLocals)
    (hlen : ∀ sig, parseMethodDescriptor y.desc = some sig → argsL.length = sig.parameters.length) (hst : st = argsL.reverse ++ .ref a :: rest) (hW : (rest.map fun v => v.category).sum ≤ W) (hd : decode c.code pc = .ok (.invokevirtual index, 3)) (hn : pc + 3 = n)
    (F : ∀ T' v L, Stand p l e R s m args below meth c T' (locs ++ L) (cells + rm.cells) (slots + rm.slots) → Qc v T'.heap L → Go p e below Fe Q K N T' (mkF m n Ls (v.toList ++ rest))) : Go p e below Fe Q K N T (mkF m pc Ls st) := by
  subst hn
  obtain ⟨cq, kq, qa, qb, qc⟩ := isOf hZ eT E
  obtain ⟨v, _, ⟨T18, L18, k18, n18⟩, -, X18, ⟨Lc18, hQ18, l18, y18, z18⟩, st18⟩ := X.virtualBackUp hx (x := y) (y := z) hown (mvT hZ wl) (mvT hZ wsm) (mvT hZ wd) hy (mvT hZ wsel) (mvT hZ wm) (backOf (W := W) hM hZ wc wi hf hl) qa qc (g := mkF m pc Ls st) rfl hsz (Steps.refl _) (argsL := argsL) (rest := rest) hlen hst (by show 2 * 0 + _ ≤ _; omega) hd (fun _ _ => ⟨rfl, eT, hck, hsk⟩)
  dsimp only [Pt.U, Pt.locs, Pt.cells, Pt.slots] at X18 l18 y18 z18 st18 hQ18
  subst l18 y18 z18
  exact go (fun _ h => st18.trans h) (F T18 v Lc18 X18 hQ18)
theorem callVUP (X : Stand p l e R s m args below meth c T locs cells slots) (hx : p.tables.exec = Jvm.exec) (hZ : Z.Warmed39 s.vm) {own C owner : String} {index : Nat} {y z : MethodName} {bytes : ByteArray} {maxL W : Nat} {ret : Option FieldType} {fr lo : Nat} {w : Value} {argsL : List Value} {a : Addr} (hown : s.vm.findClass own = some m.cls)
    (wl : (Cond.methodLink own index y).before a0 Z = true) (wsm : (Cond.sameMethod y.cls owner y.name y.desc).before a0 Z = true) (wd : (Cond.declares ⟨owner, y.name, y.desc⟩).before a0 Z = true) (wsel : (Cond.selects C y z).before a0 Z = true) (wm : (Cond.instanceMethod z).before a0 Z = true) (wi : (Cond.initialized z.cls).before a0 Z = true) (wc : (Cond.code z bytes maxL ret).before a0 Z = true) (hy : owner ≠ "java/lang/invoke/MethodHandle" ∧ owner ≠ "java/lang/invoke/VarHandle")
    (hM : Met l Z z bytes maxL ret [] { frames := fr, cells := 0, slots := 0, locals := lo } (Value.ref a :: argsL).toArray h (Pu w h)) (eT : T.heap = h) (E : Exa Z h a C) (hf : fr + 1 ≤ R.frames) (hl : W + (maxL + 11) + lo ≤ R.locals) (hck : cells ≤ R.cells) (hsk : slots ≤ R.slots) (hsz : Ls.size = c.maxLocals)
    (hlen : ∀ sig, parseMethodDescriptor y.desc = some sig → argsL.length = sig.parameters.length) (hst : st = argsL.reverse ++ .ref a :: rest) (hW : (rest.map fun v => v.category).sum ≤ W) (hd : decode c.code pc = .ok (.invokevirtual index, 3)) (hn : pc + 3 = n)
    (F : ∀ T', Stand p l e R s m args below meth c T' locs cells slots → T'.heap = h → Go p e below Fe Q K N T' (mkF m n Ls (w :: rest))) : Go p e below Fe Q K N T (mkF m pc Ls st) := by
  refine callVU X hx hZ hown wl wsm wd wsel wm wi wc hy hM eT E hf hl hck hsk hsz hlen hst hW hd hn ?_
  rintro T' v L X' ⟨rfl, rfl, hh⟩
  rw [List.append_nil] at X'
  exact F T' X' hh
theorem cutF (g' : JFrame) {g : JFrame} (h1 : Go p e below Fe Q K N T g' → Go p e below Fe Q K N T g) (h2 : Go p e below Fe Q K N T g') : Go p e below Fe Q K N T g := h1 h2
theorem cutJ (g' : Int32 → JFrame) {g : JFrame} (h1 : (∀ j, Go p e below Fe Q K N T (g' j)) → Go p e below Fe Q K N T g) (h2 : ∀ j, Go p e below Fe Q K N T (g' j)) : Go p e below Fe Q K N T g := h1 h2
theorem cutX (X : Stand p l e R s m args below meth c T locs cells slots) (eT : T.heap = h) (g' : JFrame) {g : JFrame} (h1 : (∀ T', Stand p l e R s m args below meth c T' locs cells slots → T'.heap = h → Go p e below Fe Q K N T' g') → Go p e below Fe Q K N T g) (h2 : ∀ T', Stand p l e R s m args below meth c T' locs cells slots → T'.heap = h → Go p e below Fe Q K N T' g') : Go p e below Fe Q K N T g := h1 h2
theorem pu {w : Value} {h' : Heap} (e : h' = h) : Pu w h (some w) h' [] := ⟨rfl, rfl, e⟩
theorem puE {w w' : Value} {h' : Heap} (q : w' = w) (e : h' = h) : Pu w h (some w') h' [] := ⟨by rw [q], rfl, e⟩
theorem puB1 {P : Prop} [Decidable P] {h' : Heap} (hP : P) (e : h' = h) : Pu (.int (b P)) h (some (.int 1)) h' [] := ⟨by rw [b_t hP], rfl, e⟩
theorem puB0 {P : Prop} [Decidable P] {h' : Heap} (hP : ¬ P) (e : h' = h) : Pu (.int (b P)) h (some (.int 0)) h' [] := ⟨by rw [b_f hP], rfl, e⟩
end W
section A
theorem t_add {x y : Int32} {a b' : Int} (ha : x.toInt = a) (hb : y.toInt = b') (h1 : -2147483648 ≤ a + b') (h2 : a + b' < 2147483648) : (x + y).toInt = a + b' := by
  subst ha hb; rw [Int32.toInt_add]; exact Int.bmod_eq_of_le (by omega) (by omega)
theorem t_sub {x y : Int32} {a b' : Int} (ha : x.toInt = a) (hb : y.toInt = b') (h1 : -2147483648 ≤ a - b') (h2 : a - b' < 2147483648) : (x - y).toInt = a - b' := by
  subst ha hb; rw [Int32.toInt_sub]; exact Int.bmod_eq_of_le (by omega) (by omega)
theorem t_mul {x y : Int32} {a b' : Int} (ha : x.toInt = a) (hb : y.toInt = b') (h1 : -2147483648 ≤ a * b') (h2 : a * b' < 2147483648) : (x * y).toInt = a * b' := by
  subst ha hb; rw [Int32.toInt_mul]; exact Int.bmod_eq_of_le (by omega) (by omega)
theorem t_div {x y : Int32} {a d : Int} (ha : x.toInt = a) (hb : y.toInt = d) (h0 : 0 ≤ a) (hd : 0 < d) : (x / y).toInt = a / d := by
  subst ha hb
  have hy : y ≠ -1 := fun q => by rw [q] at hd; exact absurd hd (by decide)
  exact (c_idiv x y _ rfl hy).1 h0
theorem t_rem {x y : Int32} {a d : Int} (ha : x.toInt = a) (hb : y.toInt = d) (h0 : 0 ≤ a) : (x % y).toInt = a % d := by
  subst ha hb; exact (c_irem x y _ rfl).1 h0
theorem s_add {x y : Int64} {a b' : Int} (ha : x.toInt = a) (hb : y.toInt = b') (h1 : -9223372036854775808 ≤ a + b') (h2 : a + b' < 9223372036854775808) : (x + y).toInt = a + b' := by
  subst ha hb; rw [Int64.toInt_add]; exact Int.bmod_eq_of_le (by omega) (by omega)
theorem s_sub {x y : Int64} {a b' : Int} (ha : x.toInt = a) (hb : y.toInt = b') (h1 : -9223372036854775808 ≤ a - b') (h2 : a - b' < 9223372036854775808) : (x - y).toInt = a - b' := by
  subst ha hb; rw [Int64.toInt_sub]; exact Int.bmod_eq_of_le (by omega) (by omega)
theorem t_i2l {x : Int32} {a : Int} (ha : x.toInt = a) : x.toInt64.toInt = a := by rw [Int32.toInt_toInt64]; exact ha
theorem s_l2i {x : Int64} {a : Int} (ha : x.toInt = a) (h1 : -2147483648 ≤ a) (h2 : a < 2147483648) : x.toInt32.toInt = a := by
  have := c_l2i x; have h3 := x.toInt32.toInt_lt; have h4 := x.toInt32.le_toInt; omega
theorem t_i2s {x : Int32} {a : Int} (ha : x.toInt = a) (h1 : -32768 ≤ a) (h2 : a < 32768) : x.toInt16.toInt32.toInt = a := by
  have := c_i2s x; omega
end A
section V
variable {args : Array Value} {first s : State} {o : Option Outcome} {idx : List Nat} {t : Term}
theorem eqI_v {k : Int32} (h : (Cond.eq t (.int k)).value args first o s idx = some true) : t.eval args first o idx s = some (.int k) := by
  simp only [Cond.value, Term.eval] at h
  cases ht : t.eval args first o idx s with
  | none => simp [ht] at h
  | some x => cases x <;> simp [ht] at h ⊢; exact h
theorem eqJ_v {k : Int64} (h : (Cond.eq t (.long k)).value args first o s idx = some true) : t.eval args first o idx s = some (.long k) := by
  simp only [Cond.value, Term.eval] at h
  cases ht : t.eval args first o idx s with
  | none => simp [ht] at h
  | some x => cases x <;> simp [ht] at h ⊢; exact h
theorem foldl_all {f : Nat → Option Bool} : ∀ (L : List Nat) (acc : Option Bool), L.foldl (fun acc i => match acc with | some true => f i | x => x) acc = some true → acc = some true ∧ ∀ i ∈ L, f i = some true
  | [], acc, h => ⟨h, fun _ q => nomatch q⟩
  | i :: L, acc, h => by
    obtain ⟨h1, h2⟩ := foldl_all L _ h
    match acc, h1 with
    | some true, h1 => exact ⟨rfl, fun j q => (List.mem_cons.mp q).elim (fun z => z ▸ h1) (h2 j)⟩
theorem all_v {c : Cond} {a : Addr} {cell : Cell} (h : (Cond.all t c).value args first o s idx = some true) (ht : t.eval args first o idx s = some (.ref a)) (hc : s.arrayAt? a = some cell) : ∀ i, i < cell.slots.size → c.value args first o s (i :: idx) = some true := by
  simp only [Cond.value, ht, hc] at h
  exact fun i hi => (foldl_all _ _ h).2 i (List.mem_range.mpr hi)
theorem elI {x : Addr} {j k : Int32} {cl : Cell} {i : Nat} (h : (Cond.eq (.elem t (.int j)) (.int k)).value args first o s idx = some true) (ht : t.eval args first o idx s = some (.ref x)) (hc : s.heap[x]? = some cl) (hi : j.toNatClampNeg = i) : cl.slots[i]? = some (.int k) := by
  subst hi; exact (elem_in (eqI_v h) ht rfl hc).2
theorem elN {x : Addr} {j : Int32} {cl : Cell} {i : Nat} (h : (Cond.eq (.elem t (.int j)) .null).value args first o s idx = some true) (ht : t.eval args first o idx s = some (.ref x)) (hc : s.heap[x]? = some cl) (hi : j.toNatClampNeg = i) : cl.slots[i]? = some .null := by
  subst hi; exact (elem_in (null_v h) ht rfl hc).2
theorem eqR_v {t' : Term} {v : Value} (hv : v.isRef = true) (h : (Cond.eq t t').value args first o s idx = some true) (ht : t'.eval args first o idx s = some v) : t.eval args first o idx s = some v := by
  obtain ⟨x, y, e1, e2, k1, k2⟩ := cmp_v (Or.inl h)
  cases ht.symm.trans e2
  have hx : x.isRef = true := by rcases ref_cases hv with rfl | ⟨z, rfl⟩ <;> exact k2.2
  rw [e1, gotT (eq_R e1 e2 hx hv) h]
theorem elR {x y : Addr} {j : Int32} {cl : Cell} {i : Nat} {t' : Term} (h : (Cond.eq (.elem t (.int j)) t').value args first o s idx = some true) (hy : t'.eval args first o idx s = some (.ref y)) (ht : t.eval args first o idx s = some (.ref x)) (hc : s.heap[x]? = some cl) (hi : j.toNatClampNeg = i) : cl.slots[i]? = some (.ref y) := by
  subst hi; exact (elem_in (eqR_v rfl h hy) ht rfl hc).2
theorem or_f {c d : Cond} (h : (Cond.or c d).value args first o s idx = some true) (hc : c.value args first o s idx = some false) : d.value args first o s idx = some true := by
  simpa only [Cond.value, hc] using h
theorem len_fit {x : Addr} {cl : Cell} {ty : FieldType} {k : Int32} {Z : State} (h : (Cond.eq (.length t) (.int k)).value args Z none Z [] = some true) (ht : t.eval args Z none [] Z = some (.ref x)) (A : Arr Z Z.heap x cl ty) : cl.slots.size < 2 ^ 31 ∧ cl.slots.size.toInt32 = k := by
  have h1 := eqI_v h
  have h2 : Z.arrayAt? x = some cl := A.fin (Vm.Alike.refl _)
  simp only [Term.eval, ht, h2, Option.bind_eq_bind, Option.bind_some] at h1
  by_cases q : cl.slots.size < 2 ^ 31
  · simp [q] at h1; exact ⟨q, h1⟩
  · simp [q] at h1
theorem fldI {Z : State} {a : Addr} {C n d : String} {k : Int32} (ev : t.eval args Z none [] Z = some (.ref a)) (h : (Cond.eq (.field t C n d) (.int k)).value args Z none Z [] = some true) : Fld Z Z.heap a C n d (.int k) := Fld.start ((fld_at ev).symm.trans (eqI_v h))
theorem fldJ {Z : State} {a : Addr} {C n d : String} {k : Int64} (ev : t.eval args Z none [] Z = some (.ref a)) (h : (Cond.eq (.field t C n d) (.long k)).value args Z none Z [] = some true) : Fld Z Z.heap a C n d (.long k) := Fld.start ((fld_at ev).symm.trans (eqJ_v h))
end V

section H
variable {p : Program} {l : Launch} {e : Env} {R : Room} {s : State} {m : MethodId} {args : Array Value} {below : List Frame} {meth : Method} {c : Code} {T T' : State} {locs : List Loc} {cells slots : Nat} {Q : Option Value → Heap → List Loc → Prop} {Fe : Outcome → State → List Loc → Nat → Nat → Prop} {vm0 : Vm} {K N pc n t k0 : Nat} {Ls l' : Array Slot} {st rest : List Value} {Z : State} {a0 : Array Value} {h : Heap}
/-- a law that writes only what it made -/
def Fq (w : Value) (n0 : Nat) (v : Option Value) (h : Heap) (L : List Loc) : Prop := v = some w ∧ Fr n0 L
theorem newO (X : Stand p l e R s m args below meth c T locs cells slots) (hx : p.tables.exec = Jvm.exec) (hZ : Z.Warmed39 s.vm) {own C : String} {index k : Nat} (hown : s.vm.findClass own = some m.cls) (w : (Cond.classLink own index C).before a0 Z = true) (wi : (Cond.instantiable C k).before a0 Z = true) (wz : (Cond.initialized C).before a0 Z = true) (eT : T.heap = h) (hd : decode c.code pc = .ok (.new index, 3)) (hc : cells + 1 ≤ R.cells) (hl : slots + k ≤ R.slots) (hn : pc + 3 = n)
    (F : ∀ T' h', Stand p l e R s m args below meth c T' locs (cells + 1) (slots + k) → T'.heap = h' → Ext h h' → Exa Z h' h.size C → (∀ {O nm d : String} {ty : FieldType}, Laid Z a0 C O nm d → parseFieldDescriptor d = some ty → Fld Z h' h.size O nm d (defaultValue ty)) → Go p e below Fe Q K N T' (mkF m n Ls (.ref h.size :: st))) : Go p e below Fe Q K N T (mkF m pc Ls st) := by
  subst hn
  obtain ⟨T2, h2, X2, e2, E2, A2, D2, -, st2⟩ := RoadKit.newO X hx hZ hown w wi wz eT (g := mkF m pc Ls st) rfl hd hc hl
  exact go (fun _ h => st2 _ h) (F T2 h2 X2 e2 E2 A2 D2)
theorem putF (X : Stand p l e R s m args below meth c T locs cells slots) (hx : p.tables.exec = Jvm.exec) (hZ : Z.Warmed39 s.vm) {own O f d host C : String} {index kk : Nat} {ty : FieldType} (hown : s.vm.findClass own = some m.cls) (w : (Cond.fieldLink own index O f d).before a0 Z = true ∨ (Cond.fieldLinkNest own index O f d host).before a0 Z = true) (eT : T.heap = h) {a : Addr} {v old : Value} (S : Fld Z h a O f d old) (E : Exa Z h a C)
    (L : (Cond.lays C O f d).before a0 Z = true ∨ ((Cond.laysFinal C O f d).before a0 Z = true ∧ own = O ∧ meth.name = "<init>")) (wi : (Cond.instantiable C kk).before a0 Z = true) (hty : parseFieldDescriptor d = some ty) (hnr : narrow ty v = v) (hf : fits ty v = true) (hd : decode c.code pc = .ok (.putfield index, 3)) (hn : pc + 3 = n)
    (F : ∀ T' h', Stand p l e R s m args below meth c T' (locs ++ [⟨a, RoadKit.slotOf Z O f d⟩]) cells slots → T'.heap = h' → Wr h h' a (RoadKit.slotOf Z O f d) v → Go p e below Fe Q K N T' (mkF m n Ls st)) : Go p e below Fe Q K N T (mkF m pc Ls (v :: .ref a :: st)) := by
  subst hn
  obtain ⟨T2, h2, X2, e2, W2, st2⟩ := RoadKit.putF X hx hZ hown (host := host) w Via.refl eT S E L wi hty hnr hf (g := mkF m pc Ls (v :: .ref a :: st)) rfl rfl hd
  exact go (fun _ h => st2 _ h) (F T2 h2 X2 e2 W2)
theorem initO (X : Stand p l e R s m args below meth c T locs cells slots) (hx : p.tables.exec = Jvm.exec) (hZ : Z.Warmed39 s.vm) {own : String} {idx W : Nat} (hown : s.vm.findClass own = some m.cls) (w1 : (Cond.methodLink own idx Lib.objectInit).before a0 Z = true) (w2 : (Cond.instanceMethod Lib.objectInit).before a0 Z = true) (w3 : (Cond.code Lib.objectInit ⟨#[0xb1]⟩ 1 none).before a0 Z = true) (eT : T.heap = h) {a : Addr} (hsz : Ls.size = c.maxLocals) (hf : 1 ≤ R.frames) (hW : (st.map fun v => v.category).sum ≤ W) (hl : W + 12 ≤ R.locals) (hd : decode c.code pc = .ok (.invokespecial idx, 3)) (hn : pc + 3 = n)
    (F : ∀ T', Stand p l e R s m args below meth c T' locs cells slots → T'.heap = h → Go p e below Fe Q K N T' (mkF m n Ls st)) : Go p e below Fe Q K N T (mkF m pc Ls (.ref a :: st)) := by
  subst hn
  obtain ⟨T2, X2, e2, st2⟩ := RoadKit.initO X hx hZ hown w1 w2 w3 eT (g := mkF m pc Ls (.ref a :: st)) rfl hsz rfl hd hf (W := W) (by show 2 * 0 + _ ≤ _; omega) hl
  exact go (fun _ h => st2 _ h) (F T2 X2 e2)
theorem callI (X : Stand p l e R s m args below meth c T locs cells slots) (hx : p.tables.exec = Jvm.exec) (hZ : Z.Warmed39 s.vm) {own : String} {index : Nat} {y : MethodName} {bytes : ByteArray} {maxL W : Nat} {rm : Room} {Qc : Option Value → Heap → List Loc → Prop} {argsL : List Value} {a : Addr} (hy1 : y.name = "<init>") (hown : s.vm.findClass own = some m.cls)
    (wl : (Cond.methodLink own index y).before a0 Z = true) (wm : (Cond.instanceMethod y).before a0 Z = true) (wi : (Cond.initialized y.cls).before a0 Z = true) (wc : (Cond.code y bytes maxL none).before a0 Z = true) (hy : y.cls ≠ "java/lang/invoke/MethodHandle" ∧ y.cls ≠ "java/lang/invoke/VarHandle")
    (hM : Met l Z y bytes maxL none [] rm (Value.ref a :: argsL).toArray h Qc) (eT : T.heap = h) (hf : rm.frames + 1 ≤ R.frames) (hl : W + (maxL + 11) + rm.locals ≤ R.locals) (hck : cells + rm.cells ≤ R.cells) (hsk : slots + rm.slots ≤ R.slots) (hsz : Ls.size = c.maxLocals)
    (hlen : ∀ sig, parseMethodDescriptor y.desc = some sig → argsL.length = sig.parameters.length) (hst : st = argsL.reverse ++ .ref a :: rest) (hW : (rest.map fun v => v.category).sum ≤ W) (hd : decode c.code pc = .ok (.invokespecial index, 3)) (hn : pc + 3 = n)
    (F : ∀ T' v L, Stand p l e R s m args below meth c T' (locs ++ L) (cells + rm.cells) (slots + rm.slots) → Qc v T'.heap L → Go p e below Fe Q K N T' (mkF m n Ls (v.toList ++ rest))) : Go p e below Fe Q K N T (mkF m pc Ls st) := by
  subst hn
  obtain ⟨v, _, ⟨T18, L18, k18, n18⟩, -, X18, ⟨Lc18, hQ18, l18, y18, z18⟩, st18⟩ := X.specialBack hx (y := y) hy1 hown (mvT hZ wl) (mvT hZ wm) (mvT hZ wc) hy (backOf (W := W) hM hZ wc wi hf hl) (g := mkF m pc Ls st) rfl hsz (Steps.refl _) (a := a) (argsL := argsL) (rest := rest) hlen hst (by show 2 * 0 + _ ≤ _; omega) hd (fun _ _ => ⟨rfl, eT, hck, hsk⟩)
  dsimp only [Pt.U, Pt.locs, Pt.cells, Pt.slots] at X18 l18 y18 z18 st18 hQ18
  subst l18 y18 z18
  exact go (fun _ h => st18.trans h) (F T18 v Lc18 X18 hQ18)
theorem instY (X : Stand p l e R s m args below meth c T locs cells slots) (hx : p.tables.exec = Jvm.exec) (hZ : Z.Warmed39 s.vm) {own C : String} {index : Nat} (hown : s.vm.findClass own = some m.cls) (w : (Cond.classLink own index C).before a0 Z = true) (eT : T.heap = h) {a : Addr} (E : Exa Z h a C) (hd : decode c.code pc = .ok (.instanceof index, 3)) (hn : pc + 3 = n)
    (F : ∀ T', Stand p l e R s m args below meth c T' locs cells slots → T'.heap = h → Go p e below Fe Q K N T' (mkF m n Ls (.int 1 :: st))) : Go p e below Fe Q K N T (mkF m pc Ls (.ref a :: st)) := by
  subst hn
  obtain ⟨T2, X2, e2, st2⟩ := RoadKit.instY X hx hZ hown w eT (Ins.self E) (g := mkF m pc Ls (.ref a :: st)) rfl rfl hd
  exact go (fun _ h => st2 _ h) (F T2 X2 e2)
theorem castY (X : Stand p l e R s m args below meth c T locs cells slots) (hx : p.tables.exec = Jvm.exec) (hZ : Z.Warmed39 s.vm) {own C : String} {index : Nat} (hown : s.vm.findClass own = some m.cls) (w : (Cond.classLink own index C).before a0 Z = true) (eT : T.heap = h) {a : Addr} (E : Exa Z h a C) (hd : decode c.code pc = .ok (.checkcast index, 3)) (hn : pc + 3 = n)
    (F : ∀ T', Stand p l e R s m args below meth c T' locs cells slots → T'.heap = h → Go p e below Fe Q K N T' (mkF m n Ls (.ref a :: st))) : Go p e below Fe Q K N T (mkF m pc Ls (.ref a :: st)) := by
  subst hn
  obtain ⟨T2, X2, e2, st2⟩ := RoadKit.castY X hx hZ hown w eT (Ins.self E) (g := mkF m pc Ls (.ref a :: st)) rfl rfl hd
  exact go (fun _ h => st2 _ h) (F T2 X2 e2)
theorem newP (X : Stand p l e R s m args below meth c T locs cells slots) (hx : p.tables.exec = Jvm.exec) (hZ : Z.Warmed39 s.vm) {aty : ArrayType} {ty : FieldType} (hty : newarray.typeOf aty = ty) (w : (Cond.arrayClass ty).before a0 Z = true) (eT : T.heap = h) {z : Int32} (hz : ¬ z < 0) (cap : Nat) (hcap : z.toNatClampNeg = cap) (hb : cap * 8 ≤ 536870912) (hc : cells + 1 ≤ R.cells) (hl : slots + cap ≤ R.slots) (hd : decode c.code pc = .ok (.newarray aty, 2)) (hn : pc + 2 = n)
    (F : ∀ T' h' cA, Stand p l e R s m args below meth c T' locs (cells + 1) (slots + cap) → T'.heap = h' → Ext h h' → Arv Z h' h.size cA ty z (List.replicate cap (defaultValue ty)) (defaultValue ty) → Go p e below Fe Q K N T' (mkF m n Ls (.ref h.size :: st))) : Go p e below Fe Q K N T (mkF m pc Ls (.int z :: st)) := by
  subst hn hty
  obtain ⟨T2, h2, cA, X2, e2, E2, A2, st2⟩ := RoadKit.newP X hx hZ w eT (g := mkF m pc Ls (.int z :: st)) rfl hd rfl hz (cap := cap) (Nat.le_of_eq hcap) hb hc hl
  exact go (fun _ h => st2 _ h) (F T2 h2 cA X2 e2 E2 ((Arv.new A2 hz).pad (pad_rep [] _ cap)))

theorem bastore (X : Stand p l e R s m args below meth c T locs cells slots) (hx : p.tables.exec = Jvm.exec) (hZ : Z.Warmed39 s.vm) {a : Addr} {k : ClassId} {z j x : Int32} {vs : List Value} {d : Value} (eT : T.heap = h) (A : Arv Z h a k .byte z vs d) (h1 : 0 ≤ j.toInt) (h2 : j.toInt < z.toInt) (i : Nat) (hj : j.toNatClampNeg = i) (hi : i < vs.length) (hd : decode c.code pc = .ok (.bastore, 1)) (hn : pc + 1 = n)
    (F : ∀ T' h', Stand p l e R s m args below meth c T' (locs ++ [⟨a, j.toNatClampNeg⟩]) cells slots → T'.heap = h' → Wr h h' a j.toNatClampNeg (.int (nar .byte x)) → Arv Z h' a k .byte z (vs.set i (.int (nar .byte x))) d → Go p e below Fe Q K N T' (mkF m n Ls st)) : Go p e below Fe Q K N T (mkF m pc Ls (.int x :: .int j :: .ref a :: st)) := by
  subst hn
  obtain ⟨cl, Ar, q1, S, q3, H, G'⟩ := A
  obtain ⟨T2, h2', X2, e2, W2, st2⟩ := RoadKit.stB X hx hZ eT Ar (in_of S q3 h1 h2) (g := mkF m pc Ls (.int x :: .int j :: .ref a :: st)) rfl rfl hd
  exact go (fun _ h => st2 _ h) (F T2 h2' X2 e2 W2 (Arv.set Ar q1 S q3 H G' (fits_nar_byte x) W2 i hj hi))
theorem castore (X : Stand p l e R s m args below meth c T locs cells slots) (hx : p.tables.exec = Jvm.exec) (hZ : Z.Warmed39 s.vm) {a : Addr} {k : ClassId} {z j x : Int32} {vs : List Value} {d : Value} (eT : T.heap = h) (A : Arv Z h a k .char z vs d) (h1 : 0 ≤ j.toInt) (h2 : j.toInt < z.toInt) (i : Nat) (hj : j.toNatClampNeg = i) (hi : i < vs.length) (hd : decode c.code pc = .ok (.castore, 1)) (hn : pc + 1 = n)
    (F : ∀ T' h', Stand p l e R s m args below meth c T' (locs ++ [⟨a, j.toNatClampNeg⟩]) cells slots → T'.heap = h' → Wr h h' a j.toNatClampNeg (.int (nar .char x)) → Arv Z h' a k .char z (vs.set i (.int (nar .char x))) d → Go p e below Fe Q K N T' (mkF m n Ls st)) : Go p e below Fe Q K N T (mkF m pc Ls (.int x :: .int j :: .ref a :: st)) := by
  subst hn
  obtain ⟨cl, Ar, q1, S, q3, H, G'⟩ := A
  obtain ⟨T2, h2', X2, e2, W2, st2⟩ := RoadKit.stC X hx hZ eT Ar (in_of S q3 h1 h2) (g := mkF m pc Ls (.int x :: .int j :: .ref a :: st)) rfl rfl hd
  exact go (fun _ h => st2 _ h) (F T2 h2' X2 e2 W2 (Arv.set Ar q1 S q3 H G' (fits_nar_char x) W2 i hj hi))
theorem iastore (X : Stand p l e R s m args below meth c T locs cells slots) (hx : p.tables.exec = Jvm.exec) (hZ : Z.Warmed39 s.vm) {a : Addr} {k : ClassId} {z j x : Int32} {vs : List Value} {d : Value} (eT : T.heap = h) (A : Arv Z h a k .int z vs d) (h1 : 0 ≤ j.toInt) (h2 : j.toInt < z.toInt) (i : Nat) (hj : j.toNatClampNeg = i) (hi : i < vs.length) (hd : decode c.code pc = .ok (.iastore, 1)) (hn : pc + 1 = n)
    (F : ∀ T' h', Stand p l e R s m args below meth c T' (locs ++ [⟨a, j.toNatClampNeg⟩]) cells slots → T'.heap = h' → Wr h h' a j.toNatClampNeg (.int (x)) → Arv Z h' a k .int z (vs.set i (.int (x))) d → Go p e below Fe Q K N T' (mkF m n Ls st)) : Go p e below Fe Q K N T (mkF m pc Ls (.int x :: .int j :: .ref a :: st)) := by
  subst hn
  obtain ⟨cl, Ar, q1, S, q3, H, G'⟩ := A
  obtain ⟨T2, h2', X2, e2, W2, st2⟩ := RoadKit.stI X hx hZ eT Ar (in_of S q3 h1 h2) (g := mkF m pc Ls (.int x :: .int j :: .ref a :: st)) rfl rfl hd
  exact go (fun _ h => st2 _ h) (F T2 h2' X2 e2 W2 (Arv.set Ar q1 S q3 H G' (rfl) W2 i hj hi))
def FldE (Z : State) (h : Heap) (a : Addr) (C n d : String) : Prop := ∃ v, Fld Z h a C n d v
theorem FldE.of {Z : State} {h : Heap} {a : Addr} {C n d : String} {v : Value} (F : Fld Z h a C n d v) : FldE Z h a C n d := ⟨v, F⟩
theorem FldE.ext {Z : State} {h h' : Heap} {a : Addr} {C n d : String} (F : FldE Z h a C n d) (E : Ext h h') : FldE Z h' a C n d := by obtain ⟨v, F⟩ := F; exact ⟨v, F.ext E⟩
theorem FldE.keep {Z : State} {h h' : Heap} {ws : List Addr} {a : Addr} {C n d : String} (F : FldE Z h a C n d) (K : Keep h h' ws) : FldE Z h' a C n d := by
  obtain ⟨v, cell, cf, k, i, f, h1, h2, h3, h4, h5, h6, h7⟩ := F
  obtain ⟨c', q, r1, r2, r3⟩ := K.2.2 a cell h1
  have hlt := (Array.getElem?_eq_some_iff.mp h7).1
  exact ⟨_, c', cf, k, i, f, q, h2, h3, r2 ▸ h4, r2 ▸ h5, r1 ▸ h6, Array.getElem?_eq_getElem (r3 ▸ hlt)⟩
theorem FldE.wr {Z : State} {h h' : Heap} {a b' : Addr} {C n d : String} {sl : Nat} {v : Value} (F : FldE Z h b' C n d) (W : Wr h h' a sl v) : FldE Z h' b' C n d := F.keep (Keep.of_wr W)
theorem nfOf {args : Array Value} {s : State} {C : String} {y y' z' : MethodName} (hsel : (Cond.selects C y' z').before args s = true) (hc : z'.cls = y.cls) : NotFace s y := fun r0 h0 => by
  obtain ⟨c2, r2, m2, q1, q2, q3, q4, kP, hkP, hkPi⟩ := Cond.selects_spec hsel
  have h1 := findClass_of_methodNamed q3
  have h2 := findClass_of_methodNamed h0
  rw [hc] at h1
  have e : m2.cls = r0.cls := Option.some.inj (h1.symm.trans h2)
  exact ⟨kP, e ▸ hkP, hkPi⟩
theorem acopy (X : Stand p l e R s m args below meth c T locs cells slots) (hx : p.tables.exec = Jvm.exec) (hZ : Z.Warmed39 s.vm) {own : String} {index : Nat} (hown : s.vm.findClass own = some m.cls) (wl : (Cond.methodLink own index Stand.acN).before a0 Z = true) (wn : (Cond.native Stand.acN).before a0 Z = true) (ws : (Cond.static Stand.acN).before a0 Z = true) (wi : (Cond.initialized "java/lang/System").before a0 Z = true) (eT : T.heap = h)
    {src dst : Addr} {k1 k2 : ClassId} {z1 z2 p1 p2 q : Int32} {vs1 vs2 : List Value} {d1 d2 : Value} (A1 : Arv Z h src k1 .int z1 vs1 d1) (A2 : Arv Z h dst k2 .int z2 vs2 d2) (h1 : 0 ≤ p1.toInt) (h2 : 0 ≤ p2.toInt) (h3 : 0 ≤ q.toInt) (h4 : p1.toInt + q.toInt ≤ z1.toInt) (h5 : p2.toInt + q.toInt ≤ z2.toInt)
    {W : Nat} (hsz : Ls.size = c.maxLocals) (hf : 1 ≤ R.frames) (hW : (st.map fun v => v.category).sum ≤ W) (hl : W + (nativeFrameWords "java/lang/System" "arraycopy" 5 + 11) ≤ R.locals) (hd : decode c.code pc = .ok (.invokestatic index, 3)) (hn : pc + 3 = n)
    (F : ∀ T' h', Stand p l e R s m args below meth c T' (locs ++ Stand.copyLocs dst p2.toNatClampNeg q.toNatClampNeg) cells slots → T'.heap = h' → Keep h h' [dst] → Go p e below Fe Q K N T' (mkF m n Ls st)) : Go p e below Fe Q K N T (mkF m pc Ls (.int q :: .int p2 :: .ref dst :: .int p1 :: .ref src :: st)) := by
  subst hn
  subst eT
  obtain ⟨cs, As, -, Ss, Ns, Hs, Gs⟩ := A1
  obtain ⟨cd, Ad, -, Sd, Nd, Hd, Gd⟩ := A2
  have isA := State.isArrayOf_alike hZ.alike As.2.1
  have idA := State.isArrayOf_alike hZ.alike Ad.2.1
  obtain ⟨-, ks, hks, sC, hsk⟩ := isA
  obtain ⟨-, kd, hkd, dC, hdk⟩ := idA
  have en : ∀ x : Int32, 0 ≤ x.toInt → ¬ x < 0 := fun x hx0 => by rw [Int32.lt_iff_toInt_lt]; have e0 : (0 : Int32).toInt = 0 := rfl; omega
  have ez : ∀ x : Int32, ¬ x < 0 → (x.toNatClampNeg : Int) = x.toInt := fun x hx0 => by
    rw [Int32.lt_iff_toInt_lt] at hx0; have e0 : (0 : Int32).toInt = 0 := rfl; have e1 : x.toNatClampNeg = x.toInt.toNat := rfl; omega
  have e1 := ez z1 Ns; have e2 := ez z2 Nd; have e3 := ez p1 (en p1 h1); have e4 := ez q (en q h3); have e5 := ez p2 (en p2 h2)
  obtain ⟨vm₁, -, X', st'⟩ := X.arraycopyK hx hown (mvT hZ wl) (mvT hZ wn) (mvT hZ ws) (mvT hZ wi) (src := src) (dst := dst) (srcPos := p1) (destPos := p2) (n := q) (cs := cs) (cd := cd) As.1 Ad.1
    (fun z e => by have := As.plain; rw [e] at this; cases this) (fun z e => by have := Ad.plain; rw [e] at this; cases this) As.2.2 Ad.2.2 hks hkd hsk hdk rfl (en p1 h1) (en p2 h2) (en q h3) (by rw [Ss]; omega) (by rw [Sd]; omega)
    (fun vm' _ i hi => by
      have hlt : p1.toNatClampNeg + i < cs.slots.size := by rw [Ss]; omega
      have hh := Hs _ hlt
      have hg := Gs _ hlt
      have hgd : cs.slots.getD (p1.toNatClampNeg + i) .null = vs1.getD (p1.toNatClampNeg + i) d1 := by rw [Array.getD_eq_getD_getElem?, hh]; rfl
      rw [hgd]
      refine ⟨hg, ?_⟩
      obtain ⟨x, hx'⟩ := fit_I hg (Or.inl rfl)
      rw [hx']; trivial)
    (g := mkF m pc Ls (.int q :: .int p2 :: .ref dst :: .int p1 :: .ref src :: st)) rfl hsz rfl hd hf (by show 2 * 0 + _ + _ ≤ _; omega)
  refine go (fun _ h => st' _ h) (F _ _ X' rfl ?_)
  have cf := SB.copied_facts cs cd p1 p2 q
  have hb : dst < T.heap.size := (Array.getElem?_eq_some_iff.mp Ad.1).1
  refine ⟨by show T.heap.size ≤ (T.heap.setIfInBounds dst _).size; simp, fun x c hc hx' => ?_, fun x c hc => ?_⟩
  · show (T.heap.setIfInBounds dst _)[x]? = _
    have hne : dst ≠ x := fun z => hx' (by simp [z])
    rw [Array.getElem?_setIfInBounds_ne hne]; exact hc
  · show ∃ c', (T.heap.setIfInBounds dst _)[x]? = some c' ∧ _
    by_cases z : dst = x
    · subst z; cases Ad.1.symm.trans hc
      exact ⟨_, Array.getElem?_setIfInBounds_self_of_lt hb, cf⟩
    · exact ⟨c, by rw [Array.getElem?_setIfInBounds_ne z]; exact hc, rfl, rfl, rfl⟩
theorem ext_of_keep {h h' : Heap} (K : Keep h h' []) : Ext h h' := ⟨K.1, fun a c q => K.2.1 a c q nin0⟩
theorem keep_of_ext {h h' : Heap} (E : Ext h h') : Keep h h' [] := (Keep.refl _ _).ext E
theorem ext_refl (h : Heap) : Ext h h := ⟨Nat.le_refl _, fun _ _ q => q⟩
theorem ext_trans {h h' h'' : Heap} (E : Ext h h') (E' : Ext h' h'') : Ext h h'' := ⟨Nat.le_trans E.1 E'.1, fun a c q => E'.2 a c (E.2 a c q)⟩
end H
section WD
variable {p : Program} {l : Launch} {e : Env} {R : Room} {s : State} {m : MethodId} {args : Array Value} {below : List Frame} {meth : Method} {c : Code} {T T' : State} {locs : List Loc} {cells slots : Nat} {Q : Option Value → Heap → List Loc → Prop} {Fe : Outcome → State → List Loc → Nat → Nat → Prop} {vm0 : Vm} {K N pc n t k0 : Nat} {Ls l' : Array Slot} {st rest : List Value} {Z : State} {a0 : Array Value} {h : Heap}
/-- a contract of a method that may intern -/
def MetW (l : Launch) (Z : State) (y : MethodName) (bytes : ByteArray) (maxL : Nat) (ret : Option FieldType) (ws : List Cond) (rm : Room) (as' : Array Value) (h0 : Heap) (Q : Option Value → Heap → List Loc → Prop) : Prop :=
  MetFree l y (head1 (Cond.code y bytes maxL ret :: ws) rm) (fun a U => a = as' ∧ Z.Warmed39 U.vm ∧ U.heap = h0) (fun _ _ _ _ _ => True) (fun _ U o U' => ∃ v L, o = .returned v ∧ Q v U'.heap L ∧ ReturnedEndW U o U' L rm.cells rm.slots)
theorem startW {y : MethodName} {bytes : ByteArray} {maxL : Nat} {ret : Option FieldType} {ws : List Cond} {rm : Room} {as' : Array Value} {h0 : Heap} (pn : plainName y.cls = true)
    (body : ∀ (p : Program) (e : Env) (s : State) (vm0 : Vm) (m : MethodId) (below : List Frame) (meth : Method) (c : Code) (s₁ : State), Stand p l e rm (s.setVm vm0) m as' below meth c s₁ [] 0 0 → p.tables.exec = Jvm.exec → c.code = bytes → c.maxLocals = maxL → (s.setVm vm0).vm.findClass y.cls = some m.cls → meth.name = y.name → meth.sig.returnType = ret → meth.locks = false → Z.Warmed39 (s.setVm vm0).vm → s.Since vm0 0 → s₁.heap = h0 → s₁.heap = s.heap → Go p e below (ReturnedEndW s) Q rm.cells rm.slots s₁ (entryFrame m as' maxL)) : MetW l Z y bytes maxL ret ws rm as' h0 Q := by
  refine MetFree.of_bodySF (plainFor_of_name pn) hisR ?_
  intro p e s m args below meth c s₁ Bd hml0 hP hK
  obtain ⟨rfl, hZ, hh⟩ := hP
  exact body p e s s.vm m below meth c s₁ (show Stand p l e rm s m _ below meth c s₁ [] 0 0 from Stand.of_body Bd) Bd.exec Bd.bytes hml0 (findClass_of_methodNamed Bd.named) (name_of_methodNamed Bd.named Bd.method).1 Bd.returns Bd.notSynchronized hZ ((State.WarmedH.refl s).since 0) (by rw [← hh, Bd.state]; rfl) (by rw [Bd.state]; rfl)
theorem ldcW0 (X : Stand p l e R (s.setVm vm0) m args below meth c T locs cells slots) (hx : p.tables.exec = Jvm.exec) (hZ : Z.Warmed39 (s.setVm vm0).vm) (hS : s.Since vm0 k0) {own text : String} {index : Nat} (hown : (s.setVm vm0).vm.findClass own = some m.cls) (w : (Cond.stringLink own index text).before a0 Z = true) (wS : ∀ a ∈ Bundle.stringAtoms, a.before a0 Z = true) (eT : T.heap = h) (hk0 : k0 ≤ h.size) (len : Nat) (hlen : 4 * text.toList.length ≤ len) (hbig : len ≤ 536870912) (hc : cells + 2 ≤ R.cells) (hl : slots + (len + 4) ≤ R.slots) (hd : decode c.code pc = .ok (.ldc index, 2)) (hn : pc + 2 = n)
    (F : ∀ a T' h' vm1 k1, Stand p l e R (s.setVm vm1) m args below meth c T' locs (cells + 2) (slots + (len + 4)) → T'.heap = h' → Ext h h' → s.Since vm1 k1 → k1 ≤ h'.size → Z.Warmed39 (s.setVm vm1).vm → (s.setVm vm1).vm.findClass own = some m.cls → Go p e below Fe Q K N T' (mkF m n Ls (.ref a :: st))) : Go p e below Fe Q K N T (mkF m pc Ls st) := by
  subst hn
  obtain ⟨a, T', h', k1, X', e', E, hS', hk', hZ', ho', st'⟩ := RoadKit.ldcS X hx hZ hown w wS eT hS hk0 (g := mkF m pc Ls st) rfl hd hlen hbig hc hl
  exact go (fun _ h => st' _ h) (F a T' h' T'.vm k1 X' e' E hS' hk' hZ' ho')
theorem callSW (X : Stand p l e R (s.setVm vm0) m args below meth c T locs cells slots) (hx : p.tables.exec = Jvm.exec) (hZ : Z.Warmed39 (s.setVm vm0).vm) (hS : s.Since vm0 k0) {own : String} {index : Nat} {y : MethodName} {bytes : ByteArray} {maxL W : Nat} {ret : Option FieldType} {rm : Room} {Qc : Option Value → Heap → List Loc → Prop} {argsL : List Value} (hown : (s.setVm vm0).vm.findClass own = some m.cls)
    (wl : (Cond.methodLink own index y).before a0 Z = true) (ws : (Cond.static y).before a0 Z = true) (wi : (Cond.initialized y.cls).before a0 Z = true) (wc : (Cond.code y bytes maxL ret).before a0 Z = true) (hy : y.cls ≠ "java/lang/invoke/MethodHandle" ∧ y.cls ≠ "java/lang/invoke/VarHandle")
    (hM : MetW l Z y bytes maxL ret [] rm argsL.toArray h Qc) (eT : T.heap = h) (hk0 : k0 ≤ h.size) (hf : rm.frames + 1 ≤ R.frames) (hl : W + (maxL + 11) + rm.locals ≤ R.locals) (hck : cells + rm.cells ≤ R.cells) (hsk : slots + rm.slots ≤ R.slots) (hsz : Ls.size = c.maxLocals)
    (hlen : ∀ sig, parseMethodDescriptor y.desc = some sig → argsL.length = sig.parameters.length) (hst : st = argsL.reverse ++ rest) (hW : (rest.map fun v => v.category).sum ≤ W) (hd : decode c.code pc = .ok (.invokestatic index, 3)) (hn : pc + 3 = n)
    (F : ∀ T' vm1 k1 v L, Stand p l e R (s.setVm vm1) m args below meth c T' (locs ++ L) (cells + rm.cells) (slots + rm.slots) → s.Since vm1 k1 → k1 ≤ T'.heap.size → Z.Warmed39 (s.setVm vm1).vm → (s.setVm vm1).vm.findClass own = some m.cls → Qc v T'.heap L → Go p e below Fe Q K N T' (mkF m n Ls (v.toList ++ rest))) : Go p e below Fe Q K N T (mkF m pc Ls st) := by
  subst hn
  obtain ⟨v, _, ⟨T18, L18, k18, n18⟩, -, X18, hS18, hg18, ⟨Lc18, hQ18, l18, y18, z18⟩, st18⟩ := RoadKit.callSS X hx (y := y) hown (mvT hZ wl) (mvT hZ ws) (mvT hZ wi) (mvT hZ wc) hy (backOfS (W := W) hM hZ wc wi hf hl) (g := mkF m pc Ls st) rfl hsz (argsL := argsL) (rest := rest) hlen hst (by show 2 * 0 + _ ≤ _; omega) hd (fun _ _ => ⟨rfl, eT, hck, hsk⟩)
  dsimp only [Pt.U, Pt.locs, Pt.cells, Pt.slots] at X18 l18 y18 z18 st18 hQ18 hS18 hg18
  subst l18 y18 z18
  exact go (fun _ h => st18.trans h) (F T18 T18.vm _ v Lc18 X18 (foldS hS (by rw [eT]; exact hk0) hS18 hg18) (Nat.le_refl _) (State.Warmed39.trans (t := s.setVm vm0) hZ hS18.1) (by rw [show (s.setVm T18.vm).vm = T18.vm from rfl, hS18.1.alike.findClass]; exact hown) hQ18)
theorem callIW (X : Stand p l e R (s.setVm vm0) m args below meth c T locs cells slots) (hx : p.tables.exec = Jvm.exec) (hZ : Z.Warmed39 (s.setVm vm0).vm) (hS : s.Since vm0 k0) {own : String} {index : Nat} {y : MethodName} {bytes : ByteArray} {maxL W : Nat} {rm : Room} {Qc : Option Value → Heap → List Loc → Prop} {argsL : List Value} {a : Addr} (hy1 : y.name = "<init>") (hown : (s.setVm vm0).vm.findClass own = some m.cls)
    (wl : (Cond.methodLink own index y).before a0 Z = true) (wm : (Cond.instanceMethod y).before a0 Z = true) (wi : (Cond.initialized y.cls).before a0 Z = true) (wc : (Cond.code y bytes maxL none).before a0 Z = true) (hy : y.cls ≠ "java/lang/invoke/MethodHandle" ∧ y.cls ≠ "java/lang/invoke/VarHandle")
    (hM : MetW l Z y bytes maxL none [] rm (Value.ref a :: argsL).toArray h Qc) (eT : T.heap = h) (hk0 : k0 ≤ h.size) (hf : rm.frames + 1 ≤ R.frames) (hl : W + (maxL + 11) + rm.locals ≤ R.locals) (hck : cells + rm.cells ≤ R.cells) (hsk : slots + rm.slots ≤ R.slots) (hsz : Ls.size = c.maxLocals)
    (hlen : ∀ sig, parseMethodDescriptor y.desc = some sig → argsL.length = sig.parameters.length) (hst : st = argsL.reverse ++ .ref a :: rest) (hW : (rest.map fun v => v.category).sum ≤ W) (hd : decode c.code pc = .ok (.invokespecial index, 3)) (hn : pc + 3 = n)
    (F : ∀ T' vm1 k1 v L, Stand p l e R (s.setVm vm1) m args below meth c T' (locs ++ L) (cells + rm.cells) (slots + rm.slots) → s.Since vm1 k1 → k1 ≤ T'.heap.size → Z.Warmed39 (s.setVm vm1).vm → (s.setVm vm1).vm.findClass own = some m.cls → Qc v T'.heap L → Go p e below Fe Q K N T' (mkF m n Ls (v.toList ++ rest))) : Go p e below Fe Q K N T (mkF m pc Ls st) := by
  subst hn
  obtain ⟨v, _, ⟨T18, L18, k18, n18⟩, -, X18, hS18, hg18, ⟨Lc18, hQ18, l18, y18, z18⟩, st18⟩ := X.specialBackS hx (y := y) hy1 hown (mvT hZ wl) (mvT hZ wm) (mvT hZ wc) hy (backOfS (W := W) hM hZ wc wi hf hl) (g := mkF m pc Ls st) rfl hsz (Steps.refl _) (a := a) (argsL := argsL) (rest := rest) hlen hst (by show 2 * 0 + _ ≤ _; omega) hd (fun _ _ => ⟨rfl, eT, hck, hsk⟩)
  dsimp only [Pt.U, Pt.locs, Pt.cells, Pt.slots] at X18 l18 y18 z18 st18 hQ18 hS18 hg18
  subst l18 y18 z18
  exact go (fun _ h => st18.trans h) (F T18 T18.vm _ v Lc18 X18 (foldS hS (by rw [eT]; exact hk0) hS18 hg18) (Nat.le_refl _) (State.Warmed39.trans (t := s.setVm vm0) hZ hS18.1) (by rw [show (s.setVm T18.vm).vm = T18.vm from rfl, hS18.1.alike.findClass]; exact hown) hQ18)
/-- a contract of a method that may intern, with words on the tables before and behind -/
def MetV (l : Launch) (Z : State) (y : MethodName) (bytes : ByteArray) (maxL : Nat) (ret : Option FieldType) (ws : List Cond) (rm : Room) (as' : Array Value) (h0 : Heap) (Q : Option Value → Heap → List Loc → Prop) (Pv Qv : Vm → Prop) : Prop :=
  MetFree l y (head1 (Cond.code y bytes maxL ret :: ws) rm) (fun a U => a = as' ∧ Z.Warmed39 U.vm ∧ U.heap = h0 ∧ Pv U.vm) (fun _ _ _ _ _ => True) (fun _ U o U' => ∃ v L, o = .returned v ∧ Q v U'.heap L ∧ EndV U Qv o U' L rm.cells rm.slots)
theorem startV {y : MethodName} {bytes : ByteArray} {maxL : Nat} {ret : Option FieldType} {ws : List Cond} {rm : Room} {as' : Array Value} {h0 : Heap} {Pv Qv : Vm → Prop} (pn : plainName y.cls = true)
    (body : ∀ (p : Program) (e : Env) (s : State) (vm0 : Vm) (m : MethodId) (below : List Frame) (meth : Method) (c : Code) (s₁ : State), Stand p l e rm (s.setVm vm0) m as' below meth c s₁ [] 0 0 → p.tables.exec = Jvm.exec → c.code = bytes → c.maxLocals = maxL → (s.setVm vm0).vm.findClass y.cls = some m.cls → meth.name = y.name → meth.sig.returnType = ret → meth.locks = false → Z.Warmed39 (s.setVm vm0).vm → s.Since vm0 0 → s₁.heap = h0 → s₁.heap = s.heap → Pv vm0 → Go p e below (EndV s Qv) Q rm.cells rm.slots s₁ (entryFrame m as' maxL)) : MetV l Z y bytes maxL ret ws rm as' h0 Q Pv Qv := by
  refine MetFree.of_bodySF (plainFor_of_name pn) hisR ?_
  intro p e s m args below meth c s₁ Bd hml0 hP hK
  obtain ⟨rfl, hZ, hh, hPv⟩ := hP
  exact body p e s s.vm m below meth c s₁ (show Stand p l e rm s m _ below meth c s₁ [] 0 0 from Stand.of_body Bd) Bd.exec Bd.bytes hml0 (findClass_of_methodNamed Bd.named) (name_of_methodNamed Bd.named Bd.method).1 Bd.returns Bd.notSynchronized hZ ((State.WarmedH.refl s).since 0) (by rw [← hh, Bd.state]; rfl) (by rw [Bd.state]; rfl) hPv
theorem backOfV {y : MethodName} {bytes : ByteArray} {maxL : Nat} {ret : Option FieldType} {rm : Room} {len W : Nat} {as' : Array Value} {Q : Option Value → Heap → List Loc → Prop} {Pv Qv : Vm → Prop}
    (hM : MetV l Z y bytes maxL ret [] rm as' h Q Pv Qv)
    (hZ : Z.Warmed39 s.vm) (wc : (Cond.code y bytes maxL ret).before a0 Z = true) (wz : (Cond.initialized y.cls).before a0 Z = true) (hf : rm.frames + 1 ≤ R.frames) (hl : W + (maxL + 11) + rm.locals ≤ R.locals) :
    BackS l R p e below s args y len W (fun A a => a = as' ∧ A.U.heap = h ∧ A.cells + rm.cells ≤ R.cells ∧ A.slots + rm.slots ≤ R.slots ∧ Pv A.U.vm)
      (fun A _ v B => ∃ L, Q v B.U.heap L ∧ B.locs = A.locs ++ L ∧ B.cells = A.cells + rm.cells ∧ B.slots = A.slots + rm.slots ∧ Qv B.U.vm) :=
  BackS.of_freeW (bytes := bytes) (maxL := maxL) (ret := ret) (E := fun _ _ o t L k n => k = rm.cells ∧ n = rm.slots ∧ ∃ v, o = .returned v ∧ Q v t.heap L ∧ Qv t.vm) hM hf hl
    (fun m meth c A a Y hp => have hU : Z.Warmed39 A.U.vm := wtrans hZ Y.warmed
      ⟨by show (Cond.and _ .tt).before a A.U = true; rw [Cond.before_and, mv hU wc]; rfl, mv hU wc, mv hU wz, hp.2.2.1, hp.2.2.2.1⟩)
    (fun m meth c A a g mk Y hp => ⟨hp.1, wtrans hZ Y.warmed, hp.2.1, hp.2.2.2.2⟩) (fun _ _ _ _ _ _ _ _ _ => trivial)
    (fun _ _ _ _ ⟨v, L, h1, h2, h3⟩ => ⟨L, _, _, h3.1, rfl, rfl, v, h1, h2, h3.2⟩)
    (fun m meth c A a g mk v t L k n Y hp _ _ ⟨e1, e2, v', e3, e4, e5⟩ => by cases e3; subst e1 e2; exact ⟨L, e4, rfl, rfl, rfl, e5⟩)
theorem callSV (X : Stand p l e R (s.setVm vm0) m args below meth c T locs cells slots) (hx : p.tables.exec = Jvm.exec) (hZ : Z.Warmed39 (s.setVm vm0).vm) (hS : s.Since vm0 k0) {own : String} {index : Nat} {y : MethodName} {bytes : ByteArray} {maxL W : Nat} {ret : Option FieldType} {rm : Room} {Qc : Option Value → Heap → List Loc → Prop} {Pv Qv : Vm → Prop} {argsL : List Value} (hown : (s.setVm vm0).vm.findClass own = some m.cls)
    (wl : (Cond.methodLink own index y).before a0 Z = true) (ws : (Cond.static y).before a0 Z = true) (wi : (Cond.initialized y.cls).before a0 Z = true) (wc : (Cond.code y bytes maxL ret).before a0 Z = true) (hy : y.cls ≠ "java/lang/invoke/MethodHandle" ∧ y.cls ≠ "java/lang/invoke/VarHandle")
    (hM : MetV l Z y bytes maxL ret [] rm argsL.toArray h Qc Pv Qv) (eT : T.heap = h) (hk0 : k0 ≤ h.size) (hP : ∀ vm₁, (s.setVm vm0).WarmedH vm₁ → Pv vm₁) (hf : rm.frames + 1 ≤ R.frames) (hl : W + (maxL + 11) + rm.locals ≤ R.locals) (hck : cells + rm.cells ≤ R.cells) (hsk : slots + rm.slots ≤ R.slots) (hsz : Ls.size = c.maxLocals)
    (hlen : ∀ sig, parseMethodDescriptor y.desc = some sig → argsL.length = sig.parameters.length) (hst : st = argsL.reverse ++ rest) (hW : (rest.map fun v => v.category).sum ≤ W) (hd : decode c.code pc = .ok (.invokestatic index, 3)) (hn : pc + 3 = n)
    (F : ∀ T' vm1 k1 v L, Stand p l e R (s.setVm vm1) m args below meth c T' (locs ++ L) (cells + rm.cells) (slots + rm.slots) → s.Since vm1 k1 → k1 ≤ T'.heap.size → Z.Warmed39 (s.setVm vm1).vm → (s.setVm vm1).vm.findClass own = some m.cls → Qc v T'.heap L → Qv vm1 → (s.setVm vm0).Warmed39 vm1 → Go p e below Fe Q K N T' (mkF m n Ls (v.toList ++ rest))) : Go p e below Fe Q K N T (mkF m pc Ls st) := by
  subst hn
  obtain ⟨v, _, ⟨T18, L18, k18, n18⟩, -, X18, hS18, hg18, ⟨Lc18, hQ18, l18, y18, z18, hV18⟩, st18⟩ := RoadKit.callSS X hx (y := y) hown (mvT hZ wl) (mvT hZ ws) (mvT hZ wi) (mvT hZ wc) hy (backOfV (W := W) hM hZ wc wi hf hl) (g := mkF m pc Ls st) rfl hsz (argsL := argsL) (rest := rest) hlen hst (by show 2 * 0 + _ ≤ _; omega) hd (fun vm₁ hw₁ => ⟨rfl, eT, hck, hsk, hP vm₁ hw₁⟩)
  dsimp only [Pt.U, Pt.locs, Pt.cells, Pt.slots] at X18 l18 y18 z18 st18 hQ18 hS18 hg18 hV18
  subst l18 y18 z18
  exact go (fun _ h => st18.trans h) (F T18 T18.vm _ v Lc18 X18 (foldS hS (by rw [eT]; exact hk0) hS18 hg18) (Nat.le_refl _) (State.Warmed39.trans (t := s.setVm vm0) hZ hS18.1) (by rw [show (s.setVm T18.vm).vm = T18.vm from rfl, hS18.1.alike.findClass]; exact hown) hQ18 hV18 hS18.1)
theorem callIV (X : Stand p l e R (s.setVm vm0) m args below meth c T locs cells slots) (hx : p.tables.exec = Jvm.exec) (hZ : Z.Warmed39 (s.setVm vm0).vm) (hS : s.Since vm0 k0) {own : String} {index : Nat} {y : MethodName} {bytes : ByteArray} {maxL W : Nat} {rm : Room} {Qc : Option Value → Heap → List Loc → Prop} {Pv Qv : Vm → Prop} {argsL : List Value} {a : Addr} (hy1 : y.name = "<init>") (hown : (s.setVm vm0).vm.findClass own = some m.cls)
    (wl : (Cond.methodLink own index y).before a0 Z = true) (wm : (Cond.instanceMethod y).before a0 Z = true) (wi : (Cond.initialized y.cls).before a0 Z = true) (wc : (Cond.code y bytes maxL none).before a0 Z = true) (hy : y.cls ≠ "java/lang/invoke/MethodHandle" ∧ y.cls ≠ "java/lang/invoke/VarHandle")
    (hM : MetV l Z y bytes maxL none [] rm (Value.ref a :: argsL).toArray h Qc Pv Qv) (eT : T.heap = h) (hk0 : k0 ≤ h.size) (hP : ∀ vm₁, (s.setVm vm0).WarmedH vm₁ → Pv vm₁) (hf : rm.frames + 1 ≤ R.frames) (hl : W + (maxL + 11) + rm.locals ≤ R.locals) (hck : cells + rm.cells ≤ R.cells) (hsk : slots + rm.slots ≤ R.slots) (hsz : Ls.size = c.maxLocals)
    (hlen : ∀ sig, parseMethodDescriptor y.desc = some sig → argsL.length = sig.parameters.length) (hst : st = argsL.reverse ++ .ref a :: rest) (hW : (rest.map fun v => v.category).sum ≤ W) (hd : decode c.code pc = .ok (.invokespecial index, 3)) (hn : pc + 3 = n)
    (F : ∀ T' vm1 k1 v L, Stand p l e R (s.setVm vm1) m args below meth c T' (locs ++ L) (cells + rm.cells) (slots + rm.slots) → s.Since vm1 k1 → k1 ≤ T'.heap.size → Z.Warmed39 (s.setVm vm1).vm → (s.setVm vm1).vm.findClass own = some m.cls → Qc v T'.heap L → Qv vm1 → (s.setVm vm0).Warmed39 vm1 → Go p e below Fe Q K N T' (mkF m n Ls (v.toList ++ rest))) : Go p e below Fe Q K N T (mkF m pc Ls st) := by
  subst hn
  obtain ⟨v, _, ⟨T18, L18, k18, n18⟩, -, X18, hS18, hg18, ⟨Lc18, hQ18, l18, y18, z18, hV18⟩, st18⟩ := X.specialBackS hx (y := y) hy1 hown (mvT hZ wl) (mvT hZ wm) (mvT hZ wc) hy (backOfV (W := W) hM hZ wc wi hf hl) (g := mkF m pc Ls st) rfl hsz (Steps.refl _) (a := a) (argsL := argsL) (rest := rest) hlen hst (by show 2 * 0 + _ ≤ _; omega) hd (fun vm₁ hw₁ => ⟨rfl, eT, hck, hsk, hP vm₁ hw₁⟩)
  dsimp only [Pt.U, Pt.locs, Pt.cells, Pt.slots] at X18 l18 y18 z18 st18 hQ18 hS18 hg18 hV18
  subst l18 y18 z18
  exact go (fun _ h => st18.trans h) (F T18 T18.vm _ v Lc18 X18 (foldS hS (by rw [eT]; exact hk0) hS18 hg18) (Nat.le_refl _) (State.Warmed39.trans (t := s.setVm vm0) hZ hS18.1) (by rw [show (s.setVm T18.vm).vm = T18.vm from rfl, hS18.1.alike.findClass]; exact hown) hQ18 hV18 hS18.1)
theorem IBw {vm1 : Vm} {Ts : List String} (I : Jvm.RoadKit.IB Z vm0 Ts) (hW : (s.setVm vm0).WarmedH vm1) : Jvm.RoadKit.IB Z vm1 Ts := by
  obtain ⟨more, h1, h2⟩ := I
  exact ⟨more, (show vm1.interned = vm0.interned from hW.interned_eq).trans h1, h2⟩
theorem IBt {Ts : List String} (I : Jvm.RoadKit.IB Z vm0 Ts) (X : Stand p l e R (s.setVm vm0) m args below meth c T locs cells slots) : Jvm.RoadKit.IB Z T.vm Ts := IBw I X.warmed
/-- the start's cells stand -/
def Old (Z : State) (h : Heap) : Prop := ∀ (b' : Addr) (cl : Cell), Z.heap[b']? = some cl → h[b']? = some cl
theorem old_refl : Old Z Z.heap := fun _ _ q => q
theorem old_ext {h' : Heap} (O : Old Z h) (E : Ext h h') : Old Z h' := fun b' cl q => E.2 b' cl (O b' cl q)
theorem old_keep {h' : Heap} {a : Addr} (O : Old Z h) (Kp : Keep h h' [a]) (ha : Z.heap.size ≤ a) : Old Z h' := fun b' cl q => Kp.2.1 b' cl (O b' cl q) (fun z => by
  cases List.mem_singleton.mp z
  exact absurd (Array.getElem?_eq_some_iff.mp q).1 (by omega))
theorem old_wr {h' : Heap} {a : Addr} {sl : Nat} {v : Value} (O : Old Z h) (W : Wr h h' a sl v) (ha : Z.heap.size ≤ a) : Old Z h' := old_keep O (Keep.of_wr W) ha
theorem ldcV (X : Stand p l e R (s.setVm vm0) m args below meth c T locs cells slots) (hx : p.tables.exec = Jvm.exec) (hZ : Z.Warmed39 (s.setVm vm0).vm) (hS : s.Since vm0 k0) {own text : String} {index : Nat} (hown : (s.setVm vm0).vm.findClass own = some m.cls) (w : (Cond.stringLink own index text).before a0 Z = true) (wS : ∀ a ∈ Bundle.stringAtoms, a.before a0 Z = true) (eT : T.heap = h) (hk0 : k0 ≤ h.size) (Nn : Fr s.heap.size locs) (O : Old Z s.heap) {Ts : List String} (I : Jvm.RoadKit.IB Z vm0 Ts) (hnot : text ∉ Ts) (hh : Jvm.Lit.constHeld Z own index) (hcw : Jvm.Lit.compactW.before a0 Z = true)
    {vs : List Value} {z : Int32} (ht : (∀ c ∈ text.toList, c.toNat < 256) ∧ text.toList.map (fun c => Value.int (Jvm.Lit.byteI c.toNat.toUInt16)) = vs) (hz : ¬ z < 0) (hlz : z.toNatClampNeg = vs.length) (len : Nat) (hlen : 4 * text.toList.length ≤ len) (hbig : len ≤ 536870912) (hc : cells + 2 ≤ R.cells) (hl : slots + (len + 4) ≤ R.slots) (hd : decode c.code pc = .ok (.ldc index, 2)) (hn : pc + 2 = n)
    (F : ∀ a T' h' vm1 k1 b' kb, Stand p l e R (s.setVm vm1) m args below meth c T' locs (cells + 2) (slots + (len + 4)) → T'.heap = h' → Ext h h' → s.Since vm1 k1 → k1 ≤ h'.size → Z.Warmed39 (s.setVm vm1).vm → (s.setVm vm1).vm.findClass own = some m.cls → Exa Z h' a "java/lang/String" → Fld Z h' a "java/lang/String" "coder" "B" (.int 0) → Fld Z h' a "java/lang/String" "value" "[B" (.ref b') → Arv Z h' b' kb .byte z vs (.int 0) → Jvm.RoadKit.IB Z vm1 (text :: Ts) → Jvm.RoadKit.Lit (s.setVm vm1) own index a → (s.setVm vm0).Warmed39 vm1 → (a < s.heap.size ∨ h.size ≤ a) → Go p e below Fe Q K N T' (mkF m n Ls (.ref a :: st))) : Go p e below Fe Q K N T (mkF m pc Ls st) := by
  subst hn
  obtain ⟨a, T', h', k1, b', kb, X', e', E, hS', hk', hZ', ho', r1, r2, r3, r4, -, -, r5, r6, r7, st'⟩ := RoadKit.ldcSVd (s := s.setVm vm0) (vm0 := vm0) X hx hZ hown w wS eT ((State.WarmedH.refl (s.setVm vm0)).since 0) (Nat.zero_le _) Nn O I hnot hh hcw ht hz hlz (g := mkF m pc Ls st) rfl hd hlen hbig hc hl
  have hS2 : (s.setVm vm0).Since T'.vm h'.size := ⟨hS'.1, fun j p u w => ⟨(hS'.2 j p u w).1, Nat.lt_of_lt_of_le (hS'.2 j p u w).2 hk'⟩⟩
  exact go (fun _ h => st' _ h) (F a T' h' T'.vm h'.size b' kb X' e' E (hS.trans hS2 (Nat.le_trans hk0 E.1)) (Nat.le_refl _) hZ' ho' r1 r2 r3 r4 r5 r6 hS'.1 (r7.elim (fun q => Or.inl q.1) (fun q => Or.inr q.1)))
theorem ldcA (X : Stand p l e R (s.setVm vm0) m args below meth c T locs cells slots) (hx : p.tables.exec = Jvm.exec) (hZ : Z.Warmed39 (s.setVm vm0).vm) {own text : String} {index : Nat} (hown : (s.setVm vm0).vm.findClass own = some m.cls) (w : (Cond.stringLink own index text).before a0 Z = true) {a : Addr} (L : Jvm.RoadKit.Lit (s.setVm vm0) own index a) (hd : decode c.code pc = .ok (.ldc index, 2)) (hn : pc + 2 = n) (F : Go p e below Fe Q K N T (mkF m n Ls (.ref a :: st))) : Go p e below Fe Q K N T (mkF m pc Ls st) := by
  subst hn
  exact go (fun _ h => RoadKit.ldcAgain X hx hZ hown w L (g := mkF m pc Ls st) rfl hd _ h) F
theorem IBcons {text : String} {Ts : List String} (I : Jvm.RoadKit.IB Z vm0 Ts) : Jvm.RoadKit.IB Z vm0 (text :: Ts) := by
  obtain ⟨more, h1, h2⟩ := I
  exact ⟨more, h1, fun q hq => by obtain ⟨t, m, e⟩ := h2 q hq; exact ⟨t, List.mem_cons_of_mem _ m, e⟩⟩
theorem ldcE (X : Stand p l e R (s.setVm vm0) m args below meth c T locs cells slots) (hx : p.tables.exec = Jvm.exec) (hZ : Z.Warmed39 (s.setVm vm0).vm) (hS : s.Since vm0 k0) {own text : String} {index : Nat} (hown : (s.setVm vm0).vm.findClass own = some m.cls) (w : (Cond.stringLink own index text).before a0 Z = true) (wS : ∀ a ∈ Bundle.stringAtoms, a.before a0 Z = true) (eT : T.heap = h) (hk0 : k0 ≤ h.size) (Nn : Fr s.heap.size locs) (O : Old Z s.heap) {Ts : List String} (I : Jvm.RoadKit.IB Z vm0 Ts) {Pr : Addr → Heap → Prop} (hL : text ∉ Ts ∨ ∃ x, Jvm.RoadKit.Lit (s.setVm vm0) own index x ∧ Pr x h) (hh : Jvm.Lit.constHeld Z own index) (hcw : Jvm.Lit.compactW.before a0 Z = true)
    {vs : List Value} {z : Int32} (ht : (∀ c ∈ text.toList, c.toNat < 256) ∧ text.toList.map (fun c => Value.int (Jvm.Lit.byteI c.toNat.toUInt16)) = vs) (hz : ¬ z < 0) (hlz : z.toNatClampNeg = vs.length) (hmk : ∀ x h' b' kb, Ext h h' → Exa Z h' x "java/lang/String" → Fld Z h' x "java/lang/String" "coder" "B" (.int 0) → Fld Z h' x "java/lang/String" "value" "[B" (.ref b') → Arv Z h' b' kb .byte z vs (.int 0) → (x < s.heap.size ∨ h.size ≤ x) → Pr x h') (len : Nat) (hlen : 4 * text.toList.length ≤ len) (hbig : len ≤ 536870912) (hc : cells + 2 ≤ R.cells) (hl : slots + (len + 4) ≤ R.slots) (hd : decode c.code pc = .ok (.ldc index, 2)) (hn : pc + 2 = n)
    (F : ∀ x T' h' vm1 k1, Stand p l e R (s.setVm vm1) m args below meth c T' locs (cells + 2) (slots + (len + 4)) → T'.heap = h' → Ext h h' → s.Since vm1 k1 → k1 ≤ h'.size → Z.Warmed39 (s.setVm vm1).vm → (s.setVm vm1).vm.findClass own = some m.cls → Pr x h' → Jvm.RoadKit.IB Z vm1 (text :: Ts) → (s.setVm vm0).Warmed39 vm1 → Jvm.RoadKit.Lit (s.setVm vm1) own index x → Go p e below Fe Q K N T' (mkF m n Ls (.ref x :: st))) : Go p e below Fe Q K N T (mkF m pc Ls st) := by
  rcases hL with hnot | ⟨x, L, P⟩
  · exact ldcV X hx hZ hS hown w wS eT hk0 Nn O I hnot hh hcw ht hz hlz len hlen hbig hc hl hd hn (fun a T' h' vm1 k1 b' kb r1 r2 r3 r4 r5 r6 r7 r8 r9 r10 r11 r12 r13 r14 r15 => F a T' h' vm1 k1 r1 r2 r3 r4 r5 r6 r7 (hmk a h' b' kb r3 r8 r9 r10 r11 r15) r12 r14 r13)
  · refine ldcA X hx hZ hown w L hd hn (F x T h vm0 k0 (X.mono (by omega) (by omega)) eT ⟨Nat.le_refl _, fun _ _ q => q⟩ hS hk0 hZ hown P (IBcons I) (State.Warmed39.refl (s.setVm vm0)) L)
theorem cloneV (X : Stand p l e R s m args below meth c T locs cells slots) (hx : p.tables.exec = Jvm.exec) (hZ : Z.Warmed39 s.vm) {own ad : String} {index : Nat} (hown : s.vm.findClass own = some m.cls)
    (w1 : (Cond.methodLink own index ⟨ad, "clone", "()Ljava/lang/Object;"⟩).before a0 Z = true) (w2 : (Cond.sameMethod ad "java/lang/Object" "clone" "()Ljava/lang/Object;").before a0 Z = true) (w3 : (Cond.native ⟨"java/lang/Object", "clone", "()Ljava/lang/Object;"⟩).before a0 Z = true)
    (w4 : (Cond.instanceMethod ⟨"java/lang/Object", "clone", "()Ljava/lang/Object;"⟩).before a0 Z = true) (w5 : (Cond.selects ad ⟨ad, "clone", "()Ljava/lang/Object;"⟩ ⟨"java/lang/Object", "clone", "()Ljava/lang/Object;"⟩).before a0 Z = true) (w6 : (Cond.castable ad "java/lang/Cloneable").before a0 Z = true)
    (eT : T.heap = h) {a : Addr} {k : ClassId} {ty : FieldType} {z : Int32} {vs : List Value} {d : Value} (A : Arv Z h a k ty z vs d) (E : Exa Z h a ad) (hsz : Ls.size = c.maxLocals) (hf : 1 ≤ R.frames) {W : Nat} (cap : Nat) (hW : (st.map fun v => v.category).sum ≤ W) (hl : W + 14 ≤ R.locals) (hcap : z.toNatClampNeg ≤ cap) (hc : cells + 1 ≤ R.cells) (hsl : slots + cap ≤ R.slots) (hd : decode c.code pc = .ok (.invokevirtual index, 3)) (hn : pc + 3 = n)
    (F : ∀ T' h', Stand p l e R s m args below meth c T' locs (cells + 1) (slots + cap) → T'.heap = h' → Ext h h' → Arv Z h' h.size k ty z vs d → Exa Z h' h.size ad → Go p e below Fe Q K N T' (mkF m n Ls (.ref h.size :: st))) : Go p e below Fe Q K N T (mkF m pc Ls (.ref a :: st)) := by
  subst hn
  obtain ⟨cl, Ar, q1, S, q3, H, G'⟩ := A
  have FC : FitC Z cl := fitC_of Ar fun i hi v hv => by rw [H i hi] at hv; cases hv; exact G' i hi
  obtain ⟨T', h', X', e', ex, A', E', st'⟩ := RoadKit.cloneA X hx hZ hown w1 w2 w3 w4 w5 w6 eT Ar E FC (g := mkF m pc Ls (.ref a :: st)) rfl hsz rfl hd hf (W := W) (cap := cap) (by show 2 * 0 + _ ≤ _; omega) hl (by rw [S]; exact hcap) hc hsl
  exact go (fun _ h => st' _ h) (F T' h' X' e' ex ⟨cloneOf cl, A', q1, S, q3, H, G'⟩ E')
theorem instNul (X : Stand p l e R s m args below meth c T locs cells slots) (hx : p.tables.exec = Jvm.exec) {index : Nat} (hd : decode c.code pc = .ok (.instanceof index, 3)) (hn : pc + 3 = n) (F : Go p e below Fe Q K N T (mkF m n Ls (.int 0 :: st))) : Go p e below Fe Q K N T (mkF m pc Ls (.null :: st)) := by
  subst hn
  exact go (fun _ h => X.instanceofNull hx (g := mkF m pc Ls (.null :: st)) rfl rfl hd _ h) F
end WD
end Jvm.Wk
namespace Jvm.Pilot.@@N@@
open Jvm Jvm.ClassFile Sem Op Lib Jvm.Free Jvm.Stand Jvm.LawKit Jvm.RoadKit Bundle Jvm.Pilot.@@N@@.Jvm.D
theorem d1_0 : decode method_6_code 0 = .ok (.iload_n 1, 1) := by decide +kernel
theorem d1_1 : decode method_6_code 1 = .ok (.ifCond .ne 14, 3) := by decide +kernel
theorem d1_4 : decode method_6_code 4 = .ok (.new 43, 3) := by decide +kernel
theorem d1_7 : decode method_6_code 7 = .ok (.dup, 1) := by decide +kernel
theorem d1_8 : decode method_6_code 8 = .ok (.iconst 0, 1) := by decide +kernel
theorem d1_9 : decode method_6_code 9 = .ok (.newarray .char, 2) := by decide +kernel
theorem d1_11 : decode method_6_code 11 = .ok (.invokespecial 45, 3) := by decide +kernel
theorem d1_14 : decode method_6_code 14 = .ok (.areturn, 1) := by decide +kernel
theorem d1_15 : decode method_6_code 15 = .ok (.iload_n 1, 1) := by decide +kernel
theorem d1_16 : decode method_6_code 16 = .ok (.iconst 1, 1) := by decide +kernel
theorem d1_17 : decode method_6_code 17 = .ok (.if_icmp .ne 20, 3) := by decide +kernel
theorem d1_20 : decode method_6_code 20 = .ok (.new 43, 3) := by decide +kernel
theorem d1_23 : decode method_6_code 23 = .ok (.dup, 1) := by decide +kernel
theorem d1_24 : decode method_6_code 24 = .ok (.iconst 1, 1) := by decide +kernel
theorem d1_25 : decode method_6_code 25 = .ok (.newarray .char, 2) := by decide +kernel
theorem d1_27 : decode method_6_code 27 = .ok (.dup, 1) := by decide +kernel
theorem d1_28 : decode method_6_code 28 = .ok (.iconst 0, 1) := by decide +kernel
theorem d1_29 : decode method_6_code 29 = .ok (.aload_n 0, 1) := by decide +kernel
theorem d1_30 : decode method_6_code 30 = .ok (.iconst 0, 1) := by decide +kernel
theorem d1_31 : decode method_6_code 31 = .ok (.caload, 1) := by decide +kernel
theorem d1_32 : decode method_6_code 32 = .ok (.castore, 1) := by decide +kernel
theorem d1_33 : decode method_6_code 33 = .ok (.invokespecial 45, 3) := by decide +kernel
theorem d1_36 : decode method_6_code 36 = .ok (.areturn, 1) := by decide +kernel
theorem d1_37 : decode method_6_code 37 = .ok (.iload_n 1, 1) := by decide +kernel
theorem d1_38 : decode method_6_code 38 = .ok (.iconst 2, 1) := by decide +kernel
theorem d1_39 : decode method_6_code 39 = .ok (.if_icmp .ne 26, 3) := by decide +kernel
theorem d1_42 : decode method_6_code 42 = .ok (.new 43, 3) := by decide +kernel
theorem d1_45 : decode method_6_code 45 = .ok (.dup, 1) := by decide +kernel
theorem d1_46 : decode method_6_code 46 = .ok (.iconst 2, 1) := by decide +kernel
theorem d1_47 : decode method_6_code 47 = .ok (.newarray .char, 2) := by decide +kernel
theorem d1_49 : decode method_6_code 49 = .ok (.dup, 1) := by decide +kernel
theorem d1_50 : decode method_6_code 50 = .ok (.iconst 0, 1) := by decide +kernel
theorem d1_51 : decode method_6_code 51 = .ok (.aload_n 0, 1) := by decide +kernel
theorem d1_52 : decode method_6_code 52 = .ok (.iconst 0, 1) := by decide +kernel
theorem d1_53 : decode method_6_code 53 = .ok (.caload, 1) := by decide +kernel
theorem d1_54 : decode method_6_code 54 = .ok (.castore, 1) := by decide +kernel
theorem d1_55 : decode method_6_code 55 = .ok (.dup, 1) := by decide +kernel
theorem d1_56 : decode method_6_code 56 = .ok (.iconst 1, 1) := by decide +kernel
theorem d1_57 : decode method_6_code 57 = .ok (.aload_n 0, 1) := by decide +kernel
theorem d1_58 : decode method_6_code 58 = .ok (.iconst 1, 1) := by decide +kernel
theorem d1_59 : decode method_6_code 59 = .ok (.caload, 1) := by decide +kernel
theorem d1_60 : decode method_6_code 60 = .ok (.castore, 1) := by decide +kernel
theorem d1_61 : decode method_6_code 61 = .ok (.invokespecial 45, 3) := by decide +kernel
theorem d1_64 : decode method_6_code 64 = .ok (.areturn, 1) := by decide +kernel
theorem d1_65 : decode method_6_code 65 = .ok (.iload_n 1, 1) := by decide +kernel
theorem d1_66 : decode method_6_code 66 = .ok (.iconst 3, 1) := by decide +kernel
theorem d1_67 : decode method_6_code 67 = .ok (.if_icmp .ne 32, 3) := by decide +kernel
theorem d1_70 : decode method_6_code 70 = .ok (.new 43, 3) := by decide +kernel
theorem d1_73 : decode method_6_code 73 = .ok (.dup, 1) := by decide +kernel
theorem d1_74 : decode method_6_code 74 = .ok (.iconst 3, 1) := by decide +kernel
theorem d1_75 : decode method_6_code 75 = .ok (.newarray .char, 2) := by decide +kernel
theorem d1_77 : decode method_6_code 77 = .ok (.dup, 1) := by decide +kernel
theorem d1_78 : decode method_6_code 78 = .ok (.iconst 0, 1) := by decide +kernel
theorem d1_79 : decode method_6_code 79 = .ok (.aload_n 0, 1) := by decide +kernel
theorem d1_80 : decode method_6_code 80 = .ok (.iconst 0, 1) := by decide +kernel
theorem d1_81 : decode method_6_code 81 = .ok (.caload, 1) := by decide +kernel
theorem d1_82 : decode method_6_code 82 = .ok (.castore, 1) := by decide +kernel
theorem d1_83 : decode method_6_code 83 = .ok (.dup, 1) := by decide +kernel
theorem d1_84 : decode method_6_code 84 = .ok (.iconst 1, 1) := by decide +kernel
theorem d1_85 : decode method_6_code 85 = .ok (.aload_n 0, 1) := by decide +kernel
theorem d1_86 : decode method_6_code 86 = .ok (.iconst 1, 1) := by decide +kernel
theorem d1_87 : decode method_6_code 87 = .ok (.caload, 1) := by decide +kernel
theorem d1_88 : decode method_6_code 88 = .ok (.castore, 1) := by decide +kernel
theorem d1_89 : decode method_6_code 89 = .ok (.dup, 1) := by decide +kernel
theorem d1_90 : decode method_6_code 90 = .ok (.iconst 2, 1) := by decide +kernel
theorem d1_91 : decode method_6_code 91 = .ok (.aload_n 0, 1) := by decide +kernel
theorem d1_92 : decode method_6_code 92 = .ok (.iconst 2, 1) := by decide +kernel
theorem d1_93 : decode method_6_code 93 = .ok (.caload, 1) := by decide +kernel
theorem d1_94 : decode method_6_code 94 = .ok (.castore, 1) := by decide +kernel
theorem d1_95 : decode method_6_code 95 = .ok (.invokespecial 45, 3) := by decide +kernel
theorem d1_98 : decode method_6_code 98 = .ok (.areturn, 1) := by decide +kernel
theorem d1_99 : decode method_6_code 99 = .ok (.iload_n 1, 1) := by decide +kernel
theorem d1_100 : decode method_6_code 100 = .ok (.iconst 4, 1) := by decide +kernel
theorem d1_101 : decode method_6_code 101 = .ok (.if_icmp .ne 38, 3) := by decide +kernel
theorem d1_104 : decode method_6_code 104 = .ok (.new 43, 3) := by decide +kernel
theorem d1_107 : decode method_6_code 107 = .ok (.dup, 1) := by decide +kernel
theorem d1_108 : decode method_6_code 108 = .ok (.iconst 4, 1) := by decide +kernel
theorem d1_109 : decode method_6_code 109 = .ok (.newarray .char, 2) := by decide +kernel
theorem d1_111 : decode method_6_code 111 = .ok (.dup, 1) := by decide +kernel
theorem d1_112 : decode method_6_code 112 = .ok (.iconst 0, 1) := by decide +kernel
theorem d1_113 : decode method_6_code 113 = .ok (.aload_n 0, 1) := by decide +kernel
theorem d1_114 : decode method_6_code 114 = .ok (.iconst 0, 1) := by decide +kernel
theorem d1_115 : decode method_6_code 115 = .ok (.caload, 1) := by decide +kernel
theorem d1_116 : decode method_6_code 116 = .ok (.castore, 1) := by decide +kernel
theorem d1_117 : decode method_6_code 117 = .ok (.dup, 1) := by decide +kernel
theorem d1_118 : decode method_6_code 118 = .ok (.iconst 1, 1) := by decide +kernel
theorem d1_119 : decode method_6_code 119 = .ok (.aload_n 0, 1) := by decide +kernel
theorem d1_120 : decode method_6_code 120 = .ok (.iconst 1, 1) := by decide +kernel
theorem d1_121 : decode method_6_code 121 = .ok (.caload, 1) := by decide +kernel
theorem d1_122 : decode method_6_code 122 = .ok (.castore, 1) := by decide +kernel
theorem d1_123 : decode method_6_code 123 = .ok (.dup, 1) := by decide +kernel
theorem d1_124 : decode method_6_code 124 = .ok (.iconst 2, 1) := by decide +kernel
theorem d1_125 : decode method_6_code 125 = .ok (.aload_n 0, 1) := by decide +kernel
theorem d1_126 : decode method_6_code 126 = .ok (.iconst 2, 1) := by decide +kernel
theorem d1_127 : decode method_6_code 127 = .ok (.caload, 1) := by decide +kernel
theorem d1_128 : decode method_6_code 128 = .ok (.castore, 1) := by decide +kernel
theorem d1_129 : decode method_6_code 129 = .ok (.dup, 1) := by decide +kernel
theorem d1_130 : decode method_6_code 130 = .ok (.iconst 3, 1) := by decide +kernel
theorem d1_131 : decode method_6_code 131 = .ok (.aload_n 0, 1) := by decide +kernel
theorem d1_132 : decode method_6_code 132 = .ok (.iconst 3, 1) := by decide +kernel
theorem d1_133 : decode method_6_code 133 = .ok (.caload, 1) := by decide +kernel
theorem d1_134 : decode method_6_code 134 = .ok (.castore, 1) := by decide +kernel
theorem d1_135 : decode method_6_code 135 = .ok (.invokespecial 45, 3) := by decide +kernel
theorem d1_138 : decode method_6_code 138 = .ok (.areturn, 1) := by decide +kernel
theorem d1_139 : decode method_6_code 139 = .ok (.iload_n 1, 1) := by decide +kernel
theorem d1_140 : decode method_6_code 140 = .ok (.iconst 5, 1) := by decide +kernel
theorem d1_141 : decode method_6_code 141 = .ok (.if_icmp .ne 44, 3) := by decide +kernel
theorem d1_144 : decode method_6_code 144 = .ok (.new 43, 3) := by decide +kernel
theorem d1_147 : decode method_6_code 147 = .ok (.dup, 1) := by decide +kernel
theorem d1_148 : decode method_6_code 148 = .ok (.iconst 5, 1) := by decide +kernel
theorem d1_149 : decode method_6_code 149 = .ok (.newarray .char, 2) := by decide +kernel
theorem d1_151 : decode method_6_code 151 = .ok (.dup, 1) := by decide +kernel
theorem d1_152 : decode method_6_code 152 = .ok (.iconst 0, 1) := by decide +kernel
theorem d1_153 : decode method_6_code 153 = .ok (.aload_n 0, 1) := by decide +kernel
theorem d1_154 : decode method_6_code 154 = .ok (.iconst 0, 1) := by decide +kernel
theorem d1_155 : decode method_6_code 155 = .ok (.caload, 1) := by decide +kernel
theorem d1_156 : decode method_6_code 156 = .ok (.castore, 1) := by decide +kernel
theorem d1_157 : decode method_6_code 157 = .ok (.dup, 1) := by decide +kernel
theorem d1_158 : decode method_6_code 158 = .ok (.iconst 1, 1) := by decide +kernel
theorem d1_159 : decode method_6_code 159 = .ok (.aload_n 0, 1) := by decide +kernel
theorem d1_160 : decode method_6_code 160 = .ok (.iconst 1, 1) := by decide +kernel
theorem d1_161 : decode method_6_code 161 = .ok (.caload, 1) := by decide +kernel
theorem d1_162 : decode method_6_code 162 = .ok (.castore, 1) := by decide +kernel
theorem d1_163 : decode method_6_code 163 = .ok (.dup, 1) := by decide +kernel
theorem d1_164 : decode method_6_code 164 = .ok (.iconst 2, 1) := by decide +kernel
theorem d1_165 : decode method_6_code 165 = .ok (.aload_n 0, 1) := by decide +kernel
theorem d1_166 : decode method_6_code 166 = .ok (.iconst 2, 1) := by decide +kernel
theorem d1_167 : decode method_6_code 167 = .ok (.caload, 1) := by decide +kernel
theorem d1_168 : decode method_6_code 168 = .ok (.castore, 1) := by decide +kernel
theorem d1_169 : decode method_6_code 169 = .ok (.dup, 1) := by decide +kernel
theorem d1_170 : decode method_6_code 170 = .ok (.iconst 3, 1) := by decide +kernel
theorem d1_171 : decode method_6_code 171 = .ok (.aload_n 0, 1) := by decide +kernel
theorem d1_172 : decode method_6_code 172 = .ok (.iconst 3, 1) := by decide +kernel
theorem d1_173 : decode method_6_code 173 = .ok (.caload, 1) := by decide +kernel
theorem d1_174 : decode method_6_code 174 = .ok (.castore, 1) := by decide +kernel
theorem d1_175 : decode method_6_code 175 = .ok (.dup, 1) := by decide +kernel
theorem d1_176 : decode method_6_code 176 = .ok (.iconst 4, 1) := by decide +kernel
theorem d1_177 : decode method_6_code 177 = .ok (.aload_n 0, 1) := by decide +kernel
theorem d1_178 : decode method_6_code 178 = .ok (.iconst 4, 1) := by decide +kernel
theorem d1_179 : decode method_6_code 179 = .ok (.caload, 1) := by decide +kernel
theorem d1_180 : decode method_6_code 180 = .ok (.castore, 1) := by decide +kernel
theorem d1_181 : decode method_6_code 181 = .ok (.invokespecial 45, 3) := by decide +kernel
theorem d1_184 : decode method_6_code 184 = .ok (.areturn, 1) := by decide +kernel
theorem d1_185 : decode method_6_code 185 = .ok (.new 43, 3) := by decide +kernel
theorem d1_188 : decode method_6_code 188 = .ok (.dup, 1) := by decide +kernel
theorem d1_189 : decode method_6_code 189 = .ok (.bipush 6, 2) := by decide +kernel
theorem d1_191 : decode method_6_code 191 = .ok (.newarray .char, 2) := by decide +kernel
theorem d1_193 : decode method_6_code 193 = .ok (.dup, 1) := by decide +kernel
theorem d1_194 : decode method_6_code 194 = .ok (.iconst 0, 1) := by decide +kernel
theorem d1_195 : decode method_6_code 195 = .ok (.aload_n 0, 1) := by decide +kernel
theorem d1_196 : decode method_6_code 196 = .ok (.iconst 0, 1) := by decide +kernel
theorem d1_197 : decode method_6_code 197 = .ok (.caload, 1) := by decide +kernel
theorem d1_198 : decode method_6_code 198 = .ok (.castore, 1) := by decide +kernel
theorem d1_199 : decode method_6_code 199 = .ok (.dup, 1) := by decide +kernel
theorem d1_200 : decode method_6_code 200 = .ok (.iconst 1, 1) := by decide +kernel
theorem d1_201 : decode method_6_code 201 = .ok (.aload_n 0, 1) := by decide +kernel
theorem d1_202 : decode method_6_code 202 = .ok (.iconst 1, 1) := by decide +kernel
theorem d1_203 : decode method_6_code 203 = .ok (.caload, 1) := by decide +kernel
theorem d1_204 : decode method_6_code 204 = .ok (.castore, 1) := by decide +kernel
theorem d1_205 : decode method_6_code 205 = .ok (.dup, 1) := by decide +kernel
theorem d1_206 : decode method_6_code 206 = .ok (.iconst 2, 1) := by decide +kernel
theorem d1_207 : decode method_6_code 207 = .ok (.aload_n 0, 1) := by decide +kernel
theorem d1_208 : decode method_6_code 208 = .ok (.iconst 2, 1) := by decide +kernel
theorem d1_209 : decode method_6_code 209 = .ok (.caload, 1) := by decide +kernel
theorem d1_210 : decode method_6_code 210 = .ok (.castore, 1) := by decide +kernel
theorem d1_211 : decode method_6_code 211 = .ok (.dup, 1) := by decide +kernel
theorem d1_212 : decode method_6_code 212 = .ok (.iconst 3, 1) := by decide +kernel
theorem d1_213 : decode method_6_code 213 = .ok (.aload_n 0, 1) := by decide +kernel
theorem d1_214 : decode method_6_code 214 = .ok (.iconst 3, 1) := by decide +kernel
theorem d1_215 : decode method_6_code 215 = .ok (.caload, 1) := by decide +kernel
theorem d1_216 : decode method_6_code 216 = .ok (.castore, 1) := by decide +kernel
theorem d1_217 : decode method_6_code 217 = .ok (.dup, 1) := by decide +kernel
theorem d1_218 : decode method_6_code 218 = .ok (.iconst 4, 1) := by decide +kernel
theorem d1_219 : decode method_6_code 219 = .ok (.aload_n 0, 1) := by decide +kernel
theorem d1_220 : decode method_6_code 220 = .ok (.iconst 4, 1) := by decide +kernel
theorem d1_221 : decode method_6_code 221 = .ok (.caload, 1) := by decide +kernel
theorem d1_222 : decode method_6_code 222 = .ok (.castore, 1) := by decide +kernel
theorem d1_223 : decode method_6_code 223 = .ok (.dup, 1) := by decide +kernel
theorem d1_224 : decode method_6_code 224 = .ok (.iconst 5, 1) := by decide +kernel
theorem d1_225 : decode method_6_code 225 = .ok (.aload_n 0, 1) := by decide +kernel
theorem d1_226 : decode method_6_code 226 = .ok (.iconst 5, 1) := by decide +kernel
theorem d1_227 : decode method_6_code 227 = .ok (.caload, 1) := by decide +kernel
theorem d1_228 : decode method_6_code 228 = .ok (.castore, 1) := by decide +kernel
theorem d1_229 : decode method_6_code 229 = .ok (.invokespecial 45, 3) := by decide +kernel
theorem d1_232 : decode method_6_code 232 = .ok (.areturn, 1) := by decide +kernel
theorem pd1 : parseMethodDescriptor "([CI)Ljava/lang/String;" = some ⟨[(.array .char), .int], some (.object "java/lang/String")⟩ := by decide +kernel
theorem pn1 : plainName "com/example/rillet/rillet/transport/Utf8LengthPinLaw" = true := by first | (simp [plainName, overriddenIn]; done) | decide +kernel
theorem d2_0 : decode jdk_42_method_3_code 0 = .ok (.aload_n 0, 1) := by decide +kernel
theorem d2_1 : decode jdk_42_method_3_code 1 = .ok (.aload_n 1, 1) := by decide +kernel
theorem d2_2 : decode jdk_42_method_3_code 2 = .ok (.iconst 0, 1) := by decide +kernel
theorem d2_3 : decode jdk_42_method_3_code 3 = .ok (.aload_n 1, 1) := by decide +kernel
theorem d2_4 : decode jdk_42_method_3_code 4 = .ok (.arraylength, 1) := by decide +kernel
theorem d2_5 : decode jdk_42_method_3_code 5 = .ok (.aconst_null, 1) := by decide +kernel
theorem d2_6 : decode jdk_42_method_3_code 6 = .ok (.invokespecial 27, 3) := by decide +kernel
theorem d2_9 : decode jdk_42_method_3_code 9 = .ok (.return_, 1) := by decide +kernel
theorem pd2 : parseMethodDescriptor "([C)V" = some ⟨[(.array .char)], none⟩ := by decide +kernel
theorem pn2 : plainName "java/lang/String" = true := by first | (simp [plainName, overriddenIn]; done) | decide +kernel
theorem d3_0 : decode jdk_42_method_149_code 0 = .ok (.aload_n 0, 1) := by decide +kernel
theorem d3_1 : decode jdk_42_method_149_code 1 = .ok (.invokespecial 1, 3) := by decide +kernel
theorem d3_4 : decode jdk_42_method_149_code 4 = .ok (.iload_n 3, 1) := by decide +kernel
theorem d3_5 : decode jdk_42_method_149_code 5 = .ok (.ifCond .ne 22, 3) := by decide +kernel
theorem d3_8 : decode jdk_42_method_149_code 8 = .ok (.aload_n 0, 1) := by decide +kernel
theorem d3_9 : decode jdk_42_method_149_code 9 = .ok (.ldc 7, 2) := by decide +kernel
theorem d3_11 : decode jdk_42_method_149_code 11 = .ok (.getfield 9, 3) := by decide +kernel
theorem d3_14 : decode jdk_42_method_149_code 14 = .ok (.putfield 9, 3) := by decide +kernel
theorem d3_17 : decode jdk_42_method_149_code 17 = .ok (.aload_n 0, 1) := by decide +kernel
theorem d3_18 : decode jdk_42_method_149_code 18 = .ok (.ldc 7, 2) := by decide +kernel
theorem d3_20 : decode jdk_42_method_149_code 20 = .ok (.getfield 15, 3) := by decide +kernel
theorem d3_23 : decode jdk_42_method_149_code 23 = .ok (.putfield 15, 3) := by decide +kernel
theorem d3_26 : decode jdk_42_method_149_code 26 = .ok (.return_, 1) := by decide +kernel
theorem d3_27 : decode jdk_42_method_149_code 27 = .ok (.getstatic 38, 3) := by decide +kernel
theorem d3_30 : decode jdk_42_method_149_code 30 = .ok (.ifCond .eq 28, 3) := by decide +kernel
theorem d3_33 : decode jdk_42_method_149_code 33 = .ok (.aload_n 1, 1) := by decide +kernel
theorem d3_34 : decode jdk_42_method_149_code 34 = .ok (.iload_n 2, 1) := by decide +kernel
theorem d3_35 : decode jdk_42_method_149_code 35 = .ok (.iload_n 3, 1) := by decide +kernel
theorem d3_36 : decode jdk_42_method_149_code 36 = .ok (.invokestatic 177, 3) := by decide +kernel
theorem d3_39 : decode jdk_42_method_149_code 39 = .ok (.astore 5, 2) := by decide +kernel
theorem d3_41 : decode jdk_42_method_149_code 41 = .ok (.aload_n 0, 1) := by decide +kernel
theorem d3_42 : decode jdk_42_method_149_code 42 = .ok (.aload 5, 2) := by decide +kernel
theorem d3_44 : decode jdk_42_method_149_code 44 = .ok (.iload_n 3, 1) := by decide +kernel
theorem d3_45 : decode jdk_42_method_149_code 45 = .ok (.invokestatic 47, 3) := by decide +kernel
theorem d3_48 : decode jdk_42_method_149_code 48 = .ok (.putfield 15, 3) := by decide +kernel
theorem d3_51 : decode jdk_42_method_149_code 51 = .ok (.aload_n 0, 1) := by decide +kernel
theorem d3_52 : decode jdk_42_method_149_code 52 = .ok (.aload 5, 2) := by decide +kernel
theorem d3_54 : decode jdk_42_method_149_code 54 = .ok (.putfield 9, 3) := by decide +kernel
theorem d3_57 : decode jdk_42_method_149_code 57 = .ok (.return_, 1) := by decide +kernel
theorem pd3 : parseMethodDescriptor "([CIILjava/lang/Void;)V" = some ⟨[(.array .char), .int, .int, (.object "java/lang/Void")], none⟩ := by decide +kernel
theorem pn3 : plainName "java/lang/String" = true := by first | (simp [plainName, overriddenIn]; done) | decide +kernel
theorem d5_0 : decode prog_44_method_2_code 0 = .ok (.lconst 0, 1) := by decide +kernel
theorem d5_1 : decode prog_44_method_2_code 1 = .ok (.lstore_n 2, 1) := by decide +kernel
theorem d5_2 : decode prog_44_method_2_code 2 = .ok (.iconst 0, 1) := by decide +kernel
theorem d5_3 : decode prog_44_method_2_code 3 = .ok (.istore 4, 2) := by decide +kernel
theorem d5_5 : decode prog_44_method_2_code 5 = .ok (.iload 4, 2) := by decide +kernel
theorem d5_7 : decode prog_44_method_2_code 7 = .ok (.aload_n 0, 1) := by decide +kernel
theorem d5_8 : decode prog_44_method_2_code 8 = .ok (.invokevirtual 7, 3) := by decide +kernel
theorem d5_11 : decode prog_44_method_2_code 11 = .ok (.if_icmp .ge 134, 3) := by decide +kernel
theorem d5_14 : decode prog_44_method_2_code 14 = .ok (.aload_n 0, 1) := by decide +kernel
theorem d5_15 : decode prog_44_method_2_code 15 = .ok (.iload 4, 2) := by decide +kernel
theorem d5_17 : decode prog_44_method_2_code 17 = .ok (.invokevirtual 13, 3) := by decide +kernel
theorem d5_20 : decode prog_44_method_2_code 20 = .ok (.istore 5, 2) := by decide +kernel
theorem d5_22 : decode prog_44_method_2_code 22 = .ok (.iconst 1, 1) := by decide +kernel
theorem d5_23 : decode prog_44_method_2_code 23 = .ok (.istore 6, 2) := by decide +kernel
theorem d5_25 : decode prog_44_method_2_code 25 = .ok (.iload 5, 2) := by decide +kernel
theorem d5_27 : decode prog_44_method_2_code 27 = .ok (.sipush 128, 3) := by decide +kernel
theorem d5_30 : decode prog_44_method_2_code 30 = .ok (.if_icmp .ge 10, 3) := by decide +kernel
theorem d5_33 : decode prog_44_method_2_code 33 = .ok (.lload_n 2, 1) := by decide +kernel
theorem d5_34 : decode prog_44_method_2_code 34 = .ok (.lconst 1, 1) := by decide +kernel
theorem d5_35 : decode prog_44_method_2_code 35 = .ok (.ladd, 1) := by decide +kernel
theorem d5_36 : decode prog_44_method_2_code 36 = .ok (.lstore_n 2, 1) := by decide +kernel
theorem d5_37 : decode prog_44_method_2_code 37 = .ok (.goto 98, 3) := by decide +kernel
theorem d5_40 : decode prog_44_method_2_code 40 = .ok (.iload 5, 2) := by decide +kernel
theorem d5_42 : decode prog_44_method_2_code 42 = .ok (.sipush 2048, 3) := by decide +kernel
theorem d5_45 : decode prog_44_method_2_code 45 = .ok (.if_icmp .ge 12, 3) := by decide +kernel
theorem d5_48 : decode prog_44_method_2_code 48 = .ok (.lload_n 2, 1) := by decide +kernel
theorem d5_49 : decode prog_44_method_2_code 49 = .ok (.ldc2_w 17, 3) := by decide +kernel
theorem d5_52 : decode prog_44_method_2_code 52 = .ok (.ladd, 1) := by decide +kernel
theorem d5_53 : decode prog_44_method_2_code 53 = .ok (.lstore_n 2, 1) := by decide +kernel
theorem d5_54 : decode prog_44_method_2_code 54 = .ok (.goto 81, 3) := by decide +kernel
theorem d5_57 : decode prog_44_method_2_code 57 = .ok (.iload 5, 2) := by decide +kernel
theorem d5_59 : decode prog_44_method_2_code 59 = .ok (.invokestatic 19, 3) := by decide +kernel
theorem d5_62 : decode prog_44_method_2_code 62 = .ok (.ifCond .ne 12, 3) := by decide +kernel
theorem d5_65 : decode prog_44_method_2_code 65 = .ok (.lload_n 2, 1) := by decide +kernel
theorem d5_66 : decode prog_44_method_2_code 66 = .ok (.ldc2_w 25, 3) := by decide +kernel
theorem d5_69 : decode prog_44_method_2_code 69 = .ok (.ladd, 1) := by decide +kernel
theorem d5_70 : decode prog_44_method_2_code 70 = .ok (.lstore_n 2, 1) := by decide +kernel
theorem d5_71 : decode prog_44_method_2_code 71 = .ok (.goto 64, 3) := by decide +kernel
theorem d5_74 : decode prog_44_method_2_code 74 = .ok (.iload 5, 2) := by decide +kernel
theorem d5_76 : decode prog_44_method_2_code 76 = .ok (.invokestatic 27, 3) := by decide +kernel
theorem d5_79 : decode prog_44_method_2_code 79 = .ok (.ifCond .eq 40, 3) := by decide +kernel
theorem d5_82 : decode prog_44_method_2_code 82 = .ok (.iload 4, 2) := by decide +kernel
theorem d5_84 : decode prog_44_method_2_code 84 = .ok (.iconst 1, 1) := by decide +kernel
theorem d5_85 : decode prog_44_method_2_code 85 = .ok (.iadd, 1) := by decide +kernel
theorem d5_86 : decode prog_44_method_2_code 86 = .ok (.aload_n 0, 1) := by decide +kernel
theorem d5_87 : decode prog_44_method_2_code 87 = .ok (.invokevirtual 7, 3) := by decide +kernel
theorem d5_90 : decode prog_44_method_2_code 90 = .ok (.if_icmp .ge 29, 3) := by decide +kernel
theorem d5_93 : decode prog_44_method_2_code 93 = .ok (.aload_n 0, 1) := by decide +kernel
theorem d5_94 : decode prog_44_method_2_code 94 = .ok (.iload 4, 2) := by decide +kernel
theorem d5_96 : decode prog_44_method_2_code 96 = .ok (.iconst 1, 1) := by decide +kernel
theorem d5_97 : decode prog_44_method_2_code 97 = .ok (.iadd, 1) := by decide +kernel
theorem d5_98 : decode prog_44_method_2_code 98 = .ok (.invokevirtual 13, 3) := by decide +kernel
theorem d5_101 : decode prog_44_method_2_code 101 = .ok (.invokestatic 30, 3) := by decide +kernel
theorem d5_104 : decode prog_44_method_2_code 104 = .ok (.ifCond .eq 15, 3) := by decide +kernel
theorem d5_107 : decode prog_44_method_2_code 107 = .ok (.lload_n 2, 1) := by decide +kernel
theorem d5_108 : decode prog_44_method_2_code 108 = .ok (.ldc2_w 33, 3) := by decide +kernel
theorem d5_111 : decode prog_44_method_2_code 111 = .ok (.ladd, 1) := by decide +kernel
theorem d5_112 : decode prog_44_method_2_code 112 = .ok (.lstore_n 2, 1) := by decide +kernel
theorem d5_113 : decode prog_44_method_2_code 113 = .ok (.iconst 2, 1) := by decide +kernel
theorem d5_114 : decode prog_44_method_2_code 114 = .ok (.istore 6, 2) := by decide +kernel
theorem d5_116 : decode prog_44_method_2_code 116 = .ok (.goto 19, 3) := by decide +kernel
theorem d5_135 : decode prog_44_method_2_code 135 = .ok (.iload 4, 2) := by decide +kernel
theorem d5_137 : decode prog_44_method_2_code 137 = .ok (.iload 6, 2) := by decide +kernel
theorem d5_139 : decode prog_44_method_2_code 139 = .ok (.iadd, 1) := by decide +kernel
theorem d5_140 : decode prog_44_method_2_code 140 = .ok (.istore 4, 2) := by decide +kernel
theorem d5_142 : decode prog_44_method_2_code 142 = .ok (.goto (-137), 3) := by decide +kernel
theorem d5_145 : decode prog_44_method_2_code 145 = .ok (.lload_n 2, 1) := by decide +kernel
theorem d5_146 : decode prog_44_method_2_code 146 = .ok (.lreturn, 1) := by decide +kernel
theorem pd5 : parseMethodDescriptor "(Ljava/lang/String;Ljava/lang/String;)J" = some ⟨[(.object "java/lang/String"), (.object "java/lang/String")], some .long⟩ := by decide +kernel
theorem pn5 : plainName "com/example/rillet/rillet/transport/Utf8" = true := by first | (simp [plainName, overriddenIn]; done) | decide +kernel
theorem d6_0 : decode jdk_42_method_54_code 0 = .ok (.aload_n 0, 1) := by decide +kernel
theorem d6_1 : decode jdk_42_method_54_code 1 = .ok (.getfield 9, 3) := by decide +kernel
theorem d6_4 : decode jdk_42_method_54_code 4 = .ok (.arraylength, 1) := by decide +kernel
theorem d6_5 : decode jdk_42_method_54_code 5 = .ok (.aload_n 0, 1) := by decide +kernel
theorem d6_6 : decode jdk_42_method_54_code 6 = .ok (.invokevirtual 335, 3) := by decide +kernel
theorem d6_9 : decode jdk_42_method_54_code 9 = .ok (.ishr, 1) := by decide +kernel
theorem d6_10 : decode jdk_42_method_54_code 10 = .ok (.ireturn, 1) := by decide +kernel
theorem pd6 : parseMethodDescriptor "()I" = some ⟨[], some .int⟩ := by decide +kernel
theorem pn6 : plainName "java/lang/String" = true := by first | (simp [plainName, overriddenIn]; done) | decide +kernel
theorem d7_0 : decode jdk_42_method_152_code 0 = .ok (.getstatic 38, 3) := by decide +kernel
theorem d7_3 : decode jdk_42_method_152_code 3 = .ok (.ifCond .eq 10, 3) := by decide +kernel
theorem d7_6 : decode jdk_42_method_152_code 6 = .ok (.aload_n 0, 1) := by decide +kernel
theorem d7_7 : decode jdk_42_method_152_code 7 = .ok (.getfield 15, 3) := by decide +kernel
theorem d7_10 : decode jdk_42_method_152_code 10 = .ok (.goto 4, 3) := by decide +kernel
theorem d7_13 : decode jdk_42_method_152_code 13 = .ok (.iconst 1, 1) := by decide +kernel
theorem d7_14 : decode jdk_42_method_152_code 14 = .ok (.ireturn, 1) := by decide +kernel
theorem pd7 : parseMethodDescriptor "()B" = some ⟨[], some .byte⟩ := by decide +kernel
theorem pn7 : plainName "java/lang/String" = true := by first | (simp [plainName, overriddenIn]; done) | decide +kernel
theorem d8_0 : decode method_4_code 0 = .ok (.iload_n 2, 1) := by decide +kernel
theorem d8_1 : decode method_4_code 1 = .ok (.ldc 29, 2) := by decide +kernel
theorem d8_3 : decode method_4_code 3 = .ok (.iand, 1) := by decide +kernel
theorem d8_4 : decode method_4_code 4 = .ok (.istore_n 3, 1) := by decide +kernel
theorem d8_5 : decode method_4_code 5 = .ok (.iload_n 2, 1) := by decide +kernel
theorem d8_6 : decode method_4_code 6 = .ok (.invokestatic 32, 3) := by decide +kernel
theorem d8_9 : decode method_4_code 9 = .ok (.ifCond .eq 36, 3) := by decide +kernel
theorem d8_12 : decode method_4_code 12 = .ok (.aload_n 0, 1) := by decide +kernel
theorem d8_13 : decode method_4_code 13 = .ok (.iload_n 1, 1) := by decide +kernel
theorem d8_14 : decode method_4_code 14 = .ok (.ldc 30, 2) := by decide +kernel
theorem d8_16 : decode method_4_code 16 = .ok (.iload_n 3, 1) := by decide +kernel
theorem d8_17 : decode method_4_code 17 = .ok (.sipush 1023, 3) := by decide +kernel
theorem d8_20 : decode method_4_code 20 = .ok (.iand, 1) := by decide +kernel
theorem d8_21 : decode method_4_code 21 = .ok (.ior, 1) := by decide +kernel
theorem d8_22 : decode method_4_code 22 = .ok (.i2c, 1) := by decide +kernel
theorem d8_23 : decode method_4_code 23 = .ok (.castore, 1) := by decide +kernel
theorem d8_24 : decode method_4_code 24 = .ok (.aload_n 0, 1) := by decide +kernel
theorem d8_25 : decode method_4_code 25 = .ok (.iload_n 1, 1) := by decide +kernel
theorem d8_26 : decode method_4_code 26 = .ok (.iconst 1, 1) := by decide +kernel
theorem d8_27 : decode method_4_code 27 = .ok (.iadd, 1) := by decide +kernel
theorem d8_28 : decode method_4_code 28 = .ok (.ldc 36, 2) := by decide +kernel
theorem d8_30 : decode method_4_code 30 = .ok (.iload_n 2, 1) := by decide +kernel
theorem d8_31 : decode method_4_code 31 = .ok (.bipush 16, 2) := by decide +kernel
theorem d8_33 : decode method_4_code 33 = .ok (.iushr, 1) := by decide +kernel
theorem d8_34 : decode method_4_code 34 = .ok (.sipush 1023, 3) := by decide +kernel
theorem d8_37 : decode method_4_code 37 = .ok (.iand, 1) := by decide +kernel
theorem d8_38 : decode method_4_code 38 = .ok (.ior, 1) := by decide +kernel
theorem d8_39 : decode method_4_code 39 = .ok (.i2c, 1) := by decide +kernel
theorem d8_40 : decode method_4_code 40 = .ok (.castore, 1) := by decide +kernel
theorem d8_41 : decode method_4_code 41 = .ok (.iload_n 1, 1) := by decide +kernel
theorem d8_42 : decode method_4_code 42 = .ok (.iconst 2, 1) := by decide +kernel
theorem d8_43 : decode method_4_code 43 = .ok (.iadd, 1) := by decide +kernel
theorem d8_44 : decode method_4_code 44 = .ok (.ireturn, 1) := by decide +kernel
theorem d8_45 : decode method_4_code 45 = .ok (.aload_n 0, 1) := by decide +kernel
theorem d8_46 : decode method_4_code 46 = .ok (.iload_n 1, 1) := by decide +kernel
theorem d8_47 : decode method_4_code 47 = .ok (.iload_n 3, 1) := by decide +kernel
theorem d8_48 : decode method_4_code 48 = .ok (.i2c, 1) := by decide +kernel
theorem d8_49 : decode method_4_code 49 = .ok (.castore, 1) := by decide +kernel
theorem d8_50 : decode method_4_code 50 = .ok (.iload_n 1, 1) := by decide +kernel
theorem d8_51 : decode method_4_code 51 = .ok (.iconst 1, 1) := by decide +kernel
theorem d8_52 : decode method_4_code 52 = .ok (.iadd, 1) := by decide +kernel
theorem d8_53 : decode method_4_code 53 = .ok (.ireturn, 1) := by decide +kernel
theorem pd8 : parseMethodDescriptor "([CII)I" = some ⟨[(.array .char), .int, .int], some .int⟩ := by decide +kernel
theorem pn8 : plainName "com/example/rillet/rillet/transport/Utf8LengthPinLaw" = true := by first | (simp [plainName, overriddenIn]; done) | decide +kernel
theorem d9_0 : decode method_3_code 0 = .ok (.iload_n 0, 1) := by decide +kernel
theorem d9_1 : decode method_3_code 1 = .ok (.ldc 29, 2) := by decide +kernel
theorem d9_3 : decode method_3_code 3 = .ok (.iand, 1) := by decide +kernel
theorem d9_4 : decode method_3_code 4 = .ok (.istore_n 1, 1) := by decide +kernel
theorem d9_5 : decode method_3_code 5 = .ok (.iload_n 1, 1) := by decide +kernel
theorem d9_6 : decode method_3_code 6 = .ok (.ldc 30, 2) := by decide +kernel
theorem d9_8 : decode method_3_code 8 = .ok (.if_icmp .lt 13, 3) := by decide +kernel
theorem d9_11 : decode method_3_code 11 = .ok (.iload_n 1, 1) := by decide +kernel
theorem d9_12 : decode method_3_code 12 = .ok (.ldc 31, 2) := by decide +kernel
theorem d9_14 : decode method_3_code 14 = .ok (.if_icmp .gt 7, 3) := by decide +kernel
theorem d9_17 : decode method_3_code 17 = .ok (.iconst 1, 1) := by decide +kernel
theorem d9_18 : decode method_3_code 18 = .ok (.goto 4, 3) := by decide +kernel
theorem d9_21 : decode method_3_code 21 = .ok (.iconst 0, 1) := by decide +kernel
theorem d9_22 : decode method_3_code 22 = .ok (.ireturn, 1) := by decide +kernel
theorem pd9 : parseMethodDescriptor "(I)Z" = some ⟨[.int], some .boolean⟩ := by decide +kernel
theorem pn9 : plainName "com/example/rillet/rillet/transport/Utf8LengthPinLaw" = true := by first | (simp [plainName, overriddenIn]; done) | decide +kernel
theorem d10_0 : decode method_5_code 0 = .ok (.iload_n 0, 1) := by decide +kernel
theorem d10_1 : decode method_5_code 1 = .ok (.ldc 29, 2) := by decide +kernel
theorem d10_3 : decode method_5_code 3 = .ok (.iand, 1) := by decide +kernel
theorem d10_4 : decode method_5_code 4 = .ok (.istore_n 1, 1) := by decide +kernel
theorem d10_5 : decode method_5_code 5 = .ok (.iload_n 0, 1) := by decide +kernel
theorem d10_6 : decode method_5_code 6 = .ok (.invokestatic 32, 3) := by decide +kernel
theorem d10_9 : decode method_5_code 9 = .ok (.ifCond .eq 7, 3) := by decide +kernel
theorem d10_12 : decode method_5_code 12 = .ok (.ldc2_w 37, 3) := by decide +kernel
theorem d10_15 : decode method_5_code 15 = .ok (.lreturn, 1) := by decide +kernel
theorem d10_16 : decode method_5_code 16 = .ok (.iload_n 1, 1) := by decide +kernel
theorem d10_17 : decode method_5_code 17 = .ok (.sipush 128, 3) := by decide +kernel
theorem d10_20 : decode method_5_code 20 = .ok (.if_icmp .ge 5, 3) := by decide +kernel
theorem d10_23 : decode method_5_code 23 = .ok (.lconst 1, 1) := by decide +kernel
theorem d10_24 : decode method_5_code 24 = .ok (.lreturn, 1) := by decide +kernel
theorem d10_25 : decode method_5_code 25 = .ok (.iload_n 1, 1) := by decide +kernel
theorem d10_26 : decode method_5_code 26 = .ok (.sipush 2048, 3) := by decide +kernel
theorem d10_29 : decode method_5_code 29 = .ok (.if_icmp .ge 7, 3) := by decide +kernel
theorem d10_32 : decode method_5_code 32 = .ok (.ldc2_w 39, 3) := by decide +kernel
theorem d10_35 : decode method_5_code 35 = .ok (.lreturn, 1) := by decide +kernel
theorem d10_36 : decode method_5_code 36 = .ok (.ldc2_w 41, 3) := by decide +kernel
theorem d10_39 : decode method_5_code 39 = .ok (.lreturn, 1) := by decide +kernel
theorem pd10 : parseMethodDescriptor "(I)J" = some ⟨[.int], some .long⟩ := by decide +kernel
theorem pn10 : plainName "com/example/rillet/rillet/transport/Utf8LengthPinLaw" = true := by first | (simp [plainName, overriddenIn]; done) | decide +kernel
theorem d11_0 : decode jdk_52_method_16_code 0 = .ok (.iload_n 2, 1) := by decide +kernel
theorem d11_1 : decode jdk_52_method_16_code 1 = .ok (.newarray .byte, 2) := by decide +kernel
theorem d11_3 : decode jdk_52_method_16_code 3 = .ok (.astore_n 3, 1) := by decide +kernel
theorem d11_4 : decode jdk_52_method_16_code 4 = .ok (.aload_n 0, 1) := by decide +kernel
theorem d11_5 : decode jdk_52_method_16_code 5 = .ok (.iload_n 1, 1) := by decide +kernel
theorem d11_6 : decode jdk_52_method_16_code 6 = .ok (.aload_n 3, 1) := by decide +kernel
theorem d11_7 : decode jdk_52_method_16_code 7 = .ok (.iconst 0, 1) := by decide +kernel
theorem d11_8 : decode jdk_52_method_16_code 8 = .ok (.iload_n 2, 1) := by decide +kernel
theorem d11_9 : decode jdk_52_method_16_code 9 = .ok (.invokestatic 115, 3) := by decide +kernel
theorem d11_12 : decode jdk_52_method_16_code 12 = .ok (.istore 4, 2) := by decide +kernel
theorem d11_14 : decode jdk_52_method_16_code 14 = .ok (.iload 4, 2) := by decide +kernel
theorem d11_16 : decode jdk_52_method_16_code 16 = .ok (.iload_n 2, 1) := by decide +kernel
theorem d11_17 : decode jdk_52_method_16_code 17 = .ok (.if_icmp .eq 40, 3) := by decide +kernel
theorem d11_20 : decode jdk_52_method_16_code 20 = .ok (.aload_n 0, 1) := by decide +kernel
theorem d11_21 : decode jdk_52_method_16_code 21 = .ok (.iload_n 1, 1) := by decide +kernel
theorem d11_22 : decode jdk_52_method_16_code 22 = .ok (.iload_n 2, 1) := by decide +kernel
theorem d11_23 : decode jdk_52_method_16_code 23 = .ok (.invokestatic 119, 3) := by decide +kernel
theorem d11_26 : decode jdk_52_method_16_code 26 = .ok (.astore 5, 2) := by decide +kernel
theorem d11_28 : decode jdk_52_method_16_code 28 = .ok (.aload 5, 2) := by decide +kernel
theorem d11_30 : decode jdk_52_method_16_code 30 = .ok (.iload 4, 2) := by decide +kernel
theorem d11_32 : decode jdk_52_method_16_code 32 = .ok (.invokestatic 71, 3) := by decide +kernel
theorem d11_35 : decode jdk_52_method_16_code 35 = .ok (.sipush 255, 3) := by decide +kernel
theorem d11_38 : decode jdk_52_method_16_code 38 = .ok (.if_icmp .gt 16, 3) := by decide +kernel
theorem d11_54 : decode jdk_52_method_16_code 54 = .ok (.aload 5, 2) := by decide +kernel
theorem d11_56 : decode jdk_52_method_16_code 56 = .ok (.areturn, 1) := by decide +kernel
theorem d11_57 : decode jdk_52_method_16_code 57 = .ok (.aload_n 3, 1) := by decide +kernel
theorem d11_58 : decode jdk_52_method_16_code 58 = .ok (.areturn, 1) := by decide +kernel
theorem pd11 : parseMethodDescriptor "([CII)[B" = some ⟨[(.array .char), .int, .int], some (.array .byte)⟩ := by decide +kernel
theorem pn11 : plainName "java/lang/StringUTF16" = true := by first | (simp [plainName, overriddenIn]; done) | decide +kernel
theorem d12_0 : decode jdk_52_method_21_code 0 = .ok (.iconst 0, 1) := by decide +kernel
theorem d12_1 : decode jdk_52_method_21_code 1 = .ok (.istore 5, 2) := by decide +kernel
theorem d12_3 : decode jdk_52_method_21_code 3 = .ok (.iload 5, 2) := by decide +kernel
theorem d12_5 : decode jdk_52_method_21_code 5 = .ok (.iload 4, 2) := by decide +kernel
theorem d12_7 : decode jdk_52_method_21_code 7 = .ok (.if_icmp .ge 37, 3) := by decide +kernel
theorem d12_10 : decode jdk_52_method_21_code 10 = .ok (.aload_n 0, 1) := by decide +kernel
theorem d12_11 : decode jdk_52_method_21_code 11 = .ok (.iload_n 1, 1) := by decide +kernel
theorem d12_12 : decode jdk_52_method_21_code 12 = .ok (.caload, 1) := by decide +kernel
theorem d12_13 : decode jdk_52_method_21_code 13 = .ok (.istore 6, 2) := by decide +kernel
theorem d12_15 : decode jdk_52_method_21_code 15 = .ok (.iload 6, 2) := by decide +kernel
theorem d12_17 : decode jdk_52_method_21_code 17 = .ok (.sipush 255, 3) := by decide +kernel
theorem d12_20 : decode jdk_52_method_21_code 20 = .ok (.if_icmp .le 6, 3) := by decide +kernel
theorem d12_23 : decode jdk_52_method_21_code 23 = .ok (.iload 5, 2) := by decide +kernel
theorem d12_25 : decode jdk_52_method_21_code 25 = .ok (.ireturn, 1) := by decide +kernel
theorem d12_26 : decode jdk_52_method_21_code 26 = .ok (.aload_n 2, 1) := by decide +kernel
theorem d12_27 : decode jdk_52_method_21_code 27 = .ok (.iload_n 3, 1) := by decide +kernel
theorem d12_28 : decode jdk_52_method_21_code 28 = .ok (.iload 6, 2) := by decide +kernel
theorem d12_30 : decode jdk_52_method_21_code 30 = .ok (.i2b, 1) := by decide +kernel
theorem d12_31 : decode jdk_52_method_21_code 31 = .ok (.bastore, 1) := by decide +kernel
theorem d12_32 : decode jdk_52_method_21_code 32 = .ok (.iinc 1 1, 3) := by decide +kernel
theorem d12_35 : decode jdk_52_method_21_code 35 = .ok (.iinc 3 1, 3) := by decide +kernel
theorem d12_38 : decode jdk_52_method_21_code 38 = .ok (.iinc 5 1, 3) := by decide +kernel
theorem d12_41 : decode jdk_52_method_21_code 41 = .ok (.goto (-38), 3) := by decide +kernel
theorem d12_44 : decode jdk_52_method_21_code 44 = .ok (.iload 4, 2) := by decide +kernel
theorem d12_46 : decode jdk_52_method_21_code 46 = .ok (.ireturn, 1) := by decide +kernel
theorem pd12 : parseMethodDescriptor "([CI[BII)I" = some ⟨[(.array .char), .int, (.array .byte), .int, .int], some .int⟩ := by decide +kernel
theorem pn12 : plainName "java/lang/StringUTF16" = true := by first | (simp [plainName, overriddenIn]; done) | decide +kernel
theorem d13_0 : decode jdk_52_method_15_code 0 = .ok (.iload_n 1, 1) := by decide +kernel
theorem d13_1 : decode jdk_52_method_15_code 1 = .ok (.aload_n 0, 1) := by decide +kernel
theorem d13_2 : decode jdk_52_method_15_code 2 = .ok (.arraylength, 1) := by decide +kernel
theorem d13_3 : decode jdk_52_method_15_code 3 = .ok (.isub, 1) := by decide +kernel
theorem d13_4 : decode jdk_52_method_15_code 4 = .ok (.bipush 31, 2) := by decide +kernel
theorem d13_6 : decode jdk_52_method_15_code 6 = .ok (.iushr, 1) := by decide +kernel
theorem d13_7 : decode jdk_52_method_15_code 7 = .ok (.i2b, 1) := by decide +kernel
theorem d13_8 : decode jdk_52_method_15_code 8 = .ok (.ireturn, 1) := by decide +kernel
theorem pd13 : parseMethodDescriptor "([BI)B" = some ⟨[(.array .byte), .int], some .byte⟩ := by decide +kernel
theorem pn13 : plainName "java/lang/StringUTF16" = true := by first | (simp [plainName, overriddenIn]; done) | decide +kernel
theorem d14_0 : decode jdk_42_method_56_code 0 = .ok (.aload_n 0, 1) := by decide +kernel
theorem d14_1 : decode jdk_42_method_56_code 1 = .ok (.invokevirtual 492, 3) := by decide +kernel
theorem d14_4 : decode jdk_42_method_56_code 4 = .ok (.ifCond .eq 12, 3) := by decide +kernel
theorem d14_7 : decode jdk_42_method_56_code 7 = .ok (.aload_n 0, 1) := by decide +kernel
theorem d14_8 : decode jdk_42_method_56_code 8 = .ok (.getfield 9, 3) := by decide +kernel
theorem d14_11 : decode jdk_42_method_56_code 11 = .ok (.iload_n 1, 1) := by decide +kernel
theorem d14_12 : decode jdk_42_method_56_code 12 = .ok (.invokestatic 495, 3) := by decide +kernel
theorem d14_15 : decode jdk_42_method_56_code 15 = .ok (.ireturn, 1) := by decide +kernel
theorem d14_16 : decode jdk_42_method_56_code 16 = .ok (.aload_n 0, 1) := by decide +kernel
theorem d14_17 : decode jdk_42_method_56_code 17 = .ok (.getfield 9, 3) := by decide +kernel
theorem d14_20 : decode jdk_42_method_56_code 20 = .ok (.iload_n 1, 1) := by decide +kernel
theorem d14_21 : decode jdk_42_method_56_code 21 = .ok (.invokestatic 498, 3) := by decide +kernel
theorem d14_24 : decode jdk_42_method_56_code 24 = .ok (.ireturn, 1) := by decide +kernel
theorem pd14 : parseMethodDescriptor "(I)C" = some ⟨[.int], some .char⟩ := by decide +kernel
theorem pn14 : plainName "java/lang/String" = true := by first | (simp [plainName, overriddenIn]; done) | decide +kernel
theorem d15_0 : decode jdk_42_method_154_code 0 = .ok (.getstatic 38, 3) := by decide +kernel
theorem d15_3 : decode jdk_42_method_154_code 3 = .ok (.ifCond .eq 14, 3) := by decide +kernel
theorem d15_6 : decode jdk_42_method_154_code 6 = .ok (.aload_n 0, 1) := by decide +kernel
theorem d15_7 : decode jdk_42_method_154_code 7 = .ok (.getfield 15, 3) := by decide +kernel
theorem d15_10 : decode jdk_42_method_154_code 10 = .ok (.ifCond .ne 7, 3) := by decide +kernel
theorem d15_13 : decode jdk_42_method_154_code 13 = .ok (.iconst 1, 1) := by decide +kernel
theorem d15_14 : decode jdk_42_method_154_code 14 = .ok (.goto 4, 3) := by decide +kernel
theorem d15_17 : decode jdk_42_method_154_code 17 = .ok (.iconst 0, 1) := by decide +kernel
theorem d15_18 : decode jdk_42_method_154_code 18 = .ok (.ireturn, 1) := by decide +kernel
theorem pd15 : parseMethodDescriptor "()Z" = some ⟨[], some .boolean⟩ := by decide +kernel
theorem pn15 : plainName "java/lang/String" = true := by first | (simp [plainName, overriddenIn]; done) | decide +kernel
theorem d16_0 : decode jdk_43_method_2_code 0 = .ok (.iload_n 1, 1) := by decide +kernel
theorem d16_1 : decode jdk_43_method_2_code 1 = .ok (.aload_n 0, 1) := by decide +kernel
theorem d16_2 : decode jdk_43_method_2_code 2 = .ok (.arraylength, 1) := by decide +kernel
theorem d16_3 : decode jdk_43_method_2_code 3 = .ok (.invokestatic 9, 3) := by decide +kernel
theorem d16_6 : decode jdk_43_method_2_code 6 = .ok (.aload_n 0, 1) := by decide +kernel
theorem d16_7 : decode jdk_43_method_2_code 7 = .ok (.iload_n 1, 1) := by decide +kernel
theorem d16_8 : decode jdk_43_method_2_code 8 = .ok (.baload, 1) := by decide +kernel
theorem d16_9 : decode jdk_43_method_2_code 9 = .ok (.sipush 255, 3) := by decide +kernel
theorem d16_12 : decode jdk_43_method_2_code 12 = .ok (.iand, 1) := by decide +kernel
theorem d16_13 : decode jdk_43_method_2_code 13 = .ok (.i2c, 1) := by decide +kernel
theorem d16_14 : decode jdk_43_method_2_code 14 = .ok (.ireturn, 1) := by decide +kernel
theorem pd16 : parseMethodDescriptor "([BI)C" = some ⟨[(.array .byte), .int], some .char⟩ := by decide +kernel
theorem pn16 : plainName "java/lang/StringLatin1" = true := by first | (simp [plainName, overriddenIn]; done) | decide +kernel
theorem d17_0 : decode jdk_42_method_155_code 0 = .ok (.iload_n 0, 1) := by decide +kernel
theorem d17_1 : decode jdk_42_method_155_code 1 = .ok (.iload_n 1, 1) := by decide +kernel
theorem d17_2 : decode jdk_42_method_155_code 2 = .ok (.getstatic 1053, 3) := by decide +kernel
theorem d17_5 : decode jdk_42_method_155_code 5 = .ok (.invokestatic 1059, 3) := by decide +kernel
theorem d17_8 : decode jdk_42_method_155_code 8 = .ok (.pop, 1) := by decide +kernel
theorem d17_9 : decode jdk_42_method_155_code 9 = .ok (.return_, 1) := by decide +kernel
theorem pd17 : parseMethodDescriptor "(II)V" = some ⟨[.int, .int], none⟩ := by decide +kernel
theorem pn17 : plainName "java/lang/String" = true := by first | (simp [plainName, overriddenIn]; done) | decide +kernel
theorem d18_0 : decode jdk_41_method_11_code 0 = .ok (.iload_n 0, 1) := by decide +kernel
theorem d18_1 : decode jdk_41_method_11_code 1 = .ok (.ifCond .lt 8, 3) := by decide +kernel
theorem d18_4 : decode jdk_41_method_11_code 4 = .ok (.iload_n 0, 1) := by decide +kernel
theorem d18_5 : decode jdk_41_method_11_code 5 = .ok (.iload_n 1, 1) := by decide +kernel
theorem d18_6 : decode jdk_41_method_11_code 6 = .ok (.if_icmp .lt 10, 3) := by decide +kernel
theorem d18_16 : decode jdk_41_method_11_code 16 = .ok (.iload_n 0, 1) := by decide +kernel
theorem d18_17 : decode jdk_41_method_11_code 17 = .ok (.ireturn, 1) := by decide +kernel
theorem pd18 : parseMethodDescriptor "(IILjava/util/function/BiFunction;)I" = some ⟨[.int, .int, (.object "java/util/function/BiFunction")], some .int⟩ := by decide +kernel
theorem pn18 : plainName "jdk/internal/util/Preconditions" = true := by first | (simp [plainName, overriddenIn]; done) | decide +kernel
theorem d19_0 : decode jdk_52_method_14_code 0 = .ok (.iload_n 2, 1) := by decide +kernel
theorem d19_1 : decode jdk_52_method_14_code 1 = .ok (.invokestatic 107, 3) := by decide +kernel
theorem d19_4 : decode jdk_52_method_14_code 4 = .ok (.astore_n 3, 1) := by decide +kernel
theorem d19_5 : decode jdk_52_method_14_code 5 = .ok (.iconst 0, 1) := by decide +kernel
theorem d19_6 : decode jdk_52_method_14_code 6 = .ok (.istore 4, 2) := by decide +kernel
theorem d19_8 : decode jdk_52_method_14_code 8 = .ok (.iload 4, 2) := by decide +kernel
theorem d19_10 : decode jdk_52_method_14_code 10 = .ok (.iload_n 2, 1) := by decide +kernel
theorem d19_11 : decode jdk_52_method_14_code 11 = .ok (.if_icmp .ge 21, 3) := by decide +kernel
theorem d19_14 : decode jdk_52_method_14_code 14 = .ok (.aload_n 3, 1) := by decide +kernel
theorem d19_15 : decode jdk_52_method_14_code 15 = .ok (.iload 4, 2) := by decide +kernel
theorem d19_17 : decode jdk_52_method_14_code 17 = .ok (.aload_n 0, 1) := by decide +kernel
theorem d19_18 : decode jdk_52_method_14_code 18 = .ok (.iload_n 1, 1) := by decide +kernel
theorem d19_19 : decode jdk_52_method_14_code 19 = .ok (.caload, 1) := by decide +kernel
theorem d19_20 : decode jdk_52_method_14_code 20 = .ok (.invokestatic 111, 3) := by decide +kernel
theorem d19_23 : decode jdk_52_method_14_code 23 = .ok (.iinc 1 1, 3) := by decide +kernel
theorem d19_26 : decode jdk_52_method_14_code 26 = .ok (.iinc 4 1, 3) := by decide +kernel
theorem d19_29 : decode jdk_52_method_14_code 29 = .ok (.goto (-21), 3) := by decide +kernel
theorem d19_32 : decode jdk_52_method_14_code 32 = .ok (.aload_n 3, 1) := by decide +kernel
theorem d19_33 : decode jdk_52_method_14_code 33 = .ok (.areturn, 1) := by decide +kernel
theorem pd19 : parseMethodDescriptor "([CII)[B" = some ⟨[(.array .char), .int, .int], some (.array .byte)⟩ := by decide +kernel
theorem pn19 : plainName "java/lang/StringUTF16" = true := by first | (simp [plainName, overriddenIn]; done) | decide +kernel
theorem d20_0 : decode jdk_52_method_2_code 0 = .ok (.iload_n 0, 1) := by decide +kernel
theorem d20_1 : decode jdk_52_method_2_code 1 = .ok (.invokestatic 11, 3) := by decide +kernel
theorem d20_4 : decode jdk_52_method_2_code 4 = .ok (.newarray .byte, 2) := by decide +kernel
theorem d20_6 : decode jdk_52_method_2_code 6 = .ok (.areturn, 1) := by decide +kernel
theorem pd20 : parseMethodDescriptor "(I)[B" = some ⟨[.int], some (.array .byte)⟩ := by decide +kernel
theorem pn20 : plainName "java/lang/StringUTF16" = true := by first | (simp [plainName, overriddenIn]; done) | decide +kernel
theorem d21_0 : decode jdk_52_method_3_code 0 = .ok (.iload_n 0, 1) := by decide +kernel
theorem d21_1 : decode jdk_52_method_3_code 1 = .ok (.ifCond .ge 11, 3) := by decide +kernel
theorem d21_12 : decode jdk_52_method_3_code 12 = .ok (.iload_n 0, 1) := by decide +kernel
theorem d21_13 : decode jdk_52_method_3_code 13 = .ok (.ldc 20, 2) := by decide +kernel
theorem d21_15 : decode jdk_52_method_3_code 15 = .ok (.if_icmp .lt 40, 3) := by decide +kernel
theorem d21_55 : decode jdk_52_method_3_code 55 = .ok (.iload_n 0, 1) := by decide +kernel
theorem d21_56 : decode jdk_52_method_3_code 56 = .ok (.iconst 1, 1) := by decide +kernel
theorem d21_57 : decode jdk_52_method_3_code 57 = .ok (.ishl, 1) := by decide +kernel
theorem d21_58 : decode jdk_52_method_3_code 58 = .ok (.ireturn, 1) := by decide +kernel
theorem pd21 : parseMethodDescriptor "(I)I" = some ⟨[.int], some .int⟩ := by decide +kernel
theorem pn21 : plainName "java/lang/StringUTF16" = true := by first | (simp [plainName, overriddenIn]; done) | decide +kernel
theorem d22_0 : decode jdk_52_method_4_code 0 = .ok (.getstatic 44, 3) := by decide +kernel
theorem d22_3 : decode jdk_52_method_4_code 3 = .ok (.ifCond .ne 25, 3) := by decide +kernel
theorem d22_28 : decode jdk_52_method_4_code 28 = .ok (.iload_n 1, 1) := by decide +kernel
theorem d22_29 : decode jdk_52_method_4_code 29 = .ok (.iconst 1, 1) := by decide +kernel
theorem d22_30 : decode jdk_52_method_4_code 30 = .ok (.ishl, 1) := by decide +kernel
theorem d22_31 : decode jdk_52_method_4_code 31 = .ok (.istore_n 1, 1) := by decide +kernel
theorem d22_32 : decode jdk_52_method_4_code 32 = .ok (.aload_n 0, 1) := by decide +kernel
theorem d22_33 : decode jdk_52_method_4_code 33 = .ok (.iload_n 1, 1) := by decide +kernel
theorem d22_34 : decode jdk_52_method_4_code 34 = .ok (.iinc 1 1, 3) := by decide +kernel
theorem d22_37 : decode jdk_52_method_4_code 37 = .ok (.iload_n 2, 1) := by decide +kernel
theorem d22_38 : decode jdk_52_method_4_code 38 = .ok (.getstatic 59, 3) := by decide +kernel
theorem d22_41 : decode jdk_52_method_4_code 41 = .ok (.ishr, 1) := by decide +kernel
theorem d22_42 : decode jdk_52_method_4_code 42 = .ok (.i2b, 1) := by decide +kernel
theorem d22_43 : decode jdk_52_method_4_code 43 = .ok (.bastore, 1) := by decide +kernel
theorem d22_44 : decode jdk_52_method_4_code 44 = .ok (.aload_n 0, 1) := by decide +kernel
theorem d22_45 : decode jdk_52_method_4_code 45 = .ok (.iload_n 1, 1) := by decide +kernel
theorem d22_46 : decode jdk_52_method_4_code 46 = .ok (.iload_n 2, 1) := by decide +kernel
theorem d22_47 : decode jdk_52_method_4_code 47 = .ok (.getstatic 63, 3) := by decide +kernel
theorem d22_50 : decode jdk_52_method_4_code 50 = .ok (.ishr, 1) := by decide +kernel
theorem d22_51 : decode jdk_52_method_4_code 51 = .ok (.i2b, 1) := by decide +kernel
theorem d22_52 : decode jdk_52_method_4_code 52 = .ok (.bastore, 1) := by decide +kernel
theorem d22_53 : decode jdk_52_method_4_code 53 = .ok (.return_, 1) := by decide +kernel
theorem pd22 : parseMethodDescriptor "([BII)V" = some ⟨[(.array .byte), .int, .int], none⟩ := by decide +kernel
theorem pn22 : plainName "java/lang/StringUTF16" = true := by first | (simp [plainName, overriddenIn]; done) | decide +kernel
theorem d23_0 : decode jdk_52_method_5_code 0 = .ok (.getstatic 44, 3) := by decide +kernel
theorem d23_3 : decode jdk_52_method_5_code 3 = .ok (.ifCond .ne 25, 3) := by decide +kernel
theorem d23_28 : decode jdk_52_method_5_code 28 = .ok (.iload_n 1, 1) := by decide +kernel
theorem d23_29 : decode jdk_52_method_5_code 29 = .ok (.iconst 1, 1) := by decide +kernel
theorem d23_30 : decode jdk_52_method_5_code 30 = .ok (.ishl, 1) := by decide +kernel
theorem d23_31 : decode jdk_52_method_5_code 31 = .ok (.istore_n 1, 1) := by decide +kernel
theorem d23_32 : decode jdk_52_method_5_code 32 = .ok (.aload_n 0, 1) := by decide +kernel
theorem d23_33 : decode jdk_52_method_5_code 33 = .ok (.iload_n 1, 1) := by decide +kernel
theorem d23_34 : decode jdk_52_method_5_code 34 = .ok (.iinc 1 1, 3) := by decide +kernel
theorem d23_37 : decode jdk_52_method_5_code 37 = .ok (.baload, 1) := by decide +kernel
theorem d23_38 : decode jdk_52_method_5_code 38 = .ok (.sipush 255, 3) := by decide +kernel
theorem d23_41 : decode jdk_52_method_5_code 41 = .ok (.iand, 1) := by decide +kernel
theorem d23_42 : decode jdk_52_method_5_code 42 = .ok (.getstatic 59, 3) := by decide +kernel
theorem d23_45 : decode jdk_52_method_5_code 45 = .ok (.ishl, 1) := by decide +kernel
theorem d23_46 : decode jdk_52_method_5_code 46 = .ok (.aload_n 0, 1) := by decide +kernel
theorem d23_47 : decode jdk_52_method_5_code 47 = .ok (.iload_n 1, 1) := by decide +kernel
theorem d23_48 : decode jdk_52_method_5_code 48 = .ok (.baload, 1) := by decide +kernel
theorem d23_49 : decode jdk_52_method_5_code 49 = .ok (.sipush 255, 3) := by decide +kernel
theorem d23_52 : decode jdk_52_method_5_code 52 = .ok (.iand, 1) := by decide +kernel
theorem d23_53 : decode jdk_52_method_5_code 53 = .ok (.getstatic 63, 3) := by decide +kernel
theorem d23_56 : decode jdk_52_method_5_code 56 = .ok (.ishl, 1) := by decide +kernel
theorem d23_57 : decode jdk_52_method_5_code 57 = .ok (.ior, 1) := by decide +kernel
theorem d23_58 : decode jdk_52_method_5_code 58 = .ok (.i2c, 1) := by decide +kernel
theorem d23_59 : decode jdk_52_method_5_code 59 = .ok (.ireturn, 1) := by decide +kernel
theorem pd23 : parseMethodDescriptor "([BI)C" = some ⟨[(.array .byte), .int], some .char⟩ := by decide +kernel
theorem pn23 : plainName "java/lang/StringUTF16" = true := by first | (simp [plainName, overriddenIn]; done) | decide +kernel
theorem d24_0 : decode jdk_52_method_83_code 0 = .ok (.iload_n 1, 1) := by decide +kernel
theorem d24_1 : decode jdk_52_method_83_code 1 = .ok (.aload_n 0, 1) := by decide +kernel
theorem d24_2 : decode jdk_52_method_83_code 2 = .ok (.invokestatic 67, 3) := by decide +kernel
theorem d24_5 : decode jdk_52_method_83_code 5 = .ok (.aload_n 0, 1) := by decide +kernel
theorem d24_6 : decode jdk_52_method_83_code 6 = .ok (.iload_n 1, 1) := by decide +kernel
theorem d24_7 : decode jdk_52_method_83_code 7 = .ok (.invokestatic 71, 3) := by decide +kernel
theorem d24_10 : decode jdk_52_method_83_code 10 = .ok (.ireturn, 1) := by decide +kernel
theorem pd24 : parseMethodDescriptor "([BI)C" = some ⟨[(.array .byte), .int], some .char⟩ := by decide +kernel
theorem pn24 : plainName "java/lang/StringUTF16" = true := by first | (simp [plainName, overriddenIn]; done) | decide +kernel
theorem d25_0 : decode jdk_52_method_91_code 0 = .ok (.iload_n 0, 1) := by decide +kernel
theorem d25_1 : decode jdk_52_method_91_code 1 = .ok (.aload_n 1, 1) := by decide +kernel
theorem d25_2 : decode jdk_52_method_91_code 2 = .ok (.invokestatic 48, 3) := by decide +kernel
theorem d25_5 : decode jdk_52_method_91_code 5 = .ok (.invokestatic 414, 3) := by decide +kernel
theorem d25_8 : decode jdk_52_method_91_code 8 = .ok (.return_, 1) := by decide +kernel
theorem pd25 : parseMethodDescriptor "(I[B)V" = some ⟨[.int, (.array .byte)], none⟩ := by decide +kernel
theorem pn25 : plainName "java/lang/StringUTF16" = true := by first | (simp [plainName, overriddenIn]; done) | decide +kernel
theorem d26_0 : decode jdk_52_method_6_code 0 = .ok (.aload_n 0, 1) := by decide +kernel
theorem d26_1 : decode jdk_52_method_6_code 1 = .ok (.arraylength, 1) := by decide +kernel
theorem d26_2 : decode jdk_52_method_6_code 2 = .ok (.iconst 1, 1) := by decide +kernel
theorem d26_3 : decode jdk_52_method_6_code 3 = .ok (.ishr, 1) := by decide +kernel
theorem d26_4 : decode jdk_52_method_6_code 4 = .ok (.ireturn, 1) := by decide +kernel
theorem pd26 : parseMethodDescriptor "([B)I" = some ⟨[(.array .byte)], some .int⟩ := by decide +kernel
theorem pn26 : plainName "java/lang/StringUTF16" = true := by first | (simp [plainName, overriddenIn]; done) | decide +kernel
theorem d27_0 : decode jdk_89_method_16_code 0 = .ok (.iload_n 0, 1) := by decide +kernel
theorem d27_1 : decode jdk_89_method_16_code 1 = .ok (.ldc 75, 2) := by decide +kernel
theorem d27_3 : decode jdk_89_method_16_code 3 = .ok (.if_icmp .lt 13, 3) := by decide +kernel
theorem d27_6 : decode jdk_89_method_16_code 6 = .ok (.iload_n 0, 1) := by decide +kernel
theorem d27_7 : decode jdk_89_method_16_code 7 = .ok (.ldc 77, 2) := by decide +kernel
theorem d27_9 : decode jdk_89_method_16_code 9 = .ok (.if_icmp .ge 7, 3) := by decide +kernel
theorem d27_12 : decode jdk_89_method_16_code 12 = .ok (.iconst 1, 1) := by decide +kernel
theorem d27_13 : decode jdk_89_method_16_code 13 = .ok (.goto 4, 3) := by decide +kernel
theorem d27_16 : decode jdk_89_method_16_code 16 = .ok (.iconst 0, 1) := by decide +kernel
theorem d27_17 : decode jdk_89_method_16_code 17 = .ok (.ireturn, 1) := by decide +kernel
theorem pd27 : parseMethodDescriptor "(C)Z" = some ⟨[.char], some .boolean⟩ := by decide +kernel
theorem pn27 : plainName "java/lang/Character" = true := by first | (simp [plainName, overriddenIn]; done) | decide +kernel
theorem d28_0 : decode jdk_89_method_14_code 0 = .ok (.iload_n 0, 1) := by decide +kernel
theorem d28_1 : decode jdk_89_method_14_code 1 = .ok (.ldc 75, 2) := by decide +kernel
theorem d28_3 : decode jdk_89_method_14_code 3 = .ok (.if_icmp .lt 13, 3) := by decide +kernel
theorem d28_6 : decode jdk_89_method_14_code 6 = .ok (.iload_n 0, 1) := by decide +kernel
theorem d28_7 : decode jdk_89_method_14_code 7 = .ok (.ldc 76, 2) := by decide +kernel
theorem d28_9 : decode jdk_89_method_14_code 9 = .ok (.if_icmp .ge 7, 3) := by decide +kernel
theorem d28_12 : decode jdk_89_method_14_code 12 = .ok (.iconst 1, 1) := by decide +kernel
theorem d28_13 : decode jdk_89_method_14_code 13 = .ok (.goto 4, 3) := by decide +kernel
theorem d28_16 : decode jdk_89_method_14_code 16 = .ok (.iconst 0, 1) := by decide +kernel
theorem d28_17 : decode jdk_89_method_14_code 17 = .ok (.ireturn, 1) := by decide +kernel
theorem pd28 : parseMethodDescriptor "(C)Z" = some ⟨[.char], some .boolean⟩ := by decide +kernel
theorem pn28 : plainName "java/lang/Character" = true := by first | (simp [plainName, overriddenIn]; done) | decide +kernel
theorem d29_0 : decode jdk_89_method_15_code 0 = .ok (.iload_n 0, 1) := by decide +kernel
theorem d29_1 : decode jdk_89_method_15_code 1 = .ok (.ldc 76, 2) := by decide +kernel
theorem d29_3 : decode jdk_89_method_15_code 3 = .ok (.if_icmp .lt 13, 3) := by decide +kernel
theorem d29_6 : decode jdk_89_method_15_code 6 = .ok (.iload_n 0, 1) := by decide +kernel
theorem d29_7 : decode jdk_89_method_15_code 7 = .ok (.ldc 77, 2) := by decide +kernel
theorem d29_9 : decode jdk_89_method_15_code 9 = .ok (.if_icmp .ge 7, 3) := by decide +kernel
theorem d29_12 : decode jdk_89_method_15_code 12 = .ok (.iconst 1, 1) := by decide +kernel
theorem d29_13 : decode jdk_89_method_15_code 13 = .ok (.goto 4, 3) := by decide +kernel
theorem d29_16 : decode jdk_89_method_15_code 16 = .ok (.iconst 0, 1) := by decide +kernel
theorem d29_17 : decode jdk_89_method_15_code 17 = .ok (.ireturn, 1) := by decide +kernel
theorem pd29 : parseMethodDescriptor "(C)Z" = some ⟨[.char], some .boolean⟩ := by decide +kernel
theorem pn29 : plainName "java/lang/Character" = true := by first | (simp [plainName, overriddenIn]; done) | decide +kernel
theorem pnL : plainName "com/example/rillet/rillet/transport/Utf8LengthPinLaw" = true := by first | (simp [plainName, overriddenIn]; done) | decide +kernel
def bb (u : Int32) : Int32 := nar .byte (u.toInt8.toInt32)
def lob (u : Int32) : Int32 := nar .byte (u >>> ((0 : Int32) &&& 31)).toInt8.toInt32
def hib (u : Int32) : Int32 := nar .byte (u >>> ((8 : Int32) &&& 31)).toInt8.toInt32
def bl (us : List Int32) : List Value := us.map fun u => .int (bb u)
def wl (us : List Int32) : List Value := us.flatMap fun u => [.int (lob u), .int (hib u)]
def cl (us : List Int32) : List Value := us.map .int
def Ch (us : List Int32) : Prop := ∀ u ∈ us, 0 ≤ u.toInt ∧ u.toInt ≤ 65535
theorem bb_and (u : Int32) (h0 : 0 ≤ u.toInt) (h1 : u.toInt ≤ 255) : bb u &&& (255 : Int32) = u := by
  apply Int32.toInt_inj.mp
  rw [c_mask _ (255 : Int32) 8 (by decide) (by decide)]
  have e : (bb u).toInt = (u.toInt8.toInt32.toInt8.toInt32).toInt := rfl
  have h2 := c_i2b u
  have h3 := c_i2b u.toInt8.toInt32
  rw [e]; omega
theorem getc (u : Int32) (h0 : 0 ≤ u.toInt) (h1 : u.toInt ≤ 65535) : (((lob u &&& (255 : Int32)) <<< ((0 : Int32) &&& 31)) ||| ((hib u &&& (255 : Int32)) <<< ((8 : Int32) &&& 31))).toUInt32.toUInt16.toUInt32.toInt32 = u := by
  apply Int32.toInt_inj.mp
  have a1 := c_ishr u (0 : Int32) 0 (by decide)
  have a2 := c_ishr u (8 : Int32) 8 (by decide)
  have b1 := c_i2b (u >>> ((0 : Int32) &&& 31))
  have b2 := c_i2b (u >>> ((0 : Int32) &&& 31)).toInt8.toInt32
  have b3 := c_i2b (u >>> ((8 : Int32) &&& 31))
  have b4 := c_i2b (u >>> ((8 : Int32) &&& 31)).toInt8.toInt32
  have e1 : (lob u).toInt = ((u >>> ((0 : Int32) &&& 31)).toInt8.toInt32.toInt8.toInt32).toInt := rfl
  have e2 : (hib u).toInt = ((u >>> ((8 : Int32) &&& 31)).toInt8.toInt32.toInt8.toInt32).toInt := rfl
  have m1 := c_mask (lob u) (255 : Int32) 8 (by decide) (by decide)
  have m2 := c_mask (hib u) (255 : Int32) 8 (by decide) (by decide)
  have f1 : (lob u &&& (255 : Int32)).toInt = u.toInt % 256 := by omega
  have f2 : (hib u &&& (255 : Int32)).toInt = u.toInt / 256 := by omega
  clear a1 a2 b1 b2 b3 b4 e1 e2 m1 m2
  generalize lob u &&& (255 : Int32) = x at f1 ⊢
  generalize hib u &&& (255 : Int32) = y at f2 ⊢
  have s1 := c_ishl x (0 : Int32) 0 (by decide)
  have s2 := c_ishl y (8 : Int32) 8 (by decide)
  have g1 := (x <<< ((0 : Int32) &&& 31)).toInt_lt
  have g2 := (x <<< ((0 : Int32) &&& 31)).le_toInt
  have g3 := (y <<< ((8 : Int32) &&& 31)).toInt_lt
  have g4 := (y <<< ((8 : Int32) &&& 31)).le_toInt
  generalize x <<< ((0 : Int32) &&& 31) = x' at s1 g1 g2 ⊢
  generalize y <<< ((8 : Int32) &&& 31) = y' at s2 g3 g4 ⊢
  have q1 : x'.toInt = u.toInt % 256 := by omega
  have q2 : y'.toInt = u.toInt / 256 * 256 := by omega
  have o := c_or' x' y' 8 (by decide) 256 (by decide) (by omega) (by omega) (by omega)
  have c := c_i2c (x' ||| y')
  omega
theorem bl_at {us pre rem : List Int32} {u : Int32} {i : Int32} (hus : us = pre ++ u :: rem) (hi : i.toInt = (pre.length : Int)) : (bl us).getD i.toNatClampNeg (.int 0) = .int (bb u) := by
  have : i.toNatClampNeg = pre.length := by show i.toInt.toNat = _; omega
  rw [this, hus]; simp [bl, List.getD]
theorem cl_at {us pre rem : List Int32} {u : Int32} {i : Int32} (hus : us = pre ++ u :: rem) (hi : i.toInt = (pre.length : Int)) : (cl us).getD i.toNatClampNeg (.int 0) = .int u := by
  have : i.toNatClampNeg = pre.length := by show i.toInt.toNat = _; omega
  rw [this, hus]; simp [cl, List.getD]
theorem wl_len (us : List Int32) : (wl us).length = 2 * us.length := by
  induction us with
  | nil => rfl
  | cons u us ih => simp only [wl, List.flatMap_cons, List.length_append, List.length_cons, List.length_nil] at ih ⊢; omega
theorem wl_app (us vs : List Int32) : wl (us ++ vs) = wl us ++ wl vs := by simp [wl]
theorem wl_lo {us pre rem : List Int32} {u : Int32} {i : Int32} (hus : us = pre ++ u :: rem) (hi : i.toInt = 2 * (pre.length : Int)) : (wl us).getD i.toNatClampNeg (.int 0) = .int (lob u) := by
  have : i.toNatClampNeg = (wl pre).length := by show i.toInt.toNat = _; rw [wl_len]; omega
  rw [this, hus, wl_app]; simp [List.getD, wl]
theorem wl_hi {us pre rem : List Int32} {u : Int32} {i : Int32} (hus : us = pre ++ u :: rem) (hi : i.toInt = 2 * (pre.length : Int) + 1) : (wl us).getD i.toNatClampNeg (.int 0) = .int (hib u) := by
  have : i.toNatClampNeg = (wl pre).length + 1 := by show i.toInt.toNat = _; rw [wl_len]; omega
  rw [this, hus, wl_app]; simp [List.getD, wl]
theorem bl_set {pre rem : List Int32} {u : Int32} {i : Nat} (hi : i = pre.length) : (bl pre ++ List.replicate (rem.length + 1) (Value.int 0)).set i (.int (bb u)) = bl (pre ++ [u]) ++ List.replicate rem.length (.int 0) := by
  subst hi
  rw [List.replicate_succ, show pre.length = (bl pre).length from by simp [bl], List.set_append_right _ _ (Nat.le_refl _)]
  simp [bl]
theorem wl_set {pre rem : List Int32} {u : Int32} {i j : Nat} (hi : i = 2 * pre.length) (hj : j = 2 * pre.length + 1) : ((wl pre ++ List.replicate (2 * (rem.length + 1)) (Value.int 0)).set i (.int (lob u))).set j (.int (hib u)) = wl (pre ++ [u]) ++ List.replicate (2 * rem.length) (.int 0) := by
  subst hi hj
  rw [show 2 * (rem.length + 1) = 2 * rem.length + 1 + 1 from by omega, List.replicate_succ, List.replicate_succ, ← wl_len pre, List.set_append_right _ _ (Nat.le_refl _), List.set_append_right _ _ (Nat.le_succ _), wl_app]
  simp [wl]
theorem dbl_t (z : Int32) (h1 : 0 ≤ z.toInt) (h2 : z.toInt < 1073741824) : (z <<< ((1 : Int32) &&& 31)).toInt = 2 * z.toInt := by
  have s1 := c_ishl z (1 : Int32) 1 (by decide)
  have g1 := (z <<< ((1 : Int32) &&& 31)).toInt_lt
  have g2 := (z <<< ((1 : Int32) &&& 31)).le_toInt
  omega
theorem i2cE (u : Int32) (h0 : 0 ≤ u.toInt) (h1 : u.toInt ≤ 65535) : u.toUInt32.toUInt16.toUInt32.toInt32 = u := by
  apply Int32.toInt_inj.mp
  have := c_i2c u
  omega
theorem narC (u : Int32) (h0 : 0 ≤ u.toInt) (h1 : u.toInt ≤ 65535) : narrow .char (.int u) = .int u := by
  show Value.int u.toUInt32.toUInt16.toUInt32.toInt32 = _
  rw [i2cE u h0 h1]
theorem cfa1 (z z' : Int32) (h0 : 0 ≤ z.toInt) (h1 : z.toInt < z'.toInt) : (XT.ushr (z - z') (31 : Int32)).toInt8.toInt32 = (1 : Int32) := by
  have a := c_isub z z'
  have g1 := (z - z').toInt_lt
  have g2 := (z - z').le_toInt
  have g3 := z.toInt_lt
  have g4 := z'.toInt_lt
  have e : (z - z').toInt < 0 := by omega
  have u : (XT.ushr (z - z') (31 : Int32)).toInt = ((z - z').toInt % 4294967296) / (2 ^ 31 : Nat) := c_iushr (z - z') (31 : Int32) 31 (by decide) (by decide)
  have u1 : (XT.ushr (z - z') (31 : Int32)).toInt = 1 := by rw [u]; omega
  rw [show XT.ushr (z - z') (31 : Int32) = 1 from Int32.toInt_inj.mp (u1.trans (by decide))]
  decide
theorem sta_keep {Z : State} {h h' : Heap} {a : Addr} {C n d : String} {v : Value} (S : Sta Z h C n d v) (K : Keep h h' [a]) (pl : ∀ cell, h[a]? = some cell → cell.vm.isStatics = false) : Sta Z h' C n d v := by
  obtain ⟨cf, i, k, f, st, cell, h1, h2, h3, h4, h5, h6, h7⟩ := S
  have ne : st ∉ [a] := fun q => by
    cases List.mem_singleton.mp q
    rw [pl _ h5] at h6; cases h6
  exact ⟨cf, i, k, f, st, cell, h1, h2, h3, h4, K.2.1 _ _ h5 ne, h6, h7⟩
theorem sta_wr {Z : State} {h h' : Heap} {a : Addr} {sl : Nat} {w : Value} {C n d : String} {v : Value} (S : Sta Z h C n d v) (W : Wr h h' a sl w) (pl : ∀ cell, h[a]? = some cell → cell.vm.isStatics = false) : Sta Z h' C n d v := sta_keep S (Keep.of_wr W) pl
theorem exa_plain {Z : State} {h : Heap} {a : Addr} {C : String} (E : Exa Z h a C) : ∀ cell, h[a]? = some cell → cell.vm.isStatics = false := fun cell hc => by
  obtain ⟨c, k, h1, -, -, h4, -⟩ := E
  cases h1.symm.trans hc; exact h4
theorem arv_plain {Z : State} {h : Heap} {a : Addr} {k : ClassId} {ty : FieldType} {z : Int32} {vs : List Value} {d : Value} (A : Arv Z h a k ty z vs d) : ∀ cell, h[a]? = some cell → cell.vm.isStatics = false := fun cell hc => by
  obtain ⟨c, Ar, -⟩ := A
  cases Ar.1.symm.trans hc; exact Ar.plain
def Sg (Z : State) (h : Heap) (cs : Int32) (fv : Value) : Prop := Sta Z h "java/lang/String" "COMPACT_STRINGS" "Z" (.int cs) ∧ Sta Z h "java/lang/StringUTF16" "$assertionsDisabled" "Z" (.int 1) ∧ Sta Z h "java/lang/StringUTF16" "HI_BYTE_SHIFT" "I" (.int 0) ∧ Sta Z h "java/lang/StringUTF16" "LO_BYTE_SHIFT" "I" (.int 8) ∧ Sta Z h "jdk/internal/util/Preconditions" "SIOOBE_FORMATTER" "Ljava/util/function/BiFunction;" (fv)
theorem Sg.ext {Z : State} {h : Heap} {cs : Int32} {fv : Value} (G : Sg Z h cs fv) {h' : Heap} (E : Ext h h') : Sg Z h' cs fv := ⟨G.1.ext E, G.2.1.ext E, G.2.2.1.ext E, G.2.2.2.1.ext E, G.2.2.2.2.ext E⟩
theorem Sg.wr {Z : State} {h : Heap} {cs : Int32} {fv : Value} (G : Sg Z h cs fv) {h' : Heap} {a : Addr} {sl : Nat} {v : Value} (W : Wr h h' a sl v) (q : ∀ cell, h[a]? = some cell → cell.vm.isStatics = false) : Sg Z h' cs fv := ⟨sta_wr G.1 W q, sta_wr G.2.1 W q, sta_wr G.2.2.1 W q, sta_wr G.2.2.2.1 W q, sta_wr G.2.2.2.2 W q⟩
theorem Sg.keep {Z : State} {h : Heap} {cs : Int32} {fv : Value} (G : Sg Z h cs fv) {h' : Heap} {a : Addr} (K : Keep h h' [a]) (q : ∀ cell, h[a]? = some cell → cell.vm.isStatics = false) : Sg Z h' cs fv := ⟨sta_keep G.1 K q, sta_keep G.2.1 K q, sta_keep G.2.2.1 K q, sta_keep G.2.2.2.1 K q, sta_keep G.2.2.2.2 K q⟩
def Sv (Z : State) (h : Heap) (a : Addr) (us : List Int32) : Prop := Ch us ∧ Exa Z h a "java/lang/String" ∧ ∃ (v : Addr) (kb : ClassId) (z : Int32), Fld Z h a "java/lang/String" "value" "[B" (.ref v) ∧ ((Fld Z h a "java/lang/String" "coder" "B" (.int 0) ∧ z.toInt = (us.length : Int) ∧ (∀ u ∈ us, u.toInt ≤ 255) ∧ Arv Z h v kb .byte z (bl us) (.int 0)) ∨ (Fld Z h a "java/lang/String" "coder" "B" (.int 1) ∧ z.toInt = 2 * (us.length : Int) ∧ Arv Z h v kb .byte z (wl us) (.int 0)))
theorem Sv.ext {Z : State} {h h' : Heap} {a : Addr} {us : List Int32} (S : Sv Z h a us) (E : Ext h h') : Sv Z h' a us := by
  obtain ⟨h0, h1, v, kb, z, h2, h3⟩ := S
  refine ⟨h0, h1.ext E, v, kb, z, h2.ext E, ?_⟩
  rcases h3 with ⟨q1, q2, q3, q4⟩ | ⟨q1, q2, q3⟩
  · exact Or.inl ⟨q1.ext E, q2, q3, q4.ext E⟩
  · exact Or.inr ⟨q1.ext E, q2, q3.ext E⟩
theorem hStr {a0 : Array Value} {Z : State} (hw : ∀ d ∈ tables_1, d.before a0 Z = true) : ∀ d ∈ Bundle.stringAtoms, d.before a0 Z = true := by
  intro d hd
  simp only [Bundle.stringAtoms, List.mem_cons, List.not_mem_nil, or_false] at hd
  rcases hd with rfl | rfl | rfl | rfl | rfl | rfl | rfl
  · exact (hw _ (List.mem_of_getElem? (i := 7) rfl))
  · exact (hw _ (List.mem_of_getElem? (i := 6) rfl))
  · exact (hw _ (List.mem_of_getElem? (i := 19) rfl))
  · exact (hw _ (List.mem_of_getElem? (i := 20) rfl))
  · exact (hw _ (List.mem_of_getElem? (i := 21) rfl))
  · exact (hw _ (List.mem_of_getElem? (i := 22) rfl))
  · exact (hw _ (List.mem_of_getElem? (i := 23) rfl))
def Q5 (Z : State) (t : Addr) (kb : ClassId) (z : Int32) (us : List Int32) (h0 : Heap) (n0 : Nat) (v : Option Value) (h : Heap) (L : List Loc) : Prop := Fr n0 L ∧ Keep h0 h [t] ∧ ∃ r : Int32, v = some (.int r) ∧ ((r = z ∧ (∀ u ∈ us, u.toInt ≤ 255) ∧ Arv Z h t kb .byte z (bl us) (.int 0)) ∨ ∃ pre u rem, us = pre ++ u :: rem ∧ r.toInt = (pre.length : Int) ∧ 255 < u.toInt)
set_option maxRecDepth 65536 in
set_option maxHeartbeats 40000000 in
theorem c5loop {l : Launch} {Z : State} {p : Program} {e : Env} {R : Room} {s : State} {m : MethodId} {args : Array Value} {below : List Frame} {meth : Method} {c : Code} {K N : Nat} (hx : p.tables.exec = Jvm.exec) (hby : c.code = jdk_52_method_21_code) (hret : meth.sig.returnType = some .int) (hlk : meth.locks = false) (hZ : Z.Warmed39 s.vm) (h0 : Heap) (la t : Addr) (kc kb : ClassId) (us : List Int32) (z : Int32) (hz : z.toInt = (us.length : Int)) (hch : Ch us) (n0 : Nat) (hnt : n0 ≤ t) (hct : la ≠ t) :
    ∀ (rem pre : List Int32) (i : Int32) (sl6 : Slot) (T : State) (h : Heap) (locs : List Loc) (cells slots : Nat), (∀ u : Int32, storeLocals #[.val (.ref la), .val (.int i), .val (.ref t), .val (.int i), .val (.int z), .val (.int i), sl6] 6 (.int u) = some #[.val (.ref la), .val (.int i), .val (.ref t), .val (.int i), .val (.int z), .val (.int i), .val (.int u)]) → us = pre ++ rem → i.toInt = (pre.length : Int) → (∀ u ∈ pre, u.toInt ≤ 255) → Stand p l e R s m args below meth c T locs cells slots → T.heap = h → Fr n0 locs → Keep h0 h [t] → Arv Z h la kc .char z (cl us) (.int 0) → Arv Z h t kb .byte z (bl pre ++ List.replicate rem.length (.int 0)) (.int 0) → cells ≤ K → slots ≤ N → Wk.Go p e below (FrameEnd s) (Q5 Z t kb z us h0 n0) K N T (mkF m 3 #[.val (.ref la), .val (.int i), .val (.ref t), .val (.int i), .val (.int z), .val (.int i), sl6] [])
  | [], pre, i, sl6, T, h, locs, cells, slots, hs6, hus, hi, hpre, X0, e0, N0, K0, C, A, hcK, hsN => by
    have hl : us.length = pre.length := by rw [hus]; simp
    refine Wk.iload X0 hx (hb hby d12_3) rfl rfl ?_
    refine Wk.iload X0 hx (hb hby d12_5) rfl rfl ?_
    refine Wk.icmp_ge X0 hx 44 10 (hb hby d12_7) rfl rfl (show (i : Int32).toInt = (i).toInt from rfl) (show (z : Int32).toInt = (z).toInt from rfl) (fun h1 => ?_) (fun h1 => absurd h1 (by omega))
    refine Wk.iload X0 hx (hb hby d12_44) rfl rfl ?_
    exact Wk.retI X0 hx hlk hret (hb hby d12_46) hcK hsN (by rw [e0]; exact ⟨N0, K0, _, rfl, Or.inl ⟨rfl, by rw [hus, List.append_nil]; exact hpre, by rw [hus]; simpa using A⟩⟩)
  | u :: rem, pre, i, sl6, T, h, locs, cells, slots, hs6, hus, hi, hpre, X0, e0, N0, K0, C, A, hcK, hsN => by
    have hl : us.length = pre.length + (rem.length + 1) := by rw [hus]; simp
    have hzl := z.toInt_lt
    have hi1 : (i + 1).toInt = i.toInt + 1 := by have := c_iadd i 1; have h1 := (i + 1).toInt_lt; have h2 := (i + 1).le_toInt; have : (1 : Int32).toInt = 1 := rfl; omega
    refine Wk.iload X0 hx (hb hby d12_3) rfl rfl ?_
    refine Wk.iload X0 hx (hb hby d12_5) rfl rfl ?_
    refine Wk.icmp_ge X0 hx 44 10 (hb hby d12_7) rfl rfl (show (i : Int32).toInt = (i).toInt from rfl) (show (z : Int32).toInt = (z).toInt from rfl) (fun h1 => absurd h1 (by omega)) (fun h1 => ?_)
    refine Wk.aloadN X0 hx (hb hby d12_10) rfl rfl rfl ?_
    refine Wk.iloadN X0 hx (hb hby d12_11) rfl rfl ?_
    refine Wk.caload X0 hx hZ e0 C (by omega) (by omega) (cl_at hus hi) (hb hby d12_12) rfl ?_
    refine Wk.istore (l' := #[.val (.ref la), .val (.int i), .val (.ref t), .val (.int i), .val (.int z), .val (.int i), .val (.int u)]) X0 hx (hb hby d12_13) (hs6 u) rfl ?_
    refine Wk.iload X0 hx (hb hby d12_15) rfl rfl ?_
    refine Wk.sipush X0 hx (255 : Int32) (hb hby d12_17) rfl rfl ?_
    refine Wk.icmp_le X0 hx 26 23 (hb hby d12_20) rfl rfl (show (u : Int32).toInt = (u).toInt from rfl) (show ((255 : Int32) : Int32).toInt = 255 from (by decide)) (fun h2 => ?_) (fun h2 => ?_)
    · skip
      refine Wk.aloadN X0 hx (hb hby d12_26) rfl rfl rfl ?_
      refine Wk.iloadN X0 hx (hb hby d12_27) rfl rfl ?_
      refine Wk.iload X0 hx (hb hby d12_28) rfl rfl ?_
      refine Wk.i2b X0 hx (hb hby d12_30) rfl ?_
      refine Wk.bastore X0 hx hZ e0 A (by omega) (by omega) pre.length (by show i.toInt.toNat = _; omega) (by simp [bl]) (hb hby d12_31) rfl (fun T2 h2 X2 e2 W2 A2 => ?_)
      refine Wk.iinc (l' := #[.val (.ref la), .val (.int (i + (1 : Int32))), .val (.ref t), .val (.int i), .val (.int z), .val (.int i), .val (.int u)]) X2 hx (1 : Int32) (hb hby d12_32) rfl rfl rfl rfl ?_
      refine Wk.iinc (l' := #[.val (.ref la), .val (.int (i + (1 : Int32))), .val (.ref t), .val (.int (i + (1 : Int32))), .val (.int z), .val (.int i), .val (.int u)]) X2 hx (1 : Int32) (hb hby d12_35) rfl rfl rfl rfl ?_
      refine Wk.iinc (l' := #[.val (.ref la), .val (.int (i + (1 : Int32))), .val (.ref t), .val (.int (i + (1 : Int32))), .val (.int z), .val (.int (i + (1 : Int32))), .val (.int u)]) X2 hx (1 : Int32) (hb hby d12_38) rfl rfl rfl rfl ?_
      refine Wk.goto X2 hx 3 (hb hby d12_41) rfl ?_
      have A3 : Arv Z h2 t kb .byte z (bl (pre ++ [u]) ++ List.replicate rem.length (.int 0)) (.int 0) := by rw [← bl_set (rem := rem) rfl]; exact A2
      exact c5loop hx hby hret hlk hZ h0 la t kc kb us z hz hch n0 hnt hct rem (pre ++ [u]) (i + 1) _ T2 h2 _ _ _ (fun _ => rfl) (by rw [hus]; simp) (by rw [List.length_append, hi1, hi]; rfl) (fun y hy => (List.mem_append.mp hy).elim (hpre y) (fun q => by cases List.mem_singleton.mp q; omega)) X2 e2 (Fr.snoc X2 N0 hnt) (K0.wr W2 (Or.inl (List.mem_singleton.mpr rfl))) (C.other W2 hct) A3 hcK hsN
    · skip
      refine Wk.iload X0 hx (hb hby d12_23) rfl rfl ?_
      exact Wk.retI X0 hx hlk hret (hb hby d12_25) hcK hsN (by rw [e0]; exact ⟨N0, K0, _, rfl, Or.inr ⟨pre, u, rem, hus, hi, by omega⟩⟩)
set_option maxRecDepth 65536 in
set_option maxHeartbeats 40000000 in
theorem mc5 (l : Launch) (Z : State) (a0 : Array Value) (hw : ∀ d ∈ tables_1, d.before a0 Z = true) (la t : Addr) (kc kb : ClassId) (us : List Int32) (z : Int32) (hz : z.toInt = (us.length : Int)) (hch : Ch us) (n0 : Nat) (hnt : n0 ≤ t) (hct : la ≠ t) (h0 : Heap) (C : Arv Z h0 la kc .char z (cl us) (.int 0)) (A : Arv Z h0 t kb .byte z (List.replicate us.length (.int 0)) (.int 0)) : Wk.Met l Z (⟨"java/lang/StringUTF16", "compress", "([CI[BII)I"⟩ : MethodName) jdk_52_method_21_code 7 (some .int) [] { frames := 0, cells := 0, slots := 0, locals := 0 } #[(.ref la), (.int (0 : Int32)), (.ref t), (.int (0 : Int32)), (.int z)] h0 (Q5 Z t kb z us h0 n0) := by
  refine Wk.start pn12 ?_
  intro p e s m below meth c s₁ X0 hx hby hml hown0 hnm hret hlk hZ e0
  have hown : s.vm.findClass "java/lang/StringUTF16" = some m.cls := hown0
  refine Wk.enter (g' := (mkF m 0 #[.val (.ref la), .val (.int (0 : Int32)), .val (.ref t), .val (.int (0 : Int32)), .val (.int z), .unset, .unset] [])) (by first | rfl | (simp [entryFrame, mkF, argsToLocals, Value.category, maxLocals]; done) | (simp [entryFrame, mkF, argsToLocals, hcat]; done) | (simp [entryFrame, mkF, argsToLocals, hcat]; rfl)) ?_
  refine Wk.iconst X0 hx (0 : Int32) (hb hby d12_0) rfl rfl ?_
  refine Wk.istore (l' := #[.val (.ref la), .val (.int (0 : Int32)), .val (.ref t), .val (.int (0 : Int32)), .val (.int z), .val (.int (0 : Int32)), .unset]) X0 hx (hb hby d12_1) rfl rfl ?_
  exact c5loop hx hby hret hlk hZ h0 la t kc kb us z hz hch n0 hnt hct us [] 0 _ s₁ h0 [] 0 0 (fun _ => rfl) rfl rfl (fun _ q => nomatch q) X0 e0 (Fr.nil n0) (Keep.refl _ _) C A (Nat.zero_le _) (Nat.zero_le _)
set_option maxRecDepth 65536 in
set_option maxHeartbeats 40000000 in
theorem mgc (l : Launch) (Z : State) (a0 : Array Value) (hw : ∀ d ∈ tables_1, d.before a0 Z = true) (cs : Int32) (hcs : ¬ cs.toInt = 0) (fv : Value) (hfv : fv.isRef = true) (t : Addr) (kb : ClassId) (z : Int32) (us pre rem : List Int32) (u i : Int32) (hus : us = pre ++ u :: rem) (hi : i.toInt = (pre.length : Int)) (hz : z.toInt = 2 * (us.length : Int)) (hu : 0 ≤ u.toInt ∧ u.toInt ≤ 65535) (h0 : Heap) (G : Sg Z h0 cs fv) (A : Arv Z h0 t kb .byte z (wl us) (.int 0)) : Wk.Met l Z (⟨"java/lang/StringUTF16", "getChar", "([BI)C"⟩ : MethodName) jdk_52_method_5_code 2 (some .char) [] { frames := 0, cells := 0, slots := 0, locals := 0 } #[(.ref t), (.int i)] h0 (Wk.Pu (.int u) h0) := by
  refine Wk.start pn23 ?_
  intro p e s m below meth c s₁ X0 hx hby hml hown0 hnm hret hlk hZ e0
  have hown : s.vm.findClass "java/lang/StringUTF16" = some m.cls := hown0
  have hl : us.length = pre.length + (rem.length + 1) := by rw [hus]; simp
  refine Wk.enter (g' := (mkF m 0 #[.val (.ref t), .val (.int i)] [])) (by first | rfl | (simp [entryFrame, mkF, argsToLocals, Value.category, maxLocals]; done) | (simp [entryFrame, mkF, argsToLocals, hcat]; done) | (simp [entryFrame, mkF, argsToLocals, hcat]; rfl)) ?_
  refine Wk.getS (host := "") X0 hx hZ hown (Or.inl (hw _ (List.mem_of_getElem? (i := 101) rfl))) e0 G.2.1 (hb hby d23_0) rfl (fun T1 X1 e1 => ?_)
  refine Wk.if_ne X1 hx 28 6 (hb hby d23_3) rfl rfl (show ((1 : Int32) : Int32).toInt = 1 from (by decide)) (fun h2 => ?_) (fun h2 => absurd h2 (by omega))
  refine Wk.iloadN X1 hx (hb hby d23_28) rfl rfl ?_
  refine Wk.iconst X1 hx (1 : Int32) (hb hby d23_29) rfl rfl ?_
  refine Wk.ishl X1 hx (hb hby d23_30) rfl ?_
  have tj : (i <<< ((1 : Int32) &&& 31)).toInt = 2 * (pre.length : Int) := by have := z.toInt_lt; rw [dbl_t i (by omega) (by omega), hi]
  generalize i <<< ((1 : Int32) &&& 31) = j at tj ⊢
  have tj1 : (j + 1).toInt = 2 * (pre.length : Int) + 1 := by rw [Wk.t_add tj (show (1 : Int32).toInt = 1 from rfl) (by omega) (by have := z.toInt_lt; omega)]
  refine Wk.istoreN (l' := #[.val (.ref t), .val (.int j)]) X1 hx (hb hby d23_31) rfl rfl ?_
  refine Wk.aloadN X1 hx (hb hby d23_32) rfl rfl rfl ?_
  refine Wk.iloadN X1 hx (hb hby d23_33) rfl rfl ?_
  refine Wk.iinc (l' := #[.val (.ref t), .val (.int (j + (1 : Int32)))]) X1 hx (1 : Int32) (hb hby d23_34) rfl rfl rfl rfl ?_
  refine Wk.baload X1 hx hZ e1 A (by omega) (by omega) (wl_lo hus tj) (hb hby d23_37) rfl ?_
  refine Wk.sipush X1 hx (255 : Int32) (hb hby d23_38) rfl rfl ?_
  refine Wk.iand X1 hx (hb hby d23_41) rfl ?_
  refine Wk.getS (host := "") X1 hx hZ hown (Or.inl (hw _ (List.mem_of_getElem? (i := 102) rfl))) e1 G.2.2.1 (hb hby d23_42) rfl (fun T3 X3 e3 => ?_)
  refine Wk.ishl X3 hx (hb hby d23_45) rfl ?_
  refine Wk.aloadN X3 hx (hb hby d23_46) rfl rfl rfl ?_
  refine Wk.iloadN X3 hx (hb hby d23_47) rfl rfl ?_
  refine Wk.baload X3 hx hZ e3 A (by omega) (by omega) (wl_hi hus tj1) (hb hby d23_48) rfl ?_
  refine Wk.sipush X3 hx (255 : Int32) (hb hby d23_49) rfl rfl ?_
  refine Wk.iand X3 hx (hb hby d23_52) rfl ?_
  refine Wk.getS (host := "") X3 hx hZ hown (Or.inl (hw _ (List.mem_of_getElem? (i := 103) rfl))) e3 G.2.2.2.1 (hb hby d23_53) rfl (fun T4 X4 e4 => ?_)
  refine Wk.ishl X4 hx (hb hby d23_56) rfl ?_
  refine Wk.ior X4 hx (hb hby d23_57) rfl ?_
  refine Wk.i2c X4 hx (hb hby d23_58) rfl ?_
  rw [getc u hu.1 hu.2]
  exact Wk.retC X4 hx hlk hret (hb hby d23_59) (narC u hu.1 hu.2) (Nat.zero_le _) (Nat.zero_le _) (Wk.pu e4)
def Qp (Z : State) (t : Addr) (kb : ClassId) (z : Int32) (vs : List Value) (h0 : Heap) (n0 : Nat) (v : Option Value) (h : Heap) (L : List Loc) : Prop := v = none ∧ Fr n0 L ∧ Keep h0 h [t] ∧ Arv Z h t kb .byte z vs (.int 0)
set_option maxRecDepth 65536 in
set_option maxHeartbeats 40000000 in
theorem mput (l : Launch) (Z : State) (a0 : Array Value) (hw : ∀ d ∈ tables_1, d.before a0 Z = true) (cs : Int32) (hcs : ¬ cs.toInt = 0) (fv : Value) (hfv : fv.isRef = true) (t : Addr) (kb : ClassId) (z : Int32) (vs : List Value) (u i : Int32) (q : Nat) (hi : i.toInt = (q : Int)) (hq : 2 * q + 1 < vs.length) (hz : z.toInt = (vs.length : Int)) (n0 : Nat) (hnt : n0 ≤ t) (h0 : Heap) (G : Sg Z h0 cs fv) (A : Arv Z h0 t kb .byte z vs (.int 0)) : Wk.Met l Z (⟨"java/lang/StringUTF16", "putChar", "([BII)V"⟩ : MethodName) jdk_52_method_4_code 3 none [] { frames := 0, cells := 0, slots := 0, locals := 0 } #[(.ref t), (.int i), (.int u)] h0 (Qp Z t kb z ((vs.set (2 * q) (.int (lob u))).set (2 * q + 1) (.int (hib u))) h0 n0) := by
  refine Wk.start pn22 ?_
  intro p e s m below meth c s₁ X0 hx hby hml hown0 hnm hret hlk hZ e0
  have hown : s.vm.findClass "java/lang/StringUTF16" = some m.cls := hown0
  refine Wk.enter (g' := (mkF m 0 #[.val (.ref t), .val (.int i), .val (.int u)] [])) (by first | rfl | (simp [entryFrame, mkF, argsToLocals, Value.category, maxLocals]; done) | (simp [entryFrame, mkF, argsToLocals, hcat]; done) | (simp [entryFrame, mkF, argsToLocals, hcat]; rfl)) ?_
  refine Wk.getS (host := "") X0 hx hZ hown (Or.inl (hw _ (List.mem_of_getElem? (i := 101) rfl))) e0 G.2.1 (hb hby d22_0) rfl (fun T21 X21 e21 => ?_)
  refine Wk.if_ne X21 hx 28 6 (hb hby d22_3) rfl rfl (show ((1 : Int32) : Int32).toInt = 1 from (by decide)) (fun h22 => ?_) (fun h22 => absurd h22 (by omega))
  refine Wk.iloadN X21 hx (hb hby d22_28) rfl rfl ?_
  refine Wk.iconst X21 hx (1 : Int32) (hb hby d22_29) rfl rfl ?_
  refine Wk.ishl X21 hx (hb hby d22_30) rfl ?_
  have tj : (i <<< ((1 : Int32) &&& 31)).toInt = 2 * (q : Int) := by have := z.toInt_lt; rw [dbl_t i (by omega) (by omega), hi]
  generalize i <<< ((1 : Int32) &&& 31) = j at tj ⊢
  have tj1 : (j + 1).toInt = 2 * (q : Int) + 1 := by rw [Wk.t_add tj (show (1 : Int32).toInt = 1 from rfl) (by omega) (by have := z.toInt_lt; omega)]
  refine Wk.istoreN (l' := #[.val (.ref t), .val (.int j), .val (.int u)]) X21 hx (hb hby d22_31) rfl rfl ?_
  refine Wk.aloadN X21 hx (hb hby d22_32) rfl rfl rfl ?_
  refine Wk.iloadN X21 hx (hb hby d22_33) rfl rfl ?_
  refine Wk.iinc (l' := #[.val (.ref t), .val (.int (j + (1 : Int32))), .val (.int u)]) X21 hx (1 : Int32) (hb hby d22_34) rfl rfl rfl rfl ?_
  refine Wk.iloadN X21 hx (hb hby d22_37) rfl rfl ?_
  refine Wk.getS (host := "") X21 hx hZ hown (Or.inl (hw _ (List.mem_of_getElem? (i := 102) rfl))) e21 G.2.2.1 (hb hby d22_38) rfl (fun T23 X23 e23 => ?_)
  refine Wk.ishr X23 hx (hb hby d22_41) rfl ?_
  refine Wk.i2b X23 hx (hb hby d22_42) rfl ?_
  refine Wk.bastore X23 hx hZ e23 A (by omega) (by omega) (2 * q) (by show j.toInt.toNat = _; omega) (by omega) (hb hby d22_43) rfl (fun T8 h8 X8 e8 W8 A8 => ?_)
  refine Wk.aloadN X8 hx (hb hby d22_44) rfl rfl rfl ?_
  refine Wk.iloadN X8 hx (hb hby d22_45) rfl rfl ?_
  refine Wk.iloadN X8 hx (hb hby d22_46) rfl rfl ?_
  refine Wk.getS (host := "") X8 hx hZ hown (Or.inl (hw _ (List.mem_of_getElem? (i := 103) rfl))) e8 (G.wr W8 (arv_plain A)).2.2.2.1 (hb hby d22_47) rfl (fun T24 X24 e24 => ?_)
  refine Wk.ishr X24 hx (hb hby d22_50) rfl ?_
  refine Wk.i2b X24 hx (hb hby d22_51) rfl ?_
  refine Wk.bastore X24 hx hZ e24 A8 (by omega) (by omega) (2 * q + 1) (by show (j + 1).toInt.toNat = _; omega) (by rw [List.length_set]; omega) (hb hby d22_52) rfl (fun T9 h9 X9 e9 W9 A9 => ?_)
  exact Wk.retV X9 hx hlk hret (hb hby d22_53) (Nat.zero_le _) (Nat.zero_le _) (by rw [e9]; exact ⟨rfl, Fr.snoc X9 (Fr.snoc X8 (Fr.nil n0) hnt) hnt, ((Keep.refl _ _).wr W8 (Or.inl (List.mem_singleton.mpr rfl))).wr W9 (Or.inl (List.mem_singleton.mpr rfl)), A9⟩)
set_option maxRecDepth 65536 in
set_option maxHeartbeats 40000000 in
theorem mnbl (l : Launch) (Z : State) (a0 : Array Value) (hw : ∀ d ∈ tables_1, d.before a0 Z = true) (z : Int32) (h1 : 0 ≤ z.toInt) (h2 : z.toInt < 1073741823) (h0 : Heap)  : Wk.Met l Z (⟨"java/lang/StringUTF16", "newBytesLength", "(I)I"⟩ : MethodName) jdk_52_method_3_code 1 (some .int) [] { frames := 0, cells := 0, slots := 0, locals := 0 } #[(.int z)] h0 (Wk.Pu (.int (z <<< ((1 : Int32) &&& 31))) h0) := by
  refine Wk.start pn21 ?_
  intro p e s m below meth c s₁ X0 hx hby hml hown0 hnm hret hlk hZ e0
  have hown : s.vm.findClass "java/lang/StringUTF16" = some m.cls := hown0
  refine Wk.enter (g' := (mkF m 0 #[.val (.int z)] [])) (by first | rfl | (simp [entryFrame, mkF, argsToLocals, Value.category, maxLocals]; done) | (simp [entryFrame, mkF, argsToLocals, hcat]; done) | (simp [entryFrame, mkF, argsToLocals, hcat]; rfl)) ?_
  refine Wk.iloadN X0 hx (hb hby d21_0) rfl rfl ?_
  refine Wk.if_ge X0 hx 12 4 (hb hby d21_1) rfl rfl (show (z : Int32).toInt = (z).toInt from rfl) (fun h1 => ?_) (fun h1 => absurd h1 (by omega))
  refine Wk.iloadN X0 hx (hb hby d21_12) rfl rfl ?_
  refine Wk.ldcI X0 hx hZ hown (hw _ (List.mem_of_getElem? (i := 97) rfl)) (hb hby d21_13) rfl ?_
  refine Wk.icmp_lt X0 hx 55 18 (hb hby d21_15) rfl rfl (show (z : Int32).toInt = (z).toInt from rfl) (show ((1073741823 : Int32) : Int32).toInt = 1073741823 from (by decide)) (fun h2 => ?_) (fun h2 => absurd h2 (by omega))
  refine Wk.iloadN X0 hx (hb hby d21_55) rfl rfl ?_
  refine Wk.iconst X0 hx (1 : Int32) (hb hby d21_56) rfl rfl ?_
  refine Wk.ishl X0 hx (hb hby d21_57) rfl ?_
  exact Wk.retI X0 hx hlk hret (hb hby d21_58) (Nat.zero_le _) (Nat.zero_le _) (Wk.pu e0)
def Qn (Z : State) (z : Int32) (n : Nat) (h0 : Heap) (v : Option Value) (h : Heap) (L : List Loc) : Prop := ∃ kb, v = some (.ref h0.size) ∧ L = [] ∧ Ext h0 h ∧ Arv Z h h0.size kb .byte z (List.replicate n (.int 0)) (.int 0)
set_option maxRecDepth 65536 in
set_option maxHeartbeats 40000000 in
theorem mnbf (l : Launch) (Z : State) (a0 : Array Value) (hw : ∀ d ∈ tables_1, d.before a0 Z = true) (z : Int32) (n : Nat) (hz : z.toInt = (n : Int)) (hn : n ≤ 6) (h0 : Heap)  : Wk.Met l Z (⟨"java/lang/StringUTF16", "newBytesFor", "(I)[B"⟩ : MethodName) jdk_52_method_2_code 1 (some (.array .byte)) [] { frames := 1, cells := 1, slots := 12, locals := 12 } #[(.int z)] h0 (Qn Z (z <<< ((1 : Int32) &&& 31)) (2 * n) h0) := by
  refine Wk.start pn20 ?_
  intro p e s m below meth c s₁ X0 hx hby hml hown0 hnm hret hlk hZ e0
  have hown : s.vm.findClass "java/lang/StringUTF16" = some m.cls := hown0
  refine Wk.enter (g' := (mkF m 0 #[.val (.int z)] [])) (by first | rfl | (simp [entryFrame, mkF, argsToLocals, Value.category, maxLocals]; done) | (simp [entryFrame, mkF, argsToLocals, hcat]; done) | (simp [entryFrame, mkF, argsToLocals, hcat]; rfl)) ?_
  refine Wk.iloadN X0 hx (hb hby d20_0) rfl rfl ?_
  refine Wk.callP (W := 0) X0 hx hZ (argsL := [(.int z)]) (rest := []) hown (hw _ (List.mem_of_getElem? (i := 94) rfl)) (hw _ (List.mem_of_getElem? (i := 95) rfl)) (hw _ (List.mem_of_getElem? (i := 56) rfl)) (hw _ (List.mem_of_getElem? (i := 96) rfl)) (by decide) (mnbl l Z a0 hw z (by omega) (by omega) h0) e0 (by decide) (by decide) (by decide) (by decide) (by rw [hml]; rfl) (lenOf pd21 rfl) rfl (Nat.le_of_eq rfl) (hb hby d20_1) rfl (fun T6 X6 e6 => ?_)
  have td := dbl_t z (by omega) (by omega)
  refine Wk.newP (z := z <<< ((1 : Int32) &&& 31)) X6 hx hZ rfl (hw _ (List.mem_of_getElem? (i := 19) rfl)) e6 (by rw [Int32.lt_iff_toInt_lt]; show ¬ _ < (0 : Int); omega) (2 * n) (by show (z <<< ((1 : Int32) &&& 31)).toInt.toNat = _; omega) (by omega) (by decide) (show 0 + 2 * n ≤ 12 by omega) (hb hby d20_4) rfl (fun T1 h1 kb X1 e1 Ex1 Av1 => ?_)
  exact Wk.retA X1 hx hlk hret rfl rfl (hb hby d20_6) (by decide) (show 0 + 2 * n ≤ 12 by omega) (by rw [e1]; exact ⟨kb, rfl, rfl, Ex1, Av1⟩)
def Qt (Z : State) (us : List Int32) (h0 : Heap) (n0 : Nat) (v : Option Value) (h : Heap) (L : List Loc) : Prop := ∃ t kb z2, v = some (.ref t) ∧ h0.size ≤ t ∧ Fr n0 L ∧ Ext h0 h ∧ z2.toInt = 2 * (us.length : Int) ∧ Arv Z h t kb .byte z2 (wl us) (.int 0)
set_option maxRecDepth 65536 in
set_option maxHeartbeats 40000000 in
theorem tbloop {l : Launch} {Z : State} (a0 : Array Value) (hw : ∀ d ∈ tables_1, d.before a0 Z = true) {p : Program} {e : Env} {s : State} {m : MethodId} {args : Array Value} {below : List Frame} {meth : Method} {c : Code} (hx : p.tables.exec = Jvm.exec) (hby : c.code = jdk_52_method_14_code) (hml : c.maxLocals = 5) (hown : s.vm.findClass "java/lang/StringUTF16" = some m.cls) (hret : meth.sig.returnType = some (.array .byte)) (hlk : meth.locks = false) (hZ : Z.Warmed39 s.vm) (h0 : Heap) (cs : Int32) (hcs : ¬ cs.toInt = 0) (fv : Value) (hfv : fv.isRef = true) (la t : Addr) (kc kb : ClassId) (us : List Int32) (z z2 : Int32) (hz : z.toInt = (us.length : Int)) (hz2 : z2.toInt = 2 * (us.length : Int)) (hch : Ch us) (n0 : Nat) (hnt : n0 ≤ t) (ht0 : h0.size ≤ t) (hct : la ≠ t) :
    ∀ (rem pre : List Int32) (i : Int32) (T : State) (h : Heap) (locs : List Loc), us = pre ++ rem → i.toInt = (pre.length : Int) → Stand p l e { frames := 2, cells := 1, slots := 12, locals := 24 } s m args below meth c T locs 1 12 → T.heap = h → Fr n0 locs → Ext h0 h → Sg Z h cs fv → Arv Z h la kc .char z (cl us) (.int 0) → Arv Z h t kb .byte z2 (wl pre ++ List.replicate (2 * rem.length) (.int 0)) (.int 0) → Wk.Go p e below (FrameEnd s) (Qt Z us h0 n0) 1 12 T (mkF m 8 #[.val (.ref la), .val (.int i), .val (.int z), .val (.ref t), .val (.int i)] [])
  | [], pre, i, T, h, locs, hus, hi, X0, e0, N0, E0, G, C, A => by
    have hl : us.length = pre.length := by rw [hus]; simp
    refine Wk.iload X0 hx (hb hby d19_8) rfl rfl ?_
    refine Wk.iloadN X0 hx (hb hby d19_10) rfl rfl ?_
    refine Wk.icmp_ge X0 hx 32 14 (hb hby d19_11) rfl rfl (show (i : Int32).toInt = (i).toInt from rfl) (show (z : Int32).toInt = (z).toInt from rfl) (fun h1 => ?_) (fun h1 => absurd h1 (by omega))
    refine Wk.aloadN X0 hx (hb hby d19_32) rfl rfl rfl ?_
    exact Wk.retA X0 hx hlk hret rfl rfl (hb hby d19_33) (Nat.le_refl _) (Nat.le_refl _) (by rw [e0]; exact ⟨t, kb, z2, rfl, ht0, N0, E0, hz2, by rw [hus]; simpa using A⟩)
  | u :: rem, pre, i, T, h, locs, hus, hi, X0, e0, N0, E0, G, C, A => by
    have hl : us.length = pre.length + (rem.length + 1) := by rw [hus]; simp
    have hzl := z.toInt_lt
    have hi1 : (i + 1).toInt = i.toInt + 1 := by have := c_iadd i 1; have h1 := (i + 1).toInt_lt; have h2 := (i + 1).le_toInt; have : (1 : Int32).toInt = 1 := rfl; omega
    refine Wk.iload X0 hx (hb hby d19_8) rfl rfl ?_
    refine Wk.iloadN X0 hx (hb hby d19_10) rfl rfl ?_
    refine Wk.icmp_ge X0 hx 32 14 (hb hby d19_11) rfl rfl (show (i : Int32).toInt = (i).toInt from rfl) (show (z : Int32).toInt = (z).toInt from rfl) (fun h1 => absurd h1 (by omega)) (fun h1 => ?_)
    refine Wk.aloadN X0 hx (hb hby d19_14) rfl rfl rfl ?_
    refine Wk.iload X0 hx (hb hby d19_15) rfl rfl ?_
    refine Wk.aloadN X0 hx (hb hby d19_17) rfl rfl rfl ?_
    refine Wk.iloadN X0 hx (hb hby d19_18) rfl rfl ?_
    refine Wk.caload X0 hx hZ e0 C (by omega) (by omega) (cl_at hus hi) (hb hby d19_19) rfl ?_
    refine Wk.callS (W := 0) X0 hx hZ (argsL := [(.ref t), (.int i), (.int u)]) (rest := []) hown (hw _ (List.mem_of_getElem? (i := 98) rfl)) (hw _ (List.mem_of_getElem? (i := 99) rfl)) (hw _ (List.mem_of_getElem? (i := 56) rfl)) (hw _ (List.mem_of_getElem? (i := 100) rfl)) (by decide) (mput l Z a0 hw cs hcs fv hfv t kb z2 _ u i pre.length hi (by rw [List.length_append, wl_len, List.length_replicate]; simp only [List.length_cons]; omega) (by rw [List.length_append, wl_len, List.length_replicate]; simp only [List.length_cons]; omega) n0 hnt h G A) e0 (by decide) (by decide) (by decide) (by decide) (by rw [hml]; rfl) (lenOf pd22 rfl) rfl (Nat.le_of_eq rfl) (hb hby d19_20) rfl (fun T2 v2 L2 X2 hq2 => ?_)
    obtain ⟨rfl, N2, K2, A2⟩ := hq2
    show Wk.Go p e below _ _ _ _ T2 (mkF m 23 #[.val (.ref la), .val (.int i), .val (.int z), .val (.ref t), .val (.int i)] [])
    refine Wk.iinc (l' := #[.val (.ref la), .val (.int (i + (1 : Int32))), .val (.int z), .val (.ref t), .val (.int i)]) X2 hx (1 : Int32) (hb hby d19_23) rfl rfl rfl rfl ?_
    refine Wk.iinc (l' := #[.val (.ref la), .val (.int (i + (1 : Int32))), .val (.int z), .val (.ref t), .val (.int (i + (1 : Int32)))]) X2 hx (1 : Int32) (hb hby d19_26) rfl rfl rfl rfl ?_
    refine Wk.goto X2 hx 8 (hb hby d19_29) rfl ?_
    have A3 : Arv Z T2.heap t kb .byte z2 (wl (pre ++ [u]) ++ List.replicate (2 * rem.length) (.int 0)) (.int 0) := by rw [← wl_set (rem := rem) rfl rfl]; exact A2
    exact tbloop a0 hw hx hby hml hown hret hlk hZ h0 cs hcs fv hfv la t kc kb us z z2 hz hz2 hch n0 hnt ht0 hct rem (pre ++ [u]) (i + 1) T2 T2.heap _ (by rw [hus]; simp) (by rw [List.length_append, hi1, hi]; rfl) X2 rfl (N0.app N2) (Wk.ext_of_keep ((Wk.keep_of_ext E0).trans K2 (allS (Or.inr ht0) all0))) (G.keep K2 (arv_plain A)) (C.keep K2 (ninS hct nin0)) A3
set_option maxRecDepth 65536 in
set_option maxHeartbeats 40000000 in
theorem mtob (l : Launch) (Z : State) (a0 : Array Value) (hw : ∀ d ∈ tables_1, d.before a0 Z = true) (cs : Int32) (hcs : ¬ cs.toInt = 0) (fv : Value) (hfv : fv.isRef = true) (la : Addr) (kc : ClassId) (us : List Int32) (z : Int32) (hz : z.toInt = (us.length : Int)) (hch : Ch us) (hcap : us.length ≤ 6) (n0 : Nat) (h0 : Heap) (hn0 : n0 ≤ h0.size) (G : Sg Z h0 cs fv) (C : Arv Z h0 la kc .char z (cl us) (.int 0)) : Wk.Met l Z (⟨"java/lang/StringUTF16", "toBytes", "([CII)[B"⟩ : MethodName) jdk_52_method_14_code 5 (some (.array .byte)) [] { frames := 2, cells := 1, slots := 12, locals := 24 } #[(.ref la), (.int (0 : Int32)), (.int z)] h0 (Qt Z us h0 n0) := by
  refine Wk.start pn19 ?_
  intro p e s m below meth c s₁ X0 hx hby hml hown0 hnm hret hlk hZ e0
  have hown : s.vm.findClass "java/lang/StringUTF16" = some m.cls := hown0
  refine Wk.enter (g' := (mkF m 0 #[.val (.ref la), .val (.int (0 : Int32)), .val (.int z), .unset, .unset] [])) (by first | rfl | (simp [entryFrame, mkF, argsToLocals, Value.category, maxLocals]; done) | (simp [entryFrame, mkF, argsToLocals, hcat]; done) | (simp [entryFrame, mkF, argsToLocals, hcat]; rfl)) ?_
  refine Wk.iloadN X0 hx (hb hby d19_0) rfl rfl ?_
  refine Wk.callS (W := 0) X0 hx hZ (argsL := [(.int z)]) (rest := []) hown (hw _ (List.mem_of_getElem? (i := 91) rfl)) (hw _ (List.mem_of_getElem? (i := 92) rfl)) (hw _ (List.mem_of_getElem? (i := 56) rfl)) (hw _ (List.mem_of_getElem? (i := 93) rfl)) (by decide) (mnbf l Z a0 hw z us.length hz hcap h0) e0 (by decide) (by decide) (by decide) (by decide) (by rw [hml]; rfl) (lenOf pd20 rfl) rfl (Nat.le_of_eq rfl) (hb hby d19_1) rfl (fun T6 v6 L6 X6 hq6 => ?_)
  obtain ⟨kb, rfl, rfl, Ex1, B1⟩ := hq6
  rw [List.append_nil] at X6
  show Wk.Go p e below _ _ _ _ T6 (mkF m 4 #[.val (.ref la), .val (.int (0 : Int32)), .val (.int z), .unset, .unset] [(.ref h0.size)])
  refine Wk.astoreN (l' := #[.val (.ref la), .val (.int (0 : Int32)), .val (.int z), .val (.ref h0.size), .unset]) X6 hx (hb hby d19_4) rfl rfl rfl ?_
  refine Wk.iconst X6 hx (0 : Int32) (hb hby d19_5) rfl rfl ?_
  refine Wk.istore (l' := #[.val (.ref la), .val (.int (0 : Int32)), .val (.int z), .val (.ref h0.size), .val (.int (0 : Int32))]) X6 hx (hb hby d19_6) rfl rfl ?_
  have lt1 : la < h0.size := C.lt
  have td := dbl_t z (by omega) (by omega)
  exact tbloop a0 hw hx hby hml hown hret hlk hZ h0 cs hcs fv hfv la h0.size kc kb us z _ hz (by rw [td, hz]) hch n0 hn0 (Nat.le_refl _) (Nat.ne_of_lt lt1) us [] 0 T6 _ [] rfl rfl X6 rfl (Fr.nil n0) Ex1 (G.ext Ex1) (C.ext Ex1) B1
def Qc (Z : State) (us : List Int32) (z : Int32) (h0 : Heap) (n0 : Nat) (v : Option Value) (h : Heap) (L : List Loc) : Prop := ∃ t kb, v = some (.ref t) ∧ h0.size ≤ t ∧ Fr n0 L ∧ Ext h0 h ∧ (((∀ u ∈ us, u.toInt ≤ 255) ∧ Arv Z h t kb .byte z (bl us) (.int 0)) ∨ ∃ z', z'.toInt = 2 * (us.length : Int) ∧ Arv Z h t kb .byte z' (wl us) (.int 0))
set_option maxRecDepth 65536 in
set_option maxHeartbeats 40000000 in
theorem mc3 (l : Launch) (Z : State) (a0 : Array Value) (hw : ∀ d ∈ tables_1, d.before a0 Z = true) (cs : Int32) (hcs : ¬ cs.toInt = 0) (fv : Value) (hfv : fv.isRef = true) (la : Addr) (kc : ClassId) (us : List Int32) (z : Int32) (hz : z.toInt = (us.length : Int)) (hch : Ch us) (hz0 : ¬ z < 0) (hzn : z.toNatClampNeg = us.length) (hcap : us.length ≤ 6) (n0 : Nat) (h0 : Heap) (hn0 : n0 ≤ h0.size) (G : Sg Z h0 cs fv) (C : Arv Z h0 la kc .char z (cl us) (.int 0)) : Wk.Met l Z (⟨"java/lang/StringUTF16", "compress", "([CII)[B"⟩ : MethodName) jdk_52_method_16_code 6 (some (.array .byte)) [] { frames := 4, cells := 2, slots := 18, locals := 48 } #[(.ref la), (.int (0 : Int32)), (.int z)] h0 (Qc Z us z h0 n0) := by
  refine Wk.start pn11 ?_
  intro p e s m below meth c s₁ X0 hx hby hml hown0 hnm hret hlk hZ e0
  have hown : s.vm.findClass "java/lang/StringUTF16" = some m.cls := hown0
  refine Wk.enter (g' := (mkF m 0 #[.val (.ref la), .val (.int (0 : Int32)), .val (.int z), .unset, .unset, .unset] [])) (by first | rfl | (simp [entryFrame, mkF, argsToLocals, Value.category, maxLocals]; done) | (simp [entryFrame, mkF, argsToLocals, hcat]; done) | (simp [entryFrame, mkF, argsToLocals, hcat]; rfl)) ?_
  refine Wk.iloadN X0 hx (hb hby d11_0) rfl rfl ?_
  refine Wk.newP (z := z) X0 hx hZ rfl (hw _ (List.mem_of_getElem? (i := 19) rfl)) e0 hz0 us.length hzn (by omega) (by decide) (show 0 + us.length ≤ 18 by omega) (hb hby d11_1) rfl (fun T1 h1 kb X1 e1 Ex1 Av1 => ?_)
  have B1 : Arv Z h1 h0.size kb .byte z (List.replicate us.length (.int 0)) (.int 0) := Av1
  have lt1 : la < h0.size := C.lt
  have X1 := X1.mono (cells' := 1) (slots' := 6) (by decide) (show 0 + us.length ≤ 6 by omega)
  refine Wk.astoreN (l' := #[.val (.ref la), .val (.int (0 : Int32)), .val (.int z), .val (.ref h0.size), .unset, .unset]) X1 hx (hb hby d11_3) rfl rfl rfl ?_
  refine Wk.aloadN X1 hx (hb hby d11_4) rfl rfl rfl ?_
  refine Wk.iloadN X1 hx (hb hby d11_5) rfl rfl ?_
  refine Wk.aloadN X1 hx (hb hby d11_6) rfl rfl rfl ?_
  refine Wk.iconst X1 hx (0 : Int32) (hb hby d11_7) rfl rfl ?_
  refine Wk.iloadN X1 hx (hb hby d11_8) rfl rfl ?_
  refine Wk.callS (W := 0) X1 hx hZ (argsL := [(.ref la), (.int (0 : Int32)), (.ref h0.size), (.int (0 : Int32)), (.int z)]) (rest := []) hown (hw _ (List.mem_of_getElem? (i := 58) rfl)) (hw _ (List.mem_of_getElem? (i := 59) rfl)) (hw _ (List.mem_of_getElem? (i := 56) rfl)) (hw _ (List.mem_of_getElem? (i := 60) rfl)) (by decide) (mc5 l Z a0 hw la h0.size kc kb us z hz hch n0 hn0 (Nat.ne_of_lt lt1) h1 (C.ext Ex1) B1) e1 (by decide) (by decide) (by decide) (by decide) (by rw [hml]; rfl) (lenOf pd12 rfl) rfl (Nat.le_of_eq rfl) (hb hby d11_9) rfl (fun T6 v6 L6 X6 hq6 => ?_)
  obtain ⟨N6, K6, r, rfl, hr6⟩ := hq6
  show Wk.Go p e below _ _ _ _ T6 (mkF m 12 #[.val (.ref la), .val (.int (0 : Int32)), .val (.int z), .val (.ref h0.size), .unset, .unset] [(.int r)])
  have Ex2 : Ext h0 T6.heap := Wk.ext_of_keep (((Keep.refl _ _).ext Ex1).trans K6 (allS (Or.inr (Nat.le_refl _)) all0))
  rcases hr6 with ⟨erz, hle, B2⟩ | ⟨pre, u, rem, hus, hr, hu⟩
  · skip
    rw [erz]
    refine Wk.istore (l' := #[.val (.ref la), .val (.int (0 : Int32)), .val (.int z), .val (.ref h0.size), .val (.int z), .unset]) X6 hx (hb hby d11_12) rfl rfl ?_
    refine Wk.iload X6 hx (hb hby d11_14) rfl rfl ?_
    refine Wk.iloadN X6 hx (hb hby d11_16) rfl rfl ?_
    refine Wk.icmp_eq X6 hx 57 20 (hb hby d11_17) rfl rfl (show (z : Int32).toInt = (z).toInt from rfl) (show (z : Int32).toInt = (z).toInt from rfl) (fun h7 => ?_) (fun h7 => absurd h7 (by omega))
    refine Wk.aloadN X6 hx (hb hby d11_57) rfl rfl rfl ?_
    exact Wk.retA X6 hx hlk hret rfl rfl (hb hby d11_58) (by decide) (by decide) ⟨_, _, rfl, Nat.le_refl _, Fr.app (Fr.nil n0) N6, Ex2, Or.inl ⟨hle, B2⟩⟩
  · skip
    have hl : us.length = pre.length + (rem.length + 1) := by rw [hus]; simp
    have C2 := (C.ext Ex1).keep K6 (ninS (Nat.ne_of_lt lt1) nin0)
    have hn2 : n0 ≤ T6.heap.size := Nat.le_trans hn0 Ex2.1
    refine Wk.istore (l' := #[.val (.ref la), .val (.int (0 : Int32)), .val (.int z), .val (.ref h0.size), .val (.int r), .unset]) X6 hx (hb hby d11_12) rfl rfl ?_
    refine Wk.iload X6 hx (hb hby d11_14) rfl rfl ?_
    refine Wk.iloadN X6 hx (hb hby d11_16) rfl rfl ?_
    refine Wk.icmp_eq X6 hx 57 20 (hb hby d11_17) rfl rfl (show (r : Int32).toInt = (r).toInt from rfl) (show (z : Int32).toInt = (z).toInt from rfl) (fun h8 => absurd h8 (by omega)) (fun h8 => ?_)
    refine Wk.aloadN X6 hx (hb hby d11_20) rfl rfl rfl ?_
    refine Wk.iloadN X6 hx (hb hby d11_21) rfl rfl ?_
    refine Wk.iloadN X6 hx (hb hby d11_22) rfl rfl ?_
    refine Wk.callS (W := 0) X6 hx hZ (argsL := [(.ref la), (.int (0 : Int32)), (.int z)]) (rest := []) hown (hw _ (List.mem_of_getElem? (i := 88) rfl)) (hw _ (List.mem_of_getElem? (i := 89) rfl)) (hw _ (List.mem_of_getElem? (i := 56) rfl)) (hw _ (List.mem_of_getElem? (i := 90) rfl)) (by decide) (mtob l Z a0 hw cs hcs fv hfv la kc us z hz hch hcap n0 T6.heap hn2 ((G.ext Ex1).keep K6 (arv_plain B1)) C2) rfl (by decide) (by decide) (by decide) (by decide) (by rw [hml]; rfl) (lenOf pd19 rfl) rfl (Nat.le_of_eq rfl) (hb hby d11_23) rfl (fun T9 v9 L9 X9 hq9 => ?_)
    obtain ⟨t2, kb2, z2, rfl, ht2, N9, Ex3, hz2, B3⟩ := hq9
    show Wk.Go p e below _ _ _ _ T9 (mkF m 26 #[.val (.ref la), .val (.int (0 : Int32)), .val (.int z), .val (.ref h0.size), .val (.int r), .unset] [(.ref t2)])
    refine Wk.astore (l' := #[.val (.ref la), .val (.int (0 : Int32)), .val (.int z), .val (.ref h0.size), .val (.int r), .val (.ref t2)]) X9 hx (hb hby d11_26) rfl rfl rfl ?_
    refine Wk.aload X9 hx (hb hby d11_28) rfl rfl rfl ?_
    refine Wk.iload X9 hx (hb hby d11_30) rfl rfl ?_
    refine Wk.callP (W := 0) X9 hx hZ (argsL := [(.ref t2), (.int r)]) (rest := []) hown (hw _ (List.mem_of_getElem? (i := 104) rfl)) (hw _ (List.mem_of_getElem? (i := 105) rfl)) (hw _ (List.mem_of_getElem? (i := 56) rfl)) (hw _ (List.mem_of_getElem? (i := 106) rfl)) (by decide) (mgc l Z a0 hw cs hcs fv hfv t2 kb2 z2 us pre rem u r hus hr hz2 (hch u (by rw [hus]; simp)) T9.heap (((G.ext Ex1).keep K6 (arv_plain B1)).ext Ex3) B3) rfl (by decide) (by decide) (by decide) (by decide) (by rw [hml]; rfl) (lenOf pd23 rfl) rfl (Nat.le_of_eq rfl) (hb hby d11_32) rfl (fun T10 X10 e10 => ?_)
    refine Wk.sipush X10 hx (255 : Int32) (hb hby d11_35) rfl rfl ?_
    refine Wk.icmp_gt X10 hx 54 41 (hb hby d11_38) rfl rfl (show (u : Int32).toInt = (u).toInt from rfl) (show ((255 : Int32) : Int32).toInt = 255 from (by decide)) (fun h11 => ?_) (fun h11 => absurd h11 (by omega))
    refine Wk.aload X10 hx (hb hby d11_54) rfl rfl rfl ?_
    exact Wk.retA X10 hx hlk hret rfl rfl (hb hby d11_56) (by decide) (by decide) (by rw [e10]; exact ⟨_, _, rfl, Nat.le_trans Ex2.1 ht2, Fr.app (Fr.app (Fr.nil n0) N6) N9, Wk.ext_trans Ex2 Ex3, Or.inr ⟨z2, hz2, B3⟩⟩)
set_option maxRecDepth 65536 in
set_option maxHeartbeats 40000000 in
theorem mcfa0 (l : Launch) (Z : State) (a0 : Array Value) (hw : ∀ d ∈ tables_1, d.before a0 Z = true) (t : Addr) (kb : ClassId) (us : List Int32) (z : Int32) (hz : z.toInt = (us.length : Int)) (h0 : Heap) (A : Arv Z h0 t kb .byte z (bl us) (.int 0)) : Wk.Met l Z (⟨"java/lang/StringUTF16", "coderFromArrayLen", "([BI)B"⟩ : MethodName) jdk_52_method_15_code 2 (some .byte) [] { frames := 0, cells := 0, slots := 0, locals := 0 } #[(.ref t), (.int z)] h0 (Wk.Pu (.int 0) h0) := by
  refine Wk.start pn13 ?_
  intro p e s m below meth c s₁ X0 hx hby hml hown0 hnm hret hlk hZ e0
  have hown : s.vm.findClass "java/lang/StringUTF16" = some m.cls := hown0
  refine Wk.enter (g' := (mkF m 0 #[.val (.ref t), .val (.int z)] [])) (by first | rfl | (simp [entryFrame, mkF, argsToLocals, Value.category, maxLocals]; done) | (simp [entryFrame, mkF, argsToLocals, hcat]; done) | (simp [entryFrame, mkF, argsToLocals, hcat]; rfl)) ?_
  refine Wk.iloadN X0 hx (hb hby d13_0) rfl rfl ?_
  refine Wk.aloadN X0 hx (hb hby d13_1) rfl rfl rfl ?_
  refine Wk.alen X0 hx hZ e0 A (hb hby d13_2) rfl ?_
  refine Wk.isub X0 hx (hb hby d13_3) rfl ?_
  refine Wk.bipush X0 hx (31 : Int32) (hb hby d13_4) rfl rfl ?_
  refine Wk.iushr X0 hx (hb hby d13_6) rfl ?_
  refine Wk.i2b X0 hx (hb hby d13_7) rfl ?_
  rw [show (XT.ushr (z - z) (31 : Int32)).toInt8.toInt32 = (0 : Int32) from by rw [Int32.sub_self]; decide]
  exact Wk.retB X0 hx hlk hret (hb hby d13_8) rfl (Nat.zero_le _) (Nat.zero_le _) (Wk.pu e0)
set_option maxRecDepth 65536 in
set_option maxHeartbeats 40000000 in
theorem mcfa1 (l : Launch) (Z : State) (a0 : Array Value) (hw : ∀ d ∈ tables_1, d.before a0 Z = true) (t : Addr) (kb : ClassId) (us : List Int32) (z : Int32) (hz : z.toInt = (us.length : Int)) (z' : Int32) (hz' : z'.toInt = 2 * (us.length : Int)) (hne : 0 < us.length) (h0 : Heap) (A : Arv Z h0 t kb .byte z' (wl us) (.int 0)) : Wk.Met l Z (⟨"java/lang/StringUTF16", "coderFromArrayLen", "([BI)B"⟩ : MethodName) jdk_52_method_15_code 2 (some .byte) [] { frames := 0, cells := 0, slots := 0, locals := 0 } #[(.ref t), (.int z)] h0 (Wk.Pu (.int 1) h0) := by
  refine Wk.start pn13 ?_
  intro p e s m below meth c s₁ X0 hx hby hml hown0 hnm hret hlk hZ e0
  have hown : s.vm.findClass "java/lang/StringUTF16" = some m.cls := hown0
  refine Wk.enter (g' := (mkF m 0 #[.val (.ref t), .val (.int z)] [])) (by first | rfl | (simp [entryFrame, mkF, argsToLocals, Value.category, maxLocals]; done) | (simp [entryFrame, mkF, argsToLocals, hcat]; done) | (simp [entryFrame, mkF, argsToLocals, hcat]; rfl)) ?_
  refine Wk.iloadN X0 hx (hb hby d13_0) rfl rfl ?_
  refine Wk.aloadN X0 hx (hb hby d13_1) rfl rfl rfl ?_
  refine Wk.alen X0 hx hZ e0 A (hb hby d13_2) rfl ?_
  refine Wk.isub X0 hx (hb hby d13_3) rfl ?_
  refine Wk.bipush X0 hx (31 : Int32) (hb hby d13_4) rfl rfl ?_
  refine Wk.iushr X0 hx (hb hby d13_6) rfl ?_
  refine Wk.i2b X0 hx (hb hby d13_7) rfl ?_
  rw [show (XT.ushr (z - z') (31 : Int32)).toInt8.toInt32 = (1 : Int32) from by have := z'.toInt_lt; exact cfa1 z z' (by omega) (by omega)]
  exact Wk.retB X0 hx hlk hret (hb hby d13_8) rfl (Nat.zero_le _) (Nat.zero_le _) (Wk.pu e0)
def Qs (Z : State) (a : Addr) (us : List Int32) (h0 : Heap) (n0 : Nat) (v : Option Value) (h : Heap) (L : List Loc) : Prop := v = none ∧ Fr n0 L ∧ Keep h0 h [a] ∧ Sv Z h a us
set_option maxRecDepth 65536 in
set_option maxHeartbeats 40000000 in
theorem mi149 (l : Launch) (Z : State) (a0 : Array Value) (hw : ∀ d ∈ tables_1, d.before a0 Z = true) (cs : Int32) (hcs : ¬ cs.toInt = 0) (fv : Value) (hfv : fv.isRef = true) (a la : Addr) (kc : ClassId) (us : List Int32) (z : Int32) (hz : z.toInt = (us.length : Int)) (hch : Ch us) (hz0 : ¬ z < 0) (hzn : z.toNatClampNeg = us.length) (hcap : us.length ≤ 6) (hne : 0 < us.length) (n0 : Nat) (hna : n0 ≤ a) (h0 : Heap) (hn0 : n0 ≤ h0.size) (G : Sg Z h0 cs fv) (E : Exa Z h0 a "java/lang/String") (Fv : Wk.FldE Z h0 a "java/lang/String" "value" "[B") (Fc : Wk.FldE Z h0 a "java/lang/String" "coder" "B") (C : Arv Z h0 la kc .char z (cl us) (.int 0)) : Wk.Met l Z (⟨"java/lang/String", "<init>", "([CIILjava/lang/Void;)V"⟩ : MethodName) jdk_42_method_149_code 6 none [] { frames := 5, cells := 2, slots := 18, locals := 66 } #[(.ref a), (.ref la), (.int (0 : Int32)), (.int z), (.null)] h0 (Qs Z a us h0 n0) := by
  refine Wk.start pn3 ?_
  intro p e s m below meth c s₁ X0 hx hby hml hown0 hnm hret hlk hZ e0
  have hown : s.vm.findClass "java/lang/String" = some m.cls := hown0
  refine Wk.enter (g' := (mkF m 0 #[.val (.ref a), .val (.ref la), .val (.int (0 : Int32)), .val (.int z), .val (.null), .unset] [])) (by first | rfl | (simp [entryFrame, mkF, argsToLocals, Value.category, maxLocals]; done) | (simp [entryFrame, mkF, argsToLocals, hcat]; done) | (simp [entryFrame, mkF, argsToLocals, hcat]; rfl)) ?_
  refine Wk.aloadN X0 hx (hb hby d3_0) rfl rfl rfl ?_
  refine Wk.initO (W := 0) X0 hx hZ hown (hw _ (List.mem_of_getElem? (i := 15) rfl)) (hw _ (List.mem_of_getElem? (i := 16) rfl)) (hw _ (List.mem_of_getElem? (i := 17) rfl)) e0 (by rw [hml]; rfl) (by decide) (Nat.le_of_eq rfl) (by decide) (hb hby d3_1) rfl (fun T1 X1 e1 => ?_)
  refine Wk.iloadN X1 hx (hb hby d3_4) rfl rfl ?_
  refine Wk.if_ne X1 hx 27 8 (hb hby d3_5) rfl rfl (show (z : Int32).toInt = (z).toInt from rfl) (fun h21 => ?_) (fun h21 => absurd h21 (by omega))
  refine Wk.getS (host := "") X1 hx hZ hown (Or.inl (hw _ (List.mem_of_getElem? (i := 41) rfl))) e1 G.1 (hb hby d3_27) rfl (fun T22 X22 e22 => ?_)
  refine Wk.if_eq X22 hx 58 33 (hb hby d3_30) rfl rfl (show (cs : Int32).toInt = (cs).toInt from rfl) (fun h23 => absurd h23 (by omega)) (fun h23 => ?_)
  refine Wk.aloadN X22 hx (hb hby d3_33) rfl rfl rfl ?_
  refine Wk.iloadN X22 hx (hb hby d3_34) rfl rfl ?_
  refine Wk.iloadN X22 hx (hb hby d3_35) rfl rfl ?_
  refine Wk.callS (W := 0) X22 hx hZ (argsL := [(.ref la), (.int (0 : Int32)), (.int z)]) (rest := []) hown (hw _ (List.mem_of_getElem? (i := 54) rfl)) (hw _ (List.mem_of_getElem? (i := 55) rfl)) (hw _ (List.mem_of_getElem? (i := 56) rfl)) (hw _ (List.mem_of_getElem? (i := 57) rfl)) (by decide) (mc3 l Z a0 hw cs hcs fv hfv la kc us z hz hch hz0 hzn hcap n0 h0 hn0 G C) e22 (by decide) (by decide) (by decide) (by decide) (by rw [hml]; rfl) (lenOf pd11 rfl) rfl (Nat.le_of_eq rfl) (hb hby d3_36) rfl (fun T24 v24 L24 X24 hq24 => ?_)
  obtain ⟨t, kb, rfl, ht, Nc, Ec, hc⟩ := hq24
  have hta : t ≠ a := Nat.ne_of_gt (Nat.lt_of_lt_of_le E.lt ht)
  show Wk.Go p e below _ _ _ _ T24 (mkF m 39 #[.val (.ref a), .val (.ref la), .val (.int (0 : Int32)), .val (.int z), .val (.null), .unset] [(.ref t)])
  rcases hc with ⟨hle, B0⟩ | ⟨z', hz', B0⟩
  · skip
    refine Wk.astore (l' := #[.val (.ref a), .val (.ref la), .val (.int (0 : Int32)), .val (.int z), .val (.null), .val (.ref t)]) X24 hx (hb hby d3_39) rfl rfl rfl ?_
    refine Wk.aloadN X24 hx (hb hby d3_41) rfl rfl rfl ?_
    refine Wk.aload X24 hx (hb hby d3_42) rfl rfl rfl ?_
    refine Wk.iloadN X24 hx (hb hby d3_44) rfl rfl ?_
    refine Wk.callP (W := 1) X24 hx hZ (argsL := [(.ref t), (.int z)]) (rest := [(.ref a)]) hown (hw _ (List.mem_of_getElem? (i := 61) rfl)) (hw _ (List.mem_of_getElem? (i := 62) rfl)) (hw _ (List.mem_of_getElem? (i := 56) rfl)) (hw _ (List.mem_of_getElem? (i := 63) rfl)) (by decide) (mcfa0 l Z a0 hw t kb us z hz T24.heap B0) rfl (by decide) (by decide) (by decide) (by decide) (by rw [hml]; rfl) (lenOf pd13 rfl) rfl (Nat.le_of_eq rfl) (hb hby d3_45) rfl (fun T25 X25 e25 => ?_)
    obtain ⟨old11, Fo11⟩ := (Fc.ext Ec)
    refine Wk.putF (host := "") (ty := .byte) X25 hx hZ hown (Or.inl (hw _ (List.mem_of_getElem? (i := 25) rfl))) e25 Fo11 (E.ext Ec) (Or.inr ⟨(hw _ (List.mem_of_getElem? (i := 21) rfl)), rfl, hnm⟩) (hw _ (List.mem_of_getElem? (i := 6) rfl)) (by decide) rfl rfl (hb hby d3_48) rfl (fun T11 h11 X11 e11 W11 => ?_)
    have Fc11 := Fo11.same W11
    have B11 := B0.other W11 hta
    have N11 := Fr.snoc X11 (Fr.app (Fr.nil n0) Nc) hna
    refine Wk.aloadN X11 hx (hb hby d3_51) rfl rfl rfl ?_
    refine Wk.aload X11 hx (hb hby d3_52) rfl rfl rfl ?_
    obtain ⟨old12, Fo12⟩ := ((Fv.ext Ec).wr W11)
    refine Wk.putF (host := "") (ty := (.array .byte)) X11 hx hZ hown (Or.inl (hw _ (List.mem_of_getElem? (i := 24) rfl))) e11 Fo12 ((E.ext Ec).wr W11) (Or.inr ⟨(hw _ (List.mem_of_getElem? (i := 20) rfl)), rfl, hnm⟩) (hw _ (List.mem_of_getElem? (i := 6) rfl)) (by decide) rfl rfl (hb hby d3_54) rfl (fun T12 h12 X12 e12 W12 => ?_)
    have Fv12 := Fo12.same W12
    have Fc12 := Fc11.other W12 (Or.inr (slot_ne (t := .byte) (t' := .array .byte) (Or.inr (hw _ (List.mem_of_getElem? (i := 21) rfl))) (Or.inr (hw _ (List.mem_of_getElem? (i := 20) rfl))) (by decide) (by decide) (by decide)))
    have B12 := B11.other W12 hta
    have N12 := Fr.snoc X12 N11 hna
    exact Wk.retV X12 hx hlk hret (hb hby d3_57) (by decide) (by decide) (by rw [e12]; exact ⟨rfl, N12, ((((Keep.refl h0 [a]).ext Ec).wr W11 (Or.inl (List.mem_singleton.mpr rfl))).wr W12 (Or.inl (List.mem_singleton.mpr rfl))), hch, (((E.ext Ec).wr W11).wr W12), t, kb, z, Fv12, Or.inl ⟨Fc12, hz, hle, B12⟩⟩)
  · skip
    refine Wk.astore (l' := #[.val (.ref a), .val (.ref la), .val (.int (0 : Int32)), .val (.int z), .val (.null), .val (.ref t)]) X24 hx (hb hby d3_39) rfl rfl rfl ?_
    refine Wk.aloadN X24 hx (hb hby d3_41) rfl rfl rfl ?_
    refine Wk.aload X24 hx (hb hby d3_42) rfl rfl rfl ?_
    refine Wk.iloadN X24 hx (hb hby d3_44) rfl rfl ?_
    refine Wk.callP (W := 1) X24 hx hZ (argsL := [(.ref t), (.int z)]) (rest := [(.ref a)]) hown (hw _ (List.mem_of_getElem? (i := 61) rfl)) (hw _ (List.mem_of_getElem? (i := 62) rfl)) (hw _ (List.mem_of_getElem? (i := 56) rfl)) (hw _ (List.mem_of_getElem? (i := 63) rfl)) (by decide) (mcfa1 l Z a0 hw t kb us z hz z' hz' hne T24.heap B0) rfl (by decide) (by decide) (by decide) (by decide) (by rw [hml]; rfl) (lenOf pd13 rfl) rfl (Nat.le_of_eq rfl) (hb hby d3_45) rfl (fun T26 X26 e26 => ?_)
    obtain ⟨old11, Fo11⟩ := (Fc.ext Ec)
    refine Wk.putF (host := "") (ty := .byte) X26 hx hZ hown (Or.inl (hw _ (List.mem_of_getElem? (i := 25) rfl))) e26 Fo11 (E.ext Ec) (Or.inr ⟨(hw _ (List.mem_of_getElem? (i := 21) rfl)), rfl, hnm⟩) (hw _ (List.mem_of_getElem? (i := 6) rfl)) (by decide) rfl rfl (hb hby d3_48) rfl (fun T11 h11 X11 e11 W11 => ?_)
    have Fc11 := Fo11.same W11
    have B11 := B0.other W11 hta
    have N11 := Fr.snoc X11 (Fr.app (Fr.nil n0) Nc) hna
    refine Wk.aloadN X11 hx (hb hby d3_51) rfl rfl rfl ?_
    refine Wk.aload X11 hx (hb hby d3_52) rfl rfl rfl ?_
    obtain ⟨old12, Fo12⟩ := ((Fv.ext Ec).wr W11)
    refine Wk.putF (host := "") (ty := (.array .byte)) X11 hx hZ hown (Or.inl (hw _ (List.mem_of_getElem? (i := 24) rfl))) e11 Fo12 ((E.ext Ec).wr W11) (Or.inr ⟨(hw _ (List.mem_of_getElem? (i := 20) rfl)), rfl, hnm⟩) (hw _ (List.mem_of_getElem? (i := 6) rfl)) (by decide) rfl rfl (hb hby d3_54) rfl (fun T12 h12 X12 e12 W12 => ?_)
    have Fv12 := Fo12.same W12
    have Fc12 := Fc11.other W12 (Or.inr (slot_ne (t := .byte) (t' := .array .byte) (Or.inr (hw _ (List.mem_of_getElem? (i := 21) rfl))) (Or.inr (hw _ (List.mem_of_getElem? (i := 20) rfl))) (by decide) (by decide) (by decide)))
    have B12 := B11.other W12 hta
    have N12 := Fr.snoc X12 N11 hna
    exact Wk.retV X12 hx hlk hret (hb hby d3_57) (by decide) (by decide) (by rw [e12]; exact ⟨rfl, N12, ((((Keep.refl h0 [a]).ext Ec).wr W11 (Or.inl (List.mem_singleton.mpr rfl))).wr W12 (Or.inl (List.mem_singleton.mpr rfl))), hch, (((E.ext Ec).wr W11).wr W12), t, kb, z', Fv12, Or.inr ⟨Fc12, hz', B12⟩⟩)
set_option maxRecDepth 65536 in
set_option maxHeartbeats 40000000 in
theorem mi3 (l : Launch) (Z : State) (a0 : Array Value) (hw : ∀ d ∈ tables_1, d.before a0 Z = true) (cs : Int32) (hcs : ¬ cs.toInt = 0) (fv : Value) (hfv : fv.isRef = true) (a la : Addr) (kc : ClassId) (us : List Int32) (z : Int32) (hz : z.toInt = (us.length : Int)) (hch : Ch us) (hz0 : ¬ z < 0) (hzn : z.toNatClampNeg = us.length) (hcap : us.length ≤ 6) (hne : 0 < us.length) (n0 : Nat) (hna : n0 ≤ a) (h0 : Heap) (hn0 : n0 ≤ h0.size) (G : Sg Z h0 cs fv) (E : Exa Z h0 a "java/lang/String") (Fv : Wk.FldE Z h0 a "java/lang/String" "value" "[B") (Fc : Wk.FldE Z h0 a "java/lang/String" "coder" "B") (C : Arv Z h0 la kc .char z (cl us) (.int 0)) : Wk.Met l Z (⟨"java/lang/String", "<init>", "([C)V"⟩ : MethodName) jdk_42_method_3_code 2 none [] { frames := 6, cells := 2, slots := 18, locals := 84 } #[(.ref a), (.ref la)] h0 (Qs Z a us h0 n0) := by
  refine Wk.start pn2 ?_
  intro p e s m below meth c s₁ X0 hx hby hml hown0 hnm hret hlk hZ e0
  have hown : s.vm.findClass "java/lang/String" = some m.cls := hown0
  refine Wk.enter (g' := (mkF m 0 #[.val (.ref a), .val (.ref la)] [])) (by first | rfl | (simp [entryFrame, mkF, argsToLocals, Value.category, maxLocals]; done) | (simp [entryFrame, mkF, argsToLocals, hcat]; done) | (simp [entryFrame, mkF, argsToLocals, hcat]; rfl)) ?_
  refine Wk.aloadN X0 hx (hb hby d2_0) rfl rfl rfl ?_
  refine Wk.aloadN X0 hx (hb hby d2_1) rfl rfl rfl ?_
  refine Wk.iconst X0 hx (0 : Int32) (hb hby d2_2) rfl rfl ?_
  refine Wk.aloadN X0 hx (hb hby d2_3) rfl rfl rfl ?_
  refine Wk.alen X0 hx hZ e0 C (hb hby d2_4) rfl ?_
  refine Wk.anull X0 hx (hb hby d2_5) rfl ?_
  refine Wk.callI (W := 0) X0 hx hZ (argsL := [(.ref la), (.int (0 : Int32)), (.int z), (.null)]) (rest := []) rfl hown (hw _ (List.mem_of_getElem? (i := 11) rfl)) (hw _ (List.mem_of_getElem? (i := 12) rfl)) (hw _ (List.mem_of_getElem? (i := 7) rfl)) (hw _ (List.mem_of_getElem? (i := 14) rfl)) (by decide) (mi149 l Z a0 hw cs hcs fv hfv a la kc us z hz hch hz0 hzn hcap hne n0 hna h0 hn0 G E Fv Fc C) e0 (by decide) (by decide) (by decide) (by decide) (by rw [hml]; rfl) (lenOf pd3 rfl) rfl (Nat.le_of_eq rfl) (hb hby d2_6) rfl (fun T1 v1 L1 X1 hq1 => ?_)
  obtain ⟨rfl, N1, K1, S1⟩ := hq1
  show Wk.Go p e below _ _ _ _ T1 (mkF m 9 #[.val (.ref a), .val (.ref la)] [])
  exact Wk.retV X1 hx hlk hret (hb hby d2_9) (by decide) (by decide) ⟨rfl, Fr.app (Fr.nil n0) N1, K1, S1⟩
set_option maxRecDepth 65536 in
set_option maxHeartbeats 40000000 in
theorem mi149e (l : Launch) (Z : State) (a0 : Array Value) (hw : ∀ d ∈ tables_1, d.before a0 Z = true) (a la : Addr) (n0 : Nat) (hna : n0 ≤ a) (Ts : List String) (hnot : "" ∉ Ts) (hh : Jvm.Lit.constHeld Z "java/lang/String" 7) (hcw : Jvm.Lit.compactW.before a0 Z = true) (h0 : Heap) (hO : Wk.Old Z h0) (E : Exa Z h0 a "java/lang/String") (Fv : Fld Z h0 a "java/lang/String" "value" "[B" .null) (Fc : Wk.FldE Z h0 a "java/lang/String" "coder" "B") : Wk.MetV l Z (⟨"java/lang/String", "<init>", "([CIILjava/lang/Void;)V"⟩ : MethodName) jdk_42_method_149_code 6 none [] { frames := 1, cells := 2, slots := 4, locals := 12 } #[(.ref a), (.ref la), (.int (0 : Int32)), (.int (0 : Int32)), (.null)] h0 (Qs Z a [] h0 n0) (fun vm => Jvm.RoadKit.IB Z vm Ts) (fun vm => Jvm.RoadKit.IB Z vm ("" :: Ts)) := by
  refine Wk.startV pn3 ?_
  intro p e s vm0 m below meth c s₁ X0 hx hby hml hown0 hnm hret hlk hZ hS e0 eS hPv
  have hown : (s.setVm vm0).vm.findClass "java/lang/String" = some m.cls := hown0
  refine Wk.enter (g' := (mkF m 0 #[.val (.ref a), .val (.ref la), .val (.int (0 : Int32)), .val (.int (0 : Int32)), .val (.null), .unset] [])) (by first | rfl | (simp [entryFrame, mkF, argsToLocals, Value.category, maxLocals]; done) | (simp [entryFrame, mkF, argsToLocals, hcat]; done) | (simp [entryFrame, mkF, argsToLocals, hcat]; rfl)) ?_
  refine Wk.aloadN X0 hx (hb hby d3_0) rfl rfl rfl ?_
  refine Wk.initO (W := 0) X0 hx hZ hown (hw _ (List.mem_of_getElem? (i := 15) rfl)) (hw _ (List.mem_of_getElem? (i := 16) rfl)) (hw _ (List.mem_of_getElem? (i := 17) rfl)) e0 (by rw [hml]; rfl) (by decide) (Nat.le_of_eq rfl) (by decide) (hb hby d3_1) rfl (fun T1 X1 e1 => ?_)
  refine Wk.iloadN X1 hx (hb hby d3_4) rfl rfl ?_
  refine Wk.if_ne X1 hx 27 8 (hb hby d3_5) rfl rfl (show ((0 : Int32) : Int32).toInt = 0 from (by decide)) (fun h21 => absurd h21 (by omega)) (fun h21 => ?_)
  refine Wk.aloadN X1 hx (hb hby d3_8) rfl rfl rfl ?_
  have O0 : Wk.Old Z s.heap := by rw [← eS, e0]; exact hO
  refine Wk.ldcV X1 hx hZ hS hown (hw _ (List.mem_of_getElem? (i := 18) rfl)) (hStr hw) e1 (Nat.zero_le _) (Fr.nil _) O0 hPv hnot hh hcw (vs := []) (z := 0) (by first | exact ⟨by decide, rfl⟩ | exact ⟨by simp, by simp⟩) (by decide) rfl 0 (by decide) (by decide) (by decide) (by decide) (hb hby d3_9) rfl (fun x T2 h2 vm2 k2 b2 kb2 X2 e2 Ex2 hS hk2 hZ hown E' Fcx Fvx Ax hI hLit _ _ => ?_)
  have hxa : x ≠ a := Fld.ne Fvx (Fv.ext Ex2) (by simp)
  have hba : b2 ≠ a := (Exa.neArv (E.ext Ex2) Ax (hw _ (List.mem_of_getElem? (i := 6) rfl))).symm
  refine Wk.getF (host := "") X2 hx hZ hown (Or.inl (hw _ (List.mem_of_getElem? (i := 24) rfl))) e2 Fvx (hb hby d3_11) rfl (fun T22 X22 e22 => ?_)
  refine Wk.putF (host := "") (ty := (.array .byte)) X22 hx hZ hown (Or.inl (hw _ (List.mem_of_getElem? (i := 24) rfl))) e22 (Fv.ext Ex2) (E.ext Ex2) (Or.inr ⟨(hw _ (List.mem_of_getElem? (i := 20) rfl)), rfl, hnm⟩) (hw _ (List.mem_of_getElem? (i := 6) rfl)) (by decide) rfl rfl (hb hby d3_14) rfl (fun T3 h3 X3 e3 W3 => ?_)
  have Fv3 := (Fv.ext Ex2).same W3
  have E3 := (E.ext Ex2).wr W3
  have Fcx3 := Fcx.other W3 (Or.inl hxa)
  have Ax3 := Ax.other W3 hba
  obtain ⟨oc, Foc⟩ := (Fc.ext Ex2).wr W3
  have N3 := Fr.snoc X3 (Fr.nil n0) hna
  refine Wk.aloadN X3 hx (hb hby d3_17) rfl rfl rfl ?_
  refine Wk.ldcA X3 hx hZ hown (hw _ (List.mem_of_getElem? (i := 18) rfl)) hLit (hb hby d3_18) rfl ?_
  refine Wk.getF (host := "") X3 hx hZ hown (Or.inl (hw _ (List.mem_of_getElem? (i := 25) rfl))) e3 Fcx3 (hb hby d3_20) rfl (fun T23 X23 e23 => ?_)
  refine Wk.putF (host := "") (ty := .byte) X23 hx hZ hown (Or.inl (hw _ (List.mem_of_getElem? (i := 25) rfl))) e23 Foc E3 (Or.inr ⟨(hw _ (List.mem_of_getElem? (i := 21) rfl)), rfl, hnm⟩) (hw _ (List.mem_of_getElem? (i := 6) rfl)) (by decide) rfl rfl (hb hby d3_23) rfl (fun T4 h4 X4 e4 W4 => ?_)
  have Fc4 := Foc.same W4
  have E4 := E3.wr W4
  have Fv4 := Fv3.other W4 (Or.inr (slot_ne (t := .array .byte) (t' := .byte) (Or.inr (hw _ (List.mem_of_getElem? (i := 20) rfl))) (Or.inr (hw _ (List.mem_of_getElem? (i := 21) rfl))) (by decide) (by decide) (by decide)))
  have Ax4 := Ax3.other W4 hba
  have N4 := Fr.snoc X4 N3 hna
  exact Wk.retVV X4 hx hS (by rw [e4]; exact Nat.le_trans hk2 (Nat.le_trans (Keep.of_wr W3).1 (Keep.of_wr W4).1)) (Wk.IBt hI X4) hlk hret (hb hby d3_26) (by decide) (by decide) (by rw [e4]; exact ⟨rfl, N4, (((Keep.refl h0 [a]).ext Ex2).wr W3 (Or.inl (List.mem_singleton.mpr rfl))).wr W4 (Or.inl (List.mem_singleton.mpr rfl)), (fun _ q => nomatch q), E4, b2, kb2, 0, Fv4, Or.inl ⟨Fc4, rfl, (fun _ q => nomatch q), Ax4⟩⟩)
set_option maxRecDepth 65536 in
set_option maxHeartbeats 40000000 in
theorem mi3e (l : Launch) (Z : State) (a0 : Array Value) (hw : ∀ d ∈ tables_1, d.before a0 Z = true) (a la : Addr) (kc : ClassId) (n0 : Nat) (hna : n0 ≤ a) (Ts : List String) (hnot : "" ∉ Ts) (hh : Jvm.Lit.constHeld Z "java/lang/String" 7) (hcw : Jvm.Lit.compactW.before a0 Z = true) (h0 : Heap) (hO : Wk.Old Z h0) (E : Exa Z h0 a "java/lang/String") (Fv : Fld Z h0 a "java/lang/String" "value" "[B" .null) (Fc : Wk.FldE Z h0 a "java/lang/String" "coder" "B") (C : Arv Z h0 la kc .char (0 : Int32) [] (.int 0)) : Wk.MetV l Z (⟨"java/lang/String", "<init>", "([C)V"⟩ : MethodName) jdk_42_method_3_code 2 none [] { frames := 2, cells := 2, slots := 4, locals := 29 } #[(.ref a), (.ref la)] h0 (Qs Z a [] h0 n0) (fun vm => Jvm.RoadKit.IB Z vm Ts) (fun vm => Jvm.RoadKit.IB Z vm ("" :: Ts)) := by
  refine Wk.startV pn2 ?_
  intro p e s vm0 m below meth c s₁ X0 hx hby hml hown0 hnm hret hlk hZ hS e0 eS hPv
  have hown : (s.setVm vm0).vm.findClass "java/lang/String" = some m.cls := hown0
  refine Wk.enter (g' := (mkF m 0 #[.val (.ref a), .val (.ref la)] [])) (by first | rfl | (simp [entryFrame, mkF, argsToLocals, Value.category, maxLocals]; done) | (simp [entryFrame, mkF, argsToLocals, hcat]; done) | (simp [entryFrame, mkF, argsToLocals, hcat]; rfl)) ?_
  refine Wk.aloadN X0 hx (hb hby d2_0) rfl rfl rfl ?_
  refine Wk.aloadN X0 hx (hb hby d2_1) rfl rfl rfl ?_
  refine Wk.iconst X0 hx (0 : Int32) (hb hby d2_2) rfl rfl ?_
  refine Wk.aloadN X0 hx (hb hby d2_3) rfl rfl rfl ?_
  refine Wk.alen X0 hx hZ e0 C (hb hby d2_4) rfl ?_
  refine Wk.anull X0 hx (hb hby d2_5) rfl ?_
  refine Wk.callIV (W := 0) X0 hx hZ hS (argsL := [(.ref la), (.int (0 : Int32)), (.int (0 : Int32)), (.null)]) (rest := []) rfl hown (hw _ (List.mem_of_getElem? (i := 11) rfl)) (hw _ (List.mem_of_getElem? (i := 12) rfl)) (hw _ (List.mem_of_getElem? (i := 7) rfl)) (hw _ (List.mem_of_getElem? (i := 14) rfl)) (by decide) (mi149e l Z a0 hw a la n0 hna Ts hnot hh hcw h0 hO E Fv Fc) e0 (Nat.zero_le _) (fun _ q => Wk.IBw hPv q) (by decide) (by decide) (by decide) (by decide) (by rw [hml]; rfl) (lenOf pd3 rfl) rfl (Nat.le_of_eq rfl) (hb hby d2_6) rfl (fun T1 vm1 k1 v1 L1 X1 hS hk0 hZ hown hq1 hV1 hWm1 => ?_)
  obtain ⟨rfl, N1, K1, S1⟩ := hq1
  show Wk.Go p e below _ _ _ _ T1 (mkF m 9 #[.val (.ref a), .val (.ref la)] [])
  exact Wk.retVV X1 hx hS hk0 (Wk.IBt hV1 X1) hlk hret (hb hby d2_9) (by decide) (by decide) ⟨rfl, Fr.app (Fr.nil n0) N1, K1, S1⟩
set_option maxRecDepth 65536 in
set_option maxHeartbeats 40000000 in
theorem mcod0 (l : Launch) (Z : State) (a0 : Array Value) (hw : ∀ d ∈ tables_1, d.before a0 Z = true) (cs : Int32) (hcs : ¬ cs.toInt = 0) (fv : Value) (hfv : fv.isRef = true) (a : Addr) (h0 : Heap) (G : Sg Z h0 cs fv) (Fc : Fld Z h0 a "java/lang/String" "coder" "B" (.int 0)) : Wk.Met l Z (⟨"java/lang/String", "coder", "()B"⟩ : MethodName) jdk_42_method_152_code 1 (some .byte) [] { frames := 0, cells := 0, slots := 0, locals := 0 } #[(.ref a)] h0 (Wk.Pu (.int 0) h0) := by
  refine Wk.start pn7 ?_
  intro p e s m below meth c s₁ X0 hx hby hml hown0 hnm hret hlk hZ e0
  have hown : s.vm.findClass "java/lang/String" = some m.cls := hown0
  refine Wk.enter (g' := (mkF m 0 #[.val (.ref a)] [])) (by first | rfl | (simp [entryFrame, mkF, argsToLocals, Value.category, maxLocals]; done) | (simp [entryFrame, mkF, argsToLocals, hcat]; done) | (simp [entryFrame, mkF, argsToLocals, hcat]; rfl)) ?_
  refine Wk.getS (host := "") X0 hx hZ hown (Or.inl (hw _ (List.mem_of_getElem? (i := 41) rfl))) e0 G.1 (hb hby d7_0) rfl (fun T1 X1 e1 => ?_)
  refine Wk.if_eq X1 hx 13 6 (hb hby d7_3) rfl rfl (show (cs : Int32).toInt = (cs).toInt from rfl) (fun h2 => absurd h2 (by omega)) (fun h2 => ?_)
  refine Wk.aloadN X1 hx (hb hby d7_6) rfl rfl rfl ?_
  refine Wk.getF (host := "") X1 hx hZ hown (Or.inl (hw _ (List.mem_of_getElem? (i := 25) rfl))) e1 Fc (hb hby d7_7) rfl (fun T3 X3 e3 => ?_)
  refine Wk.goto X3 hx 14 (hb hby d7_10) rfl ?_
  exact Wk.retB X3 hx hlk hret (hb hby d7_14) rfl (Nat.zero_le _) (Nat.zero_le _) (Wk.pu e3)
set_option maxRecDepth 65536 in
set_option maxHeartbeats 40000000 in
theorem mil0 (l : Launch) (Z : State) (a0 : Array Value) (hw : ∀ d ∈ tables_1, d.before a0 Z = true) (cs : Int32) (hcs : ¬ cs.toInt = 0) (fv : Value) (hfv : fv.isRef = true) (a : Addr) (h0 : Heap) (G : Sg Z h0 cs fv) (Fc : Fld Z h0 a "java/lang/String" "coder" "B" (.int 0)) : Wk.Met l Z (⟨"java/lang/String", "isLatin1", "()Z"⟩ : MethodName) jdk_42_method_154_code 1 (some .boolean) [] { frames := 0, cells := 0, slots := 0, locals := 0 } #[(.ref a)] h0 (Wk.Pu (.int 1) h0) := by
  refine Wk.start pn15 ?_
  intro p e s m below meth c s₁ X0 hx hby hml hown0 hnm hret hlk hZ e0
  have hown : s.vm.findClass "java/lang/String" = some m.cls := hown0
  refine Wk.enter (g' := (mkF m 0 #[.val (.ref a)] [])) (by first | rfl | (simp [entryFrame, mkF, argsToLocals, Value.category, maxLocals]; done) | (simp [entryFrame, mkF, argsToLocals, hcat]; done) | (simp [entryFrame, mkF, argsToLocals, hcat]; rfl)) ?_
  refine Wk.getS (host := "") X0 hx hZ hown (Or.inl (hw _ (List.mem_of_getElem? (i := 41) rfl))) e0 G.1 (hb hby d15_0) rfl (fun T1 X1 e1 => ?_)
  refine Wk.if_eq X1 hx 17 6 (hb hby d15_3) rfl rfl (show (cs : Int32).toInt = (cs).toInt from rfl) (fun h2 => absurd h2 (by omega)) (fun h2 => ?_)
  refine Wk.aloadN X1 hx (hb hby d15_6) rfl rfl rfl ?_
  refine Wk.getF (host := "") X1 hx hZ hown (Or.inl (hw _ (List.mem_of_getElem? (i := 25) rfl))) e1 Fc (hb hby d15_7) rfl (fun T3 X3 e3 => ?_)
  refine Wk.if_ne X3 hx 17 13 (hb hby d15_10) rfl rfl (show ((0 : Int32) : Int32).toInt = 0 from (by decide)) (fun h4 => absurd h4 (by omega)) (fun h4 => ?_)
  refine Wk.iconst X3 hx (1 : Int32) (hb hby d15_13) rfl rfl ?_
  refine Wk.goto X3 hx 18 (hb hby d15_14) rfl ?_
  exact Wk.retZ X3 hx hlk hret (hb hby d15_18) (by decide) (Nat.zero_le _) (Nat.zero_le _) (Wk.pu e3)
set_option maxRecDepth 65536 in
set_option maxHeartbeats 40000000 in
theorem mlen0 (l : Launch) (Z : State) (a0 : Array Value) (hw : ∀ d ∈ tables_1, d.before a0 Z = true) (cs : Int32) (hcs : ¬ cs.toInt = 0) (fv : Value) (hfv : fv.isRef = true) (a v : Addr) (kb : ClassId) (z : Int32) (us : List Int32) (hz : z.toInt = (us.length : Int)) (n : Int32) (hn : n.toInt = (us.length : Int)) (h0 : Heap) (G : Sg Z h0 cs fv) (E : Exa Z h0 a "java/lang/String") (Fv : Fld Z h0 a "java/lang/String" "value" "[B" (.ref v)) (Fc : Fld Z h0 a "java/lang/String" "coder" "B" (.int 0)) (A : Arv Z h0 v kb .byte z (bl us) (.int 0)) : Wk.Met l Z (⟨"java/lang/String", "length", "()I"⟩ : MethodName) jdk_42_method_54_code 1 (some .int) [] { frames := 1, cells := 0, slots := 0, locals := 13 } #[(.ref a)] h0 (Wk.Pu (.int n) h0) := by
  refine Wk.start pn6 ?_
  intro p e s m below meth c s₁ X0 hx hby hml hown0 hnm hret hlk hZ e0
  have hown : s.vm.findClass "java/lang/String" = some m.cls := hown0
  refine Wk.enter (g' := (mkF m 0 #[.val (.ref a)] [])) (by first | rfl | (simp [entryFrame, mkF, argsToLocals, Value.category, maxLocals]; done) | (simp [entryFrame, mkF, argsToLocals, hcat]; done) | (simp [entryFrame, mkF, argsToLocals, hcat]; rfl)) ?_
  refine Wk.aloadN X0 hx (hb hby d6_0) rfl rfl rfl ?_
  refine Wk.getF (host := "") X0 hx hZ hown (Or.inl (hw _ (List.mem_of_getElem? (i := 24) rfl))) e0 Fv (hb hby d6_1) rfl (fun T1 X1 e1 => ?_)
  refine Wk.alen X1 hx hZ e1 A (hb hby d6_4) rfl ?_
  refine Wk.aloadN X1 hx (hb hby d6_5) rfl rfl rfl ?_
  refine Wk.callVP (W := 1) X1 hx hZ (argsL := []) (rest := [(.int z)]) hown (hw _ (List.mem_of_getElem? (i := 36) rfl)) (hw _ (List.mem_of_getElem? (i := 37) rfl)) (hw _ (List.mem_of_getElem? (i := 39) rfl)) (hw _ (List.mem_of_getElem? (i := 38) rfl)) (hw _ (List.mem_of_getElem? (i := 7) rfl)) (hw _ (List.mem_of_getElem? (i := 40) rfl)) (notFace_of_selects (args := #[]) (mvT hZ (hw _ (List.mem_of_getElem? (i := 39) rfl)))) (by decide) (mcod0 l Z a0 hw cs hcs fv hfv a h0 G Fc) e1 E (by decide) (by decide) (by decide) (by decide) (by rw [hml]; rfl) (lenOf pd7 rfl) rfl (Nat.le_of_eq rfl) (hb hby d6_6) rfl (fun T2 X2 e2 => ?_)
  refine Wk.ishr X2 hx (hb hby d6_9) rfl ?_
  rw [show z >>> ((0 : Int32) &&& 31) = n from Int32.toInt_inj.mp (by rw [c_ishr z (0 : Int32) 0 (by decide)]; omega)]
  exact Wk.retI X2 hx hlk hret (hb hby d6_10) (Nat.zero_le _) (Nat.zero_le _) (Wk.pu e2)
set_option maxRecDepth 65536 in
set_option maxHeartbeats 40000000 in
theorem mcod1 (l : Launch) (Z : State) (a0 : Array Value) (hw : ∀ d ∈ tables_1, d.before a0 Z = true) (cs : Int32) (hcs : ¬ cs.toInt = 0) (fv : Value) (hfv : fv.isRef = true) (a : Addr) (h0 : Heap) (G : Sg Z h0 cs fv) (Fc : Fld Z h0 a "java/lang/String" "coder" "B" (.int 1)) : Wk.Met l Z (⟨"java/lang/String", "coder", "()B"⟩ : MethodName) jdk_42_method_152_code 1 (some .byte) [] { frames := 0, cells := 0, slots := 0, locals := 0 } #[(.ref a)] h0 (Wk.Pu (.int 1) h0) := by
  refine Wk.start pn7 ?_
  intro p e s m below meth c s₁ X0 hx hby hml hown0 hnm hret hlk hZ e0
  have hown : s.vm.findClass "java/lang/String" = some m.cls := hown0
  refine Wk.enter (g' := (mkF m 0 #[.val (.ref a)] [])) (by first | rfl | (simp [entryFrame, mkF, argsToLocals, Value.category, maxLocals]; done) | (simp [entryFrame, mkF, argsToLocals, hcat]; done) | (simp [entryFrame, mkF, argsToLocals, hcat]; rfl)) ?_
  refine Wk.getS (host := "") X0 hx hZ hown (Or.inl (hw _ (List.mem_of_getElem? (i := 41) rfl))) e0 G.1 (hb hby d7_0) rfl (fun T1 X1 e1 => ?_)
  refine Wk.if_eq X1 hx 13 6 (hb hby d7_3) rfl rfl (show (cs : Int32).toInt = (cs).toInt from rfl) (fun h2 => absurd h2 (by omega)) (fun h2 => ?_)
  refine Wk.aloadN X1 hx (hb hby d7_6) rfl rfl rfl ?_
  refine Wk.getF (host := "") X1 hx hZ hown (Or.inl (hw _ (List.mem_of_getElem? (i := 25) rfl))) e1 Fc (hb hby d7_7) rfl (fun T3 X3 e3 => ?_)
  refine Wk.goto X3 hx 14 (hb hby d7_10) rfl ?_
  exact Wk.retB X3 hx hlk hret (hb hby d7_14) rfl (Nat.zero_le _) (Nat.zero_le _) (Wk.pu e3)
set_option maxRecDepth 65536 in
set_option maxHeartbeats 40000000 in
theorem mil1 (l : Launch) (Z : State) (a0 : Array Value) (hw : ∀ d ∈ tables_1, d.before a0 Z = true) (cs : Int32) (hcs : ¬ cs.toInt = 0) (fv : Value) (hfv : fv.isRef = true) (a : Addr) (h0 : Heap) (G : Sg Z h0 cs fv) (Fc : Fld Z h0 a "java/lang/String" "coder" "B" (.int 1)) : Wk.Met l Z (⟨"java/lang/String", "isLatin1", "()Z"⟩ : MethodName) jdk_42_method_154_code 1 (some .boolean) [] { frames := 0, cells := 0, slots := 0, locals := 0 } #[(.ref a)] h0 (Wk.Pu (.int 0) h0) := by
  refine Wk.start pn15 ?_
  intro p e s m below meth c s₁ X0 hx hby hml hown0 hnm hret hlk hZ e0
  have hown : s.vm.findClass "java/lang/String" = some m.cls := hown0
  refine Wk.enter (g' := (mkF m 0 #[.val (.ref a)] [])) (by first | rfl | (simp [entryFrame, mkF, argsToLocals, Value.category, maxLocals]; done) | (simp [entryFrame, mkF, argsToLocals, hcat]; done) | (simp [entryFrame, mkF, argsToLocals, hcat]; rfl)) ?_
  refine Wk.getS (host := "") X0 hx hZ hown (Or.inl (hw _ (List.mem_of_getElem? (i := 41) rfl))) e0 G.1 (hb hby d15_0) rfl (fun T1 X1 e1 => ?_)
  refine Wk.if_eq X1 hx 17 6 (hb hby d15_3) rfl rfl (show (cs : Int32).toInt = (cs).toInt from rfl) (fun h2 => absurd h2 (by omega)) (fun h2 => ?_)
  refine Wk.aloadN X1 hx (hb hby d15_6) rfl rfl rfl ?_
  refine Wk.getF (host := "") X1 hx hZ hown (Or.inl (hw _ (List.mem_of_getElem? (i := 25) rfl))) e1 Fc (hb hby d15_7) rfl (fun T3 X3 e3 => ?_)
  refine Wk.if_ne X3 hx 17 13 (hb hby d15_10) rfl rfl (show ((1 : Int32) : Int32).toInt = 1 from (by decide)) (fun h4 => ?_) (fun h4 => absurd h4 (by omega))
  refine Wk.iconst X3 hx (0 : Int32) (hb hby d15_17) rfl rfl ?_
  exact Wk.retZ X3 hx hlk hret (hb hby d15_18) (by decide) (Nat.zero_le _) (Nat.zero_le _) (Wk.pu e3)
set_option maxRecDepth 65536 in
set_option maxHeartbeats 40000000 in
theorem mlen1 (l : Launch) (Z : State) (a0 : Array Value) (hw : ∀ d ∈ tables_1, d.before a0 Z = true) (cs : Int32) (hcs : ¬ cs.toInt = 0) (fv : Value) (hfv : fv.isRef = true) (a v : Addr) (kb : ClassId) (z : Int32) (us : List Int32) (hz : z.toInt = 2 * (us.length : Int)) (n : Int32) (hn : n.toInt = (us.length : Int)) (h0 : Heap) (G : Sg Z h0 cs fv) (E : Exa Z h0 a "java/lang/String") (Fv : Fld Z h0 a "java/lang/String" "value" "[B" (.ref v)) (Fc : Fld Z h0 a "java/lang/String" "coder" "B" (.int 1)) (A : Arv Z h0 v kb .byte z (wl us) (.int 0)) : Wk.Met l Z (⟨"java/lang/String", "length", "()I"⟩ : MethodName) jdk_42_method_54_code 1 (some .int) [] { frames := 1, cells := 0, slots := 0, locals := 13 } #[(.ref a)] h0 (Wk.Pu (.int n) h0) := by
  refine Wk.start pn6 ?_
  intro p e s m below meth c s₁ X0 hx hby hml hown0 hnm hret hlk hZ e0
  have hown : s.vm.findClass "java/lang/String" = some m.cls := hown0
  refine Wk.enter (g' := (mkF m 0 #[.val (.ref a)] [])) (by first | rfl | (simp [entryFrame, mkF, argsToLocals, Value.category, maxLocals]; done) | (simp [entryFrame, mkF, argsToLocals, hcat]; done) | (simp [entryFrame, mkF, argsToLocals, hcat]; rfl)) ?_
  refine Wk.aloadN X0 hx (hb hby d6_0) rfl rfl rfl ?_
  refine Wk.getF (host := "") X0 hx hZ hown (Or.inl (hw _ (List.mem_of_getElem? (i := 24) rfl))) e0 Fv (hb hby d6_1) rfl (fun T1 X1 e1 => ?_)
  refine Wk.alen X1 hx hZ e1 A (hb hby d6_4) rfl ?_
  refine Wk.aloadN X1 hx (hb hby d6_5) rfl rfl rfl ?_
  refine Wk.callVP (W := 1) X1 hx hZ (argsL := []) (rest := [(.int z)]) hown (hw _ (List.mem_of_getElem? (i := 36) rfl)) (hw _ (List.mem_of_getElem? (i := 37) rfl)) (hw _ (List.mem_of_getElem? (i := 39) rfl)) (hw _ (List.mem_of_getElem? (i := 38) rfl)) (hw _ (List.mem_of_getElem? (i := 7) rfl)) (hw _ (List.mem_of_getElem? (i := 40) rfl)) (notFace_of_selects (args := #[]) (mvT hZ (hw _ (List.mem_of_getElem? (i := 39) rfl)))) (by decide) (mcod1 l Z a0 hw cs hcs fv hfv a h0 G Fc) e1 E (by decide) (by decide) (by decide) (by decide) (by rw [hml]; rfl) (lenOf pd7 rfl) rfl (Nat.le_of_eq rfl) (hb hby d6_6) rfl (fun T2 X2 e2 => ?_)
  refine Wk.ishr X2 hx (hb hby d6_9) rfl ?_
  rw [show z >>> ((1 : Int32) &&& 31) = n from Int32.toInt_inj.mp (by rw [c_ishr z (1 : Int32) 1 (by decide)]; omega)]
  exact Wk.retI X2 hx hlk hret (hb hby d6_10) (Nat.zero_le _) (Nat.zero_le _) (Wk.pu e2)
theorem mlen (l : Launch) (Z : State) (a0 : Array Value) (hw : ∀ d ∈ tables_1, d.before a0 Z = true) (cs : Int32) (hcs : ¬ cs.toInt = 0) (fv : Value) (hfv : fv.isRef = true) (a : Addr) (us : List Int32) (n : Int32) (hn : n.toInt = (us.length : Int)) (h0 : Heap) (S : Sv Z h0 a us) (G : Sg Z h0 cs fv) : Wk.Met l Z (⟨"java/lang/String", "length", "()I"⟩ : MethodName) jdk_42_method_54_code 1 (some .int) [] { frames := 1, cells := 0, slots := 0, locals := 13 } #[(.ref a)] h0 (Wk.Pu (.int n) h0) := by
  obtain ⟨hch, E, v, kb, z, Fv, h⟩ := S
  rcases h with ⟨Fc, hz, hle, A⟩ | ⟨Fc, hz, A⟩
  · exact mlen0 l Z a0 hw cs hcs fv hfv a v kb z us hz n hn h0 G E Fv Fc A
  · exact mlen1 l Z a0 hw cs hcs fv hfv a v kb z us hz n hn h0 G E Fv Fc A
set_option maxRecDepth 65536 in
set_option maxHeartbeats 40000000 in
theorem mpci (l : Launch) (Z : State) (a0 : Array Value) (hw : ∀ d ∈ tables_1, d.before a0 Z = true) (i n : Int32) (fv : Value) (hfv : fv.isRef = true) (h1 : 0 ≤ i.toInt) (h2 : i.toInt < n.toInt) (h0 : Heap)  : Wk.Met l Z (⟨"jdk/internal/util/Preconditions", "checkIndex", "(IILjava/util/function/BiFunction;)I"⟩ : MethodName) jdk_41_method_11_code 3 (some .int) [] { frames := 0, cells := 0, slots := 0, locals := 0 } #[(.int i), (.int n), (fv)] h0 (Wk.Pu (.int i) h0) := by
  refine Wk.start pn18 ?_
  intro p e s m below meth c s₁ X0 hx hby hml hown0 hnm hret hlk hZ e0
  have hown : s.vm.findClass "jdk/internal/util/Preconditions" = some m.cls := hown0
  have hcat : fv.category = 1 := by rcases ref_cases hfv with rfl | ⟨_, rfl⟩ <;> rfl
  refine Wk.enter (g' := (mkF m 0 #[.val (.int i), .val (.int n), .val (fv)] [])) (by first | rfl | (simp [entryFrame, mkF, argsToLocals, Value.category, maxLocals]; done) | (simp [entryFrame, mkF, argsToLocals, hcat]; done) | (simp [entryFrame, mkF, argsToLocals, hcat]; rfl)) ?_
  refine Wk.iloadN X0 hx (hb hby d18_0) rfl rfl ?_
  refine Wk.if_lt X0 hx 9 4 (hb hby d18_1) rfl rfl (show (i : Int32).toInt = (i).toInt from rfl) (fun h1 => absurd h1 (by omega)) (fun h1 => ?_)
  refine Wk.iloadN X0 hx (hb hby d18_4) rfl rfl ?_
  refine Wk.iloadN X0 hx (hb hby d18_5) rfl rfl ?_
  refine Wk.icmp_lt X0 hx 16 9 (hb hby d18_6) rfl rfl (show (i : Int32).toInt = (i).toInt from rfl) (show (n : Int32).toInt = (n).toInt from rfl) (fun h2 => ?_) (fun h2 => absurd h2 (by omega))
  refine Wk.iloadN X0 hx (hb hby d18_16) rfl rfl ?_
  exact Wk.retI X0 hx hlk hret (hb hby d18_17) (Nat.zero_le _) (Nat.zero_le _) (Wk.pu e0)
def Pv (h0 : Heap) (v : Option Value) (h : Heap) (L : List Loc) : Prop := v = none ∧ L = [] ∧ h = h0
set_option maxRecDepth 65536 in
set_option maxHeartbeats 40000000 in
theorem msci (l : Launch) (Z : State) (a0 : Array Value) (hw : ∀ d ∈ tables_1, d.before a0 Z = true) (cs : Int32) (hcs : ¬ cs.toInt = 0) (fv : Value) (hfv : fv.isRef = true) (i n : Int32) (h1 : 0 ≤ i.toInt) (h2 : i.toInt < n.toInt) (h0 : Heap) (G : Sg Z h0 cs fv) : Wk.Met l Z (⟨"java/lang/String", "checkIndex", "(II)V"⟩ : MethodName) jdk_42_method_155_code 2 none [] { frames := 1, cells := 0, slots := 0, locals := 14 } #[(.int i), (.int n)] h0 (Pv h0) := by
  refine Wk.start pn17 ?_
  intro p e s m below meth c s₁ X0 hx hby hml hown0 hnm hret hlk hZ e0
  have hown : s.vm.findClass "java/lang/String" = some m.cls := hown0
  refine Wk.enter (g' := (mkF m 0 #[.val (.int i), .val (.int n)] [])) (by first | rfl | (simp [entryFrame, mkF, argsToLocals, Value.category, maxLocals]; done) | (simp [entryFrame, mkF, argsToLocals, hcat]; done) | (simp [entryFrame, mkF, argsToLocals, hcat]; rfl)) ?_
  refine Wk.iloadN X0 hx (hb hby d17_0) rfl rfl ?_
  refine Wk.iloadN X0 hx (hb hby d17_1) rfl rfl ?_
  refine Wk.getS (host := "") X0 hx hZ hown (Or.inl (hw _ (List.mem_of_getElem? (i := 81) rfl))) e0 G.2.2.2.2 (hb hby d17_2) rfl (fun T1 X1 e1 => ?_)
  refine Wk.callP (W := 0) X1 hx hZ (argsL := [(.int i), (.int n), (fv)]) (rest := []) hown (hw _ (List.mem_of_getElem? (i := 83) rfl)) (hw _ (List.mem_of_getElem? (i := 84) rfl)) (hw _ (List.mem_of_getElem? (i := 82) rfl)) (hw _ (List.mem_of_getElem? (i := 85) rfl)) (by decide) (mpci l Z a0 hw i n fv hfv h1 h2 h0) e1 (by decide) (by decide) (by decide) (by decide) (by rw [hml]; rfl) (lenOf pd18 rfl) rfl (Nat.le_of_eq rfl) (hb hby d17_5) rfl (fun T2 X2 e2 => ?_)
  refine Wk.pop X2 hx (hb hby d17_8) rfl rfl ?_
  exact Wk.retV X2 hx hlk hret (hb hby d17_9) (Nat.zero_le _) (Nat.zero_le _) ⟨rfl, rfl, e2⟩
set_option maxRecDepth 65536 in
set_option maxHeartbeats 40000000 in
theorem mlc (l : Launch) (Z : State) (a0 : Array Value) (hw : ∀ d ∈ tables_1, d.before a0 Z = true) (cs : Int32) (hcs : ¬ cs.toInt = 0) (fv : Value) (hfv : fv.isRef = true) (v : Addr) (kb : ClassId) (z : Int32) (us pre rem : List Int32) (u : Int32) (hus : us = pre ++ u :: rem) (i : Int32) (hi : i.toInt = (pre.length : Int)) (hcu : 0 ≤ u.toInt ∧ u.toInt ≤ 65535) (hz : z.toInt = (us.length : Int)) (hle : ∀ u ∈ us, u.toInt ≤ 255) (h0 : Heap) (G : Sg Z h0 cs fv) (A : Arv Z h0 v kb .byte z (bl us) (.int 0)) : Wk.Met l Z (⟨"java/lang/StringLatin1", "charAt", "([BI)C"⟩ : MethodName) jdk_43_method_2_code 2 (some .char) [] { frames := 2, cells := 0, slots := 0, locals := 27 } #[(.ref v), (.int i)] h0 (Wk.Pu (.int u) h0) := by
  refine Wk.start pn16 ?_
  intro p e s m below meth c s₁ X0 hx hby hml hown0 hnm hret hlk hZ e0
  have hown : s.vm.findClass "java/lang/StringLatin1" = some m.cls := hown0
  have hl : us.length = pre.length + (rem.length + 1) := by rw [hus]; simp
  refine Wk.enter (g' := (mkF m 0 #[.val (.ref v), .val (.int i)] [])) (by first | rfl | (simp [entryFrame, mkF, argsToLocals, Value.category, maxLocals]; done) | (simp [entryFrame, mkF, argsToLocals, hcat]; done) | (simp [entryFrame, mkF, argsToLocals, hcat]; rfl)) ?_
  refine Wk.iloadN X0 hx (hb hby d16_0) rfl rfl ?_
  refine Wk.aloadN X0 hx (hb hby d16_1) rfl rfl rfl ?_
  refine Wk.alen X0 hx hZ e0 A (hb hby d16_2) rfl ?_
  refine Wk.callS (W := 0) X0 hx hZ (argsL := [(.int i), (.int z)]) (rest := []) hown (hw _ (List.mem_of_getElem? (i := 78) rfl)) (hw _ (List.mem_of_getElem? (i := 79) rfl)) (hw _ (List.mem_of_getElem? (i := 7) rfl)) (hw _ (List.mem_of_getElem? (i := 80) rfl)) (by decide) (msci l Z a0 hw cs hcs fv hfv i z (by omega) (by omega) h0 G) e0 (by decide) (by decide) (by decide) (by decide) (by rw [hml]; rfl) (lenOf pd17 rfl) rfl (Nat.le_of_eq rfl) (hb hby d16_3) rfl (fun T1 v1 L1 X1 hq1 => ?_)
  obtain ⟨rfl, rfl, hh1⟩ := hq1
  rw [List.append_nil] at X1
  show Wk.Go p e below _ _ _ _ T1 (mkF m 6 #[.val (.ref v), .val (.int i)] [])
  refine Wk.aloadN X1 hx (hb hby d16_6) rfl rfl rfl ?_
  refine Wk.iloadN X1 hx (hb hby d16_7) rfl rfl ?_
  refine Wk.baload X1 hx hZ hh1 A (by omega) (by omega) (bl_at hus hi) (hb hby d16_8) rfl ?_
  refine Wk.sipush X1 hx (255 : Int32) (hb hby d16_9) rfl rfl ?_
  refine Wk.iand X1 hx (hb hby d16_12) rfl ?_
  rw [bb_and u hcu.1 (hle u (by rw [hus]; simp))]
  refine Wk.i2c X1 hx (hb hby d16_13) rfl ?_
  rw [i2cE u hcu.1 hcu.2]
  exact Wk.retC X1 hx hlk hret (hb hby d16_14) (narC u hcu.1 hcu.2) (Nat.zero_le _) (Nat.zero_le _) (Wk.pu hh1)
set_option maxRecDepth 65536 in
set_option maxHeartbeats 40000000 in
theorem mul (l : Launch) (Z : State) (a0 : Array Value) (hw : ∀ d ∈ tables_1, d.before a0 Z = true) (v : Addr) (kb : ClassId) (z n : Int32) (us : List Int32) (hz : z.toInt = 2 * (us.length : Int)) (hn : n.toInt = (us.length : Int)) (h0 : Heap) (A : Arv Z h0 v kb .byte z (wl us) (.int 0)) : Wk.Met l Z (⟨"java/lang/StringUTF16", "length", "([B)I"⟩ : MethodName) jdk_52_method_6_code 1 (some .int) [] { frames := 0, cells := 0, slots := 0, locals := 0 } #[(.ref v)] h0 (Wk.Pu (.int n) h0) := by
  refine Wk.start pn26 ?_
  intro p e s m below meth c s₁ X0 hx hby hml hown0 hnm hret hlk hZ e0
  have hown : s.vm.findClass "java/lang/StringUTF16" = some m.cls := hown0
  refine Wk.enter (g' := (mkF m 0 #[.val (.ref v)] [])) (by first | rfl | (simp [entryFrame, mkF, argsToLocals, Value.category, maxLocals]; done) | (simp [entryFrame, mkF, argsToLocals, hcat]; done) | (simp [entryFrame, mkF, argsToLocals, hcat]; rfl)) ?_
  refine Wk.aloadN X0 hx (hb hby d26_0) rfl rfl rfl ?_
  refine Wk.alen X0 hx hZ e0 A (hb hby d26_1) rfl ?_
  refine Wk.iconst X0 hx (1 : Int32) (hb hby d26_2) rfl rfl ?_
  refine Wk.ishr X0 hx (hb hby d26_3) rfl ?_
  rw [show z >>> ((1 : Int32) &&& 31) = n from Int32.toInt_inj.mp (by rw [c_ishr z (1 : Int32) 1 (by decide)]; omega)]
  exact Wk.retI X0 hx hlk hret (hb hby d26_4) (Nat.zero_le _) (Nat.zero_le _) (Wk.pu e0)
set_option maxRecDepth 65536 in
set_option maxHeartbeats 40000000 in
theorem muk (l : Launch) (Z : State) (a0 : Array Value) (hw : ∀ d ∈ tables_1, d.before a0 Z = true) (cs : Int32) (hcs : ¬ cs.toInt = 0) (fv : Value) (hfv : fv.isRef = true) (v : Addr) (kb : ClassId) (z n : Int32) (us pre rem : List Int32) (u : Int32) (hus : us = pre ++ u :: rem) (i : Int32) (hi : i.toInt = (pre.length : Int)) (hcu : 0 ≤ u.toInt ∧ u.toInt ≤ 65535) (hz : z.toInt = 2 * (us.length : Int)) (hn : n.toInt = (us.length : Int)) (h0 : Heap) (G : Sg Z h0 cs fv) (A : Arv Z h0 v kb .byte z (wl us) (.int 0)) : Wk.Met l Z (⟨"java/lang/StringUTF16", "checkIndex", "(I[B)V"⟩ : MethodName) jdk_52_method_91_code 2 none [] { frames := 2, cells := 0, slots := 0, locals := 27 } #[(.int i), (.ref v)] h0 (Pv h0) := by
  refine Wk.start pn25 ?_
  intro p e s m below meth c s₁ X0 hx hby hml hown0 hnm hret hlk hZ e0
  have hown : s.vm.findClass "java/lang/StringUTF16" = some m.cls := hown0
  have hl : us.length = pre.length + (rem.length + 1) := by rw [hus]; simp
  refine Wk.enter (g' := (mkF m 0 #[.val (.int i), .val (.ref v)] [])) (by first | rfl | (simp [entryFrame, mkF, argsToLocals, Value.category, maxLocals]; done) | (simp [entryFrame, mkF, argsToLocals, hcat]; done) | (simp [entryFrame, mkF, argsToLocals, hcat]; rfl)) ?_
  refine Wk.iloadN X0 hx (hb hby d25_0) rfl rfl ?_
  refine Wk.aloadN X0 hx (hb hby d25_1) rfl rfl rfl ?_
  refine Wk.callP (W := 1) X0 hx hZ (argsL := [(.ref v)]) (rest := [(.int i)]) hown (hw _ (List.mem_of_getElem? (i := 113) rfl)) (hw _ (List.mem_of_getElem? (i := 114) rfl)) (hw _ (List.mem_of_getElem? (i := 56) rfl)) (hw _ (List.mem_of_getElem? (i := 115) rfl)) (by decide) (mul l Z a0 hw v kb z n us hz hn h0 A) e0 (by decide) (by decide) (by decide) (by decide) (by rw [hml]; rfl) (lenOf pd26 rfl) rfl (Nat.le_of_eq rfl) (hb hby d25_2) rfl (fun T1 X1 e1 => ?_)
  refine Wk.callS (W := 0) X1 hx hZ (argsL := [(.int i), (.int n)]) (rest := []) hown (hw _ (List.mem_of_getElem? (i := 116) rfl)) (hw _ (List.mem_of_getElem? (i := 79) rfl)) (hw _ (List.mem_of_getElem? (i := 7) rfl)) (hw _ (List.mem_of_getElem? (i := 80) rfl)) (by decide) (msci l Z a0 hw cs hcs fv hfv i n (by omega) (by omega) h0 G) e1 (by decide) (by decide) (by decide) (by decide) (by rw [hml]; rfl) (lenOf pd17 rfl) rfl (Nat.le_of_eq rfl) (hb hby d25_5) rfl (fun T2 v2 L2 X2 hq2 => ?_)
  obtain ⟨rfl, rfl, hh2⟩ := hq2
  rw [List.append_nil] at X2
  show Wk.Go p e below _ _ _ _ T2 (mkF m 8 #[.val (.int i), .val (.ref v)] [])
  exact Wk.retV X2 hx hlk hret (hb hby d25_8) (Nat.zero_le _) (Nat.zero_le _) ⟨rfl, rfl, hh2⟩
set_option maxRecDepth 65536 in
set_option maxHeartbeats 40000000 in
theorem muc (l : Launch) (Z : State) (a0 : Array Value) (hw : ∀ d ∈ tables_1, d.before a0 Z = true) (cs : Int32) (hcs : ¬ cs.toInt = 0) (fv : Value) (hfv : fv.isRef = true) (v : Addr) (kb : ClassId) (z n : Int32) (us pre rem : List Int32) (u : Int32) (hus : us = pre ++ u :: rem) (i : Int32) (hi : i.toInt = (pre.length : Int)) (hcu : 0 ≤ u.toInt ∧ u.toInt ≤ 65535) (hz : z.toInt = 2 * (us.length : Int)) (hn : n.toInt = (us.length : Int)) (h0 : Heap) (G : Sg Z h0 cs fv) (A : Arv Z h0 v kb .byte z (wl us) (.int 0)) : Wk.Met l Z (⟨"java/lang/StringUTF16", "charAt", "([BI)C"⟩ : MethodName) jdk_52_method_83_code 2 (some .char) [] { frames := 3, cells := 0, slots := 0, locals := 40 } #[(.ref v), (.int i)] h0 (Wk.Pu (.int u) h0) := by
  refine Wk.start pn24 ?_
  intro p e s m below meth c s₁ X0 hx hby hml hown0 hnm hret hlk hZ e0
  have hown : s.vm.findClass "java/lang/StringUTF16" = some m.cls := hown0
  refine Wk.enter (g' := (mkF m 0 #[.val (.ref v), .val (.int i)] [])) (by first | rfl | (simp [entryFrame, mkF, argsToLocals, Value.category, maxLocals]; done) | (simp [entryFrame, mkF, argsToLocals, hcat]; done) | (simp [entryFrame, mkF, argsToLocals, hcat]; rfl)) ?_
  refine Wk.iloadN X0 hx (hb hby d24_0) rfl rfl ?_
  refine Wk.aloadN X0 hx (hb hby d24_1) rfl rfl rfl ?_
  refine Wk.callS (W := 0) X0 hx hZ (argsL := [(.int i), (.ref v)]) (rest := []) hown (hw _ (List.mem_of_getElem? (i := 110) rfl)) (hw _ (List.mem_of_getElem? (i := 111) rfl)) (hw _ (List.mem_of_getElem? (i := 56) rfl)) (hw _ (List.mem_of_getElem? (i := 112) rfl)) (by decide) (muk l Z a0 hw cs hcs fv hfv v kb z n us pre rem u hus i hi hcu hz hn h0 G A) e0 (by decide) (by decide) (by decide) (by decide) (by rw [hml]; rfl) (lenOf pd25 rfl) rfl (Nat.le_of_eq rfl) (hb hby d24_2) rfl (fun T1 v1 L1 X1 hq1 => ?_)
  obtain ⟨rfl, rfl, hh1⟩ := hq1
  rw [List.append_nil] at X1
  show Wk.Go p e below _ _ _ _ T1 (mkF m 5 #[.val (.ref v), .val (.int i)] [])
  refine Wk.aloadN X1 hx (hb hby d24_5) rfl rfl rfl ?_
  refine Wk.iloadN X1 hx (hb hby d24_6) rfl rfl ?_
  refine Wk.callP (W := 0) X1 hx hZ (argsL := [(.ref v), (.int i)]) (rest := []) hown (hw _ (List.mem_of_getElem? (i := 104) rfl)) (hw _ (List.mem_of_getElem? (i := 105) rfl)) (hw _ (List.mem_of_getElem? (i := 56) rfl)) (hw _ (List.mem_of_getElem? (i := 106) rfl)) (by decide) (mgc l Z a0 hw cs hcs fv hfv v kb z us pre rem u i hus hi hz hcu h0 G A) hh1 (by decide) (by decide) (by decide) (by decide) (by rw [hml]; rfl) (lenOf pd23 rfl) rfl (Nat.le_of_eq rfl) (hb hby d24_7) rfl (fun T2 X2 e2 => ?_)
  exact Wk.retC X2 hx hlk hret (hb hby d24_10) (narC u hcu.1 hcu.2) (Nat.zero_le _) (Nat.zero_le _) (Wk.pu e2)
set_option maxRecDepth 65536 in
set_option maxHeartbeats 40000000 in
theorem mch0 (l : Launch) (Z : State) (a0 : Array Value) (hw : ∀ d ∈ tables_1, d.before a0 Z = true) (cs : Int32) (hcs : ¬ cs.toInt = 0) (fv : Value) (hfv : fv.isRef = true) (a v : Addr) (kb : ClassId) (z : Int32) (us : List Int32) (hz : z.toInt = (us.length : Int)) (pre rem : List Int32) (u : Int32) (hus : us = pre ++ u :: rem) (i : Int32) (hi : i.toInt = (pre.length : Int)) (hcu : 0 ≤ u.toInt ∧ u.toInt ≤ 65535) (hle : ∀ u ∈ us, u.toInt ≤ 255) (h0 : Heap) (G : Sg Z h0 cs fv) (E : Exa Z h0 a "java/lang/String") (Fv : Fld Z h0 a "java/lang/String" "value" "[B" (.ref v)) (Fc : Fld Z h0 a "java/lang/String" "coder" "B" (.int 0)) (A : Arv Z h0 v kb .byte z (bl us) (.int 0)) : Wk.Met l Z (⟨"java/lang/String", "charAt", "(I)C"⟩ : MethodName) jdk_42_method_56_code 2 (some .char) [] { frames := 4, cells := 0, slots := 0, locals := 53 } #[(.ref a), (.int i)] h0 (Wk.Pu (.int u) h0) := by
  refine Wk.start pn14 ?_
  intro p e s m below meth c s₁ X0 hx hby hml hown0 hnm hret hlk hZ e0
  have hown : s.vm.findClass "java/lang/String" = some m.cls := hown0
  refine Wk.enter (g' := (mkF m 0 #[.val (.ref a), .val (.int i)] [])) (by first | rfl | (simp [entryFrame, mkF, argsToLocals, Value.category, maxLocals]; done) | (simp [entryFrame, mkF, argsToLocals, hcat]; done) | (simp [entryFrame, mkF, argsToLocals, hcat]; rfl)) ?_
  refine Wk.aloadN X0 hx (hb hby d14_0) rfl rfl rfl ?_
  refine Wk.callVP (W := 0) X0 hx hZ (argsL := []) (rest := []) hown (hw _ (List.mem_of_getElem? (i := 69) rfl)) (hw _ (List.mem_of_getElem? (i := 70) rfl)) (hw _ (List.mem_of_getElem? (i := 72) rfl)) (hw _ (List.mem_of_getElem? (i := 71) rfl)) (hw _ (List.mem_of_getElem? (i := 7) rfl)) (hw _ (List.mem_of_getElem? (i := 73) rfl)) (notFace_of_selects (args := #[]) (mvT hZ (hw _ (List.mem_of_getElem? (i := 72) rfl)))) (by decide) (mil0 l Z a0 hw cs hcs fv hfv a h0 G Fc) e0 E (by decide) (by decide) (by decide) (by decide) (by rw [hml]; rfl) (lenOf pd15 rfl) rfl (Nat.le_of_eq rfl) (hb hby d14_1) rfl (fun T1 X1 e1 => ?_)
  refine Wk.if_eq X1 hx 16 7 (hb hby d14_4) rfl rfl (show ((1 : Int32) : Int32).toInt = 1 from (by decide)) (fun h2 => absurd h2 (by omega)) (fun h2 => ?_)
  refine Wk.aloadN X1 hx (hb hby d14_7) rfl rfl rfl ?_
  refine Wk.getF (host := "") X1 hx hZ hown (Or.inl (hw _ (List.mem_of_getElem? (i := 24) rfl))) e1 Fv (hb hby d14_8) rfl (fun T3 X3 e3 => ?_)
  refine Wk.iloadN X3 hx (hb hby d14_11) rfl rfl ?_
  refine Wk.callP (W := 0) X3 hx hZ (argsL := [(.ref v), (.int i)]) (rest := []) hown (hw _ (List.mem_of_getElem? (i := 74) rfl)) (hw _ (List.mem_of_getElem? (i := 75) rfl)) (hw _ (List.mem_of_getElem? (i := 76) rfl)) (hw _ (List.mem_of_getElem? (i := 77) rfl)) (by decide) (mlc l Z a0 hw cs hcs fv hfv v kb z us pre rem u hus i hi hcu hz hle h0 G A) e3 (by decide) (by decide) (by decide) (by decide) (by rw [hml]; rfl) (lenOf pd16 rfl) rfl (Nat.le_of_eq rfl) (hb hby d14_12) rfl (fun T4 X4 e4 => ?_)
  exact Wk.retC X4 hx hlk hret (hb hby d14_15) (narC u hcu.1 hcu.2) (Nat.zero_le _) (Nat.zero_le _) (Wk.pu e4)
set_option maxRecDepth 65536 in
set_option maxHeartbeats 40000000 in
theorem mch1 (l : Launch) (Z : State) (a0 : Array Value) (hw : ∀ d ∈ tables_1, d.before a0 Z = true) (cs : Int32) (hcs : ¬ cs.toInt = 0) (fv : Value) (hfv : fv.isRef = true) (a v : Addr) (kb : ClassId) (z : Int32) (us : List Int32) (hz : z.toInt = 2 * (us.length : Int)) (pre rem : List Int32) (u : Int32) (hus : us = pre ++ u :: rem) (i : Int32) (hi : i.toInt = (pre.length : Int)) (hcu : 0 ≤ u.toInt ∧ u.toInt ≤ 65535) (n : Int32) (hn : n.toInt = (us.length : Int)) (h0 : Heap) (G : Sg Z h0 cs fv) (E : Exa Z h0 a "java/lang/String") (Fv : Fld Z h0 a "java/lang/String" "value" "[B" (.ref v)) (Fc : Fld Z h0 a "java/lang/String" "coder" "B" (.int 1)) (A : Arv Z h0 v kb .byte z (wl us) (.int 0)) : Wk.Met l Z (⟨"java/lang/String", "charAt", "(I)C"⟩ : MethodName) jdk_42_method_56_code 2 (some .char) [] { frames := 4, cells := 0, slots := 0, locals := 53 } #[(.ref a), (.int i)] h0 (Wk.Pu (.int u) h0) := by
  refine Wk.start pn14 ?_
  intro p e s m below meth c s₁ X0 hx hby hml hown0 hnm hret hlk hZ e0
  have hown : s.vm.findClass "java/lang/String" = some m.cls := hown0
  refine Wk.enter (g' := (mkF m 0 #[.val (.ref a), .val (.int i)] [])) (by first | rfl | (simp [entryFrame, mkF, argsToLocals, Value.category, maxLocals]; done) | (simp [entryFrame, mkF, argsToLocals, hcat]; done) | (simp [entryFrame, mkF, argsToLocals, hcat]; rfl)) ?_
  refine Wk.aloadN X0 hx (hb hby d14_0) rfl rfl rfl ?_
  refine Wk.callVP (W := 0) X0 hx hZ (argsL := []) (rest := []) hown (hw _ (List.mem_of_getElem? (i := 69) rfl)) (hw _ (List.mem_of_getElem? (i := 70) rfl)) (hw _ (List.mem_of_getElem? (i := 72) rfl)) (hw _ (List.mem_of_getElem? (i := 71) rfl)) (hw _ (List.mem_of_getElem? (i := 7) rfl)) (hw _ (List.mem_of_getElem? (i := 73) rfl)) (notFace_of_selects (args := #[]) (mvT hZ (hw _ (List.mem_of_getElem? (i := 72) rfl)))) (by decide) (mil1 l Z a0 hw cs hcs fv hfv a h0 G Fc) e0 E (by decide) (by decide) (by decide) (by decide) (by rw [hml]; rfl) (lenOf pd15 rfl) rfl (Nat.le_of_eq rfl) (hb hby d14_1) rfl (fun T1 X1 e1 => ?_)
  refine Wk.if_eq X1 hx 16 7 (hb hby d14_4) rfl rfl (show ((0 : Int32) : Int32).toInt = 0 from (by decide)) (fun h2 => ?_) (fun h2 => absurd h2 (by omega))
  refine Wk.aloadN X1 hx (hb hby d14_16) rfl rfl rfl ?_
  refine Wk.getF (host := "") X1 hx hZ hown (Or.inl (hw _ (List.mem_of_getElem? (i := 24) rfl))) e1 Fv (hb hby d14_17) rfl (fun T3 X3 e3 => ?_)
  refine Wk.iloadN X3 hx (hb hby d14_20) rfl rfl ?_
  refine Wk.callP (W := 0) X3 hx hZ (argsL := [(.ref v), (.int i)]) (rest := []) hown (hw _ (List.mem_of_getElem? (i := 107) rfl)) (hw _ (List.mem_of_getElem? (i := 108) rfl)) (hw _ (List.mem_of_getElem? (i := 56) rfl)) (hw _ (List.mem_of_getElem? (i := 109) rfl)) (by decide) (muc l Z a0 hw cs hcs fv hfv v kb z n us pre rem u hus i hi hcu hz hn h0 G A) e3 (by decide) (by decide) (by decide) (by decide) (by rw [hml]; rfl) (lenOf pd24 rfl) rfl (Nat.le_of_eq rfl) (hb hby d14_21) rfl (fun T4 X4 e4 => ?_)
  exact Wk.retC X4 hx hlk hret (hb hby d14_24) (narC u hcu.1 hcu.2) (Nat.zero_le _) (Nat.zero_le _) (Wk.pu e4)
theorem mch (l : Launch) (Z : State) (a0 : Array Value) (hw : ∀ d ∈ tables_1, d.before a0 Z = true) (cs : Int32) (hcs : ¬ cs.toInt = 0) (fv : Value) (hfv : fv.isRef = true) (a : Addr) (us : List Int32) (pre rem : List Int32) (u : Int32) (hus : us = pre ++ u :: rem) (i : Int32) (hi : i.toInt = (pre.length : Int)) (hcu : 0 ≤ u.toInt ∧ u.toInt ≤ 65535) (n : Int32) (hn : n.toInt = (us.length : Int)) (h0 : Heap) (S : Sv Z h0 a us) (G : Sg Z h0 cs fv) : Wk.Met l Z (⟨"java/lang/String", "charAt", "(I)C"⟩ : MethodName) jdk_42_method_56_code 2 (some .char) [] { frames := 4, cells := 0, slots := 0, locals := 53 } #[(.ref a), (.int i)] h0 (Wk.Pu (.int u) h0) := by
  obtain ⟨hch, E, v, kb, z, Fv, h⟩ := S
  rcases h with ⟨Fc, hz, hle, A⟩ | ⟨Fc, hz, A⟩
  · exact mch0 l Z a0 hw cs hcs fv hfv a v kb z us hz pre rem u hus i hi hcu hle h0 G E Fv Fc A
  · exact mch1 l Z a0 hw cs hcs fv hfv a v kb z us hz pre rem u hus i hi hcu n hn h0 G E Fv Fc A
def fl : List (Int32 × Option Int32) → List Int32
  | [] => []
  | (u, none) :: r => u :: fl r
  | (u, some y) :: r => u :: y :: fl r
theorem fl_app : ∀ (x y : List (Int32 × Option Int32)), fl (x ++ y) = fl x ++ fl y
  | [], y => rfl
  | (u, none) :: r, y => congrArg (u :: ·) (fl_app r y)
  | (u, some v) :: r, y => congrArg (fun z => u :: v :: z) (fl_app r y)
def Okc : Int32 × Option Int32 → Prop
  | (u, none) => 0 ≤ u.toInt ∧ u.toInt ≤ 65535 ∧ ¬ (55296 ≤ u.toInt ∧ u.toInt ≤ 57343)
  | (u, some y) => (55296 ≤ u.toInt ∧ u.toInt < 56320) ∧ (56320 ≤ y.toInt ∧ y.toInt < 57344)
def Wc (ch : List (Int32 × Option Int32)) : Prop := ∀ c ∈ ch, Okc c
theorem Wc.nil : Wc [] := fun _ q => nomatch q
theorem Wc.cons {c : Int32 × Option Int32} {ch : List (Int32 × Option Int32)} (h : Okc c) (W : Wc ch) : Wc (c :: ch) := fun x q => (List.mem_cons.mp q).elim (fun e => e ▸ h) (W x)
theorem ch_fl : ∀ (ch : List (Int32 × Option Int32)), Wc ch → Ch (fl ch)
  | [], _ => fun _ q => nomatch q
  | (u, none) :: r, W => fun x q => by
    have h : 0 ≤ u.toInt ∧ u.toInt ≤ 65535 ∧ _ := W _ (List.mem_cons_self ..)
    have q : x ∈ u :: fl r := q
    rcases List.mem_cons.mp q with rfl | q
    · exact ⟨h.1, h.2.1⟩
    · exact ch_fl r (fun c z => W c (List.mem_cons_of_mem _ z)) x q
  | (u, some y) :: r, W => fun x q => by
    have h : (55296 ≤ u.toInt ∧ u.toInt < 56320) ∧ (56320 ≤ y.toInt ∧ y.toInt < 57344) := W _ (List.mem_cons_self ..)
    have q : x ∈ u :: y :: fl r := q
    rcases List.mem_cons.mp q with rfl | q
    · omega
    · rcases List.mem_cons.mp q with rfl | q
      · omega
      · exact ch_fl r (fun c z => W c (List.mem_cons_of_mem _ z)) x q
def w64 : Int32 × Option Int32 → Int64
  | (u, none) => if u.toInt < 128 then 1 else if u.toInt < 2048 then 2 else 3
  | (_, some _) => 4
theorem w64_1 {u : Int32} (h : u.toInt < 128) : w64 (u, none) = 1 := if_pos h
theorem w64_2 {u : Int32} (h1 : ¬ u.toInt < 128) (h2 : u.toInt < 2048) : w64 (u, none) = 2 := by show (if _ then _ else _) = _; rw [if_neg h1, if_pos h2]
theorem w64_3 {u : Int32} (h1 : ¬ u.toInt < 128) (h2 : ¬ u.toInt < 2048) : w64 (u, none) = 3 := by show (if _ then _ else _) = _; rw [if_neg h1, if_neg h2]
abbrev sur (x : Int32) : Prop := 55296 ≤ (x &&& (65535 : Int32)).toInt ∧ (x &&& (65535 : Int32)).toInt ≤ 57343
def hiX (x : Int32) : Int32 := (55296 : Int32) ||| ((x &&& (65535 : Int32)) &&& (1023 : Int32))
def loX (x : Int32) : Int32 := (56320 : Int32) ||| (XT.ushr x (16 : Int32) &&& (1023 : Int32))
def ckx (x : Int32) : Int32 × Option Int32 := if sur x then (hiX x, some (loX x)) else (x &&& (65535 : Int32), none)
theorem ckx_t {x : Int32} (h : sur x) : ckx x = (hiX x, some (loX x)) := if_pos h
theorem ckx_f {x : Int32} (h : ¬ sur x) : ckx x = (x &&& (65535 : Int32), none) := if_neg h
theorem sx_t (x : Int32) : 0 ≤ (x &&& (65535 : Int32)).toInt ∧ (x &&& (65535 : Int32)).toInt ≤ 65535 := by
  have := c_mask x (65535 : Int32) 16 (by decide) (by decide); omega
theorem hiX_t (x : Int32) : 55296 ≤ (hiX x).toInt ∧ (hiX x).toInt < 56320 := by
  unfold hiX
  have a := c_mask (x &&& (65535 : Int32)) (1023 : Int32) 10 (by decide) (by decide)
  generalize (x &&& (65535 : Int32)) &&& (1023 : Int32) = y at a ⊢
  have e : (55296 : Int32).toInt = 55296 := by decide
  have o := c_or (55296 : Int32) y 10 (by decide) 1024 (by decide) (by decide) (by omega) (by omega)
  have g1 := ((55296 : Int32) ||| y).toInt_lt
  have g2 := ((55296 : Int32) ||| y).le_toInt
  omega
theorem loX_t (x : Int32) : 56320 ≤ (loX x).toInt ∧ (loX x).toInt < 57344 := by
  unfold loX
  have a := c_mask (XT.ushr x (16 : Int32)) (1023 : Int32) 10 (by decide) (by decide)
  generalize XT.ushr x (16 : Int32) &&& (1023 : Int32) = y at a ⊢
  have e : (56320 : Int32).toInt = 56320 := by decide
  have o := c_or (56320 : Int32) y 10 (by decide) 1024 (by decide) (by decide) (by omega) (by omega)
  have g1 := ((56320 : Int32) ||| y).toInt_lt
  have g2 := ((56320 : Int32) ||| y).le_toInt
  omega
theorem ckx_ok (x : Int32) : Okc (ckx x) := by
  by_cases h : sur x
  · rw [ckx_t h]; exact ⟨hiX_t x, loX_t x⟩
  · rw [ckx_f h]; exact ⟨(sx_t x).1, (sx_t x).2, h⟩
theorem ckx_len (x : Int32) : (fl [ckx x]).length ≤ 2 := by
  by_cases h : sur x
  · rw [ckx_t h]; exact Nat.le_refl 2
  · rw [ckx_f h]; exact Nat.le_succ 1
theorem narCE (u : Int32) (h0 : 0 ≤ u.toInt) (h1 : u.toInt ≤ 65535) : nar .char u = u := i2cE u h0 h1
theorem cl_set {us : List Int32} {r : Nat} {u : Int32} {i : Nat} (hi : i = us.length) : (cl us ++ List.replicate (r + 1) (Value.int 0)).set i (.int u) = cl (us ++ [u]) ++ List.replicate r (.int 0) := by
  subst hi
  rw [List.replicate_succ, show us.length = (cl us).length from by simp [cl], List.set_append_right _ _ (Nat.le_refl _)]
  simp [cl]
def tot (ch : List (Int32 × Option Int32)) (acc : Int64) : Int64 := ch.foldl (fun a c => a + w64 c) acc
theorem eq_II {args : Array Value} {first s : State} {o : Option Outcome} {idx : List Nat} {a b' : Term} {x y : Int32} (ha : a.eval args first o idx s = some (.int x)) (hb : b'.eval args first o idx s = some (.int y)) : (Jvm.Cond.eq a b').value args first o s idx = some (decide (x = y)) := by simp [Cond.value, ha, hb]
set_option maxRecDepth 65536 in
set_option maxHeartbeats 40000000 in
theorem mhs (l : Launch) (Z : State) (a0 : Array Value) (hw : ∀ d ∈ tables_1, d.before a0 Z = true) (u : Int32) (h0 : Heap)  : Wk.Met l Z (⟨"java/lang/Character", "isHighSurrogate", "(C)Z"⟩ : MethodName) jdk_89_method_14_code 1 (some .boolean) [] { frames := 0, cells := 0, slots := 0, locals := 0 } #[(.int u)] h0 (Wk.Pu (.int (Wk.b (55296 ≤ u.toInt ∧ u.toInt < 56320))) h0) := by
  refine Wk.start pn28 ?_
  intro p e s m below meth c s₁ X0 hx hby hml hown0 hnm hret hlk hZ e0
  have hown : s.vm.findClass "java/lang/Character" = some m.cls := hown0
  refine Wk.enter (g' := (mkF m 0 #[.val (.int u)] [])) (by first | rfl | (simp [entryFrame, mkF, argsToLocals, Value.category, maxLocals]; done) | (simp [entryFrame, mkF, argsToLocals, hcat]; done) | (simp [entryFrame, mkF, argsToLocals, hcat]; rfl)) ?_
  refine Wk.iloadN X0 hx (hb hby d28_0) rfl rfl ?_
  refine Wk.ldcI X0 hx hZ hown (hw _ (List.mem_of_getElem? (i := 121) rfl)) (hb hby d28_1) rfl ?_
  refine Wk.icmp_lt X0 hx 16 6 (hb hby d28_3) rfl rfl (show (u : Int32).toInt = (u).toInt from rfl) (show ((55296 : Int32) : Int32).toInt = 55296 from (by decide)) (fun h1 => ?_) (fun h1 => ?_)
  · skip
    refine Wk.iconst X0 hx (0 : Int32) (hb hby d28_16) rfl rfl ?_
    exact Wk.retZ X0 hx hlk hret (hb hby d28_17) (by decide) (Nat.zero_le _) (Nat.zero_le _) (Wk.puB0 (by omega) e0)
  · skip
    refine Wk.iloadN X0 hx (hb hby d28_6) rfl rfl ?_
    refine Wk.ldcI X0 hx hZ hown (hw _ (List.mem_of_getElem? (i := 130) rfl)) (hb hby d28_7) rfl ?_
    refine Wk.icmp_ge X0 hx 16 12 (hb hby d28_9) rfl rfl (show (u : Int32).toInt = (u).toInt from rfl) (show ((56320 : Int32) : Int32).toInt = 56320 from (by decide)) (fun h2 => ?_) (fun h2 => ?_)
    · skip
      refine Wk.iconst X0 hx (0 : Int32) (hb hby d28_16) rfl rfl ?_
      exact Wk.retZ X0 hx hlk hret (hb hby d28_17) (by decide) (Nat.zero_le _) (Nat.zero_le _) (Wk.puB0 (by omega) e0)
    · skip
      refine Wk.iconst X0 hx (1 : Int32) (hb hby d28_12) rfl rfl ?_
      refine Wk.goto X0 hx 17 (hb hby d28_13) rfl ?_
      exact Wk.retZ X0 hx hlk hret (hb hby d28_17) (by decide) (Nat.zero_le _) (Nat.zero_le _) (Wk.puB1 (by omega) e0)
set_option maxRecDepth 65536 in
set_option maxHeartbeats 40000000 in
theorem mls (l : Launch) (Z : State) (a0 : Array Value) (hw : ∀ d ∈ tables_1, d.before a0 Z = true) (u : Int32) (h0 : Heap)  : Wk.Met l Z (⟨"java/lang/Character", "isLowSurrogate", "(C)Z"⟩ : MethodName) jdk_89_method_15_code 1 (some .boolean) [] { frames := 0, cells := 0, slots := 0, locals := 0 } #[(.int u)] h0 (Wk.Pu (.int (Wk.b (56320 ≤ u.toInt ∧ u.toInt < 57344))) h0) := by
  refine Wk.start pn29 ?_
  intro p e s m below meth c s₁ X0 hx hby hml hown0 hnm hret hlk hZ e0
  have hown : s.vm.findClass "java/lang/Character" = some m.cls := hown0
  refine Wk.enter (g' := (mkF m 0 #[.val (.int u)] [])) (by first | rfl | (simp [entryFrame, mkF, argsToLocals, Value.category, maxLocals]; done) | (simp [entryFrame, mkF, argsToLocals, hcat]; done) | (simp [entryFrame, mkF, argsToLocals, hcat]; rfl)) ?_
  refine Wk.iloadN X0 hx (hb hby d29_0) rfl rfl ?_
  refine Wk.ldcI X0 hx hZ hown (hw _ (List.mem_of_getElem? (i := 130) rfl)) (hb hby d29_1) rfl ?_
  refine Wk.icmp_lt X0 hx 16 6 (hb hby d29_3) rfl rfl (show (u : Int32).toInt = (u).toInt from rfl) (show ((56320 : Int32) : Int32).toInt = 56320 from (by decide)) (fun h1 => ?_) (fun h1 => ?_)
  · skip
    refine Wk.iconst X0 hx (0 : Int32) (hb hby d29_16) rfl rfl ?_
    exact Wk.retZ X0 hx hlk hret (hb hby d29_17) (by decide) (Nat.zero_le _) (Nat.zero_le _) (Wk.puB0 (by omega) e0)
  · skip
    refine Wk.iloadN X0 hx (hb hby d29_6) rfl rfl ?_
    refine Wk.ldcI X0 hx hZ hown (hw _ (List.mem_of_getElem? (i := 124) rfl)) (hb hby d29_7) rfl ?_
    refine Wk.icmp_ge X0 hx 16 12 (hb hby d29_9) rfl rfl (show (u : Int32).toInt = (u).toInt from rfl) (show ((57344 : Int32) : Int32).toInt = 57344 from (by decide)) (fun h2 => ?_) (fun h2 => ?_)
    · skip
      refine Wk.iconst X0 hx (0 : Int32) (hb hby d29_16) rfl rfl ?_
      exact Wk.retZ X0 hx hlk hret (hb hby d29_17) (by decide) (Nat.zero_le _) (Nat.zero_le _) (Wk.puB0 (by omega) e0)
    · skip
      refine Wk.iconst X0 hx (1 : Int32) (hb hby d29_12) rfl rfl ?_
      refine Wk.goto X0 hx 17 (hb hby d29_13) rfl ?_
      exact Wk.retZ X0 hx hlk hret (hb hby d29_17) (by decide) (Nat.zero_le _) (Nat.zero_le _) (Wk.puB1 (by omega) e0)
set_option maxRecDepth 65536 in
set_option maxHeartbeats 40000000 in
theorem mis (l : Launch) (Z : State) (a0 : Array Value) (hw : ∀ d ∈ tables_1, d.before a0 Z = true) (u : Int32) (h0 : Heap)  : Wk.Met l Z (⟨"java/lang/Character", "isSurrogate", "(C)Z"⟩ : MethodName) jdk_89_method_16_code 1 (some .boolean) [] { frames := 0, cells := 0, slots := 0, locals := 0 } #[(.int u)] h0 (Wk.Pu (.int (Wk.b (55296 ≤ u.toInt ∧ u.toInt < 57344))) h0) := by
  refine Wk.start pn27 ?_
  intro p e s m below meth c s₁ X0 hx hby hml hown0 hnm hret hlk hZ e0
  have hown : s.vm.findClass "java/lang/Character" = some m.cls := hown0
  refine Wk.enter (g' := (mkF m 0 #[.val (.int u)] [])) (by first | rfl | (simp [entryFrame, mkF, argsToLocals, Value.category, maxLocals]; done) | (simp [entryFrame, mkF, argsToLocals, hcat]; done) | (simp [entryFrame, mkF, argsToLocals, hcat]; rfl)) ?_
  refine Wk.iloadN X0 hx (hb hby d27_0) rfl rfl ?_
  refine Wk.ldcI X0 hx hZ hown (hw _ (List.mem_of_getElem? (i := 121) rfl)) (hb hby d27_1) rfl ?_
  refine Wk.icmp_lt X0 hx 16 6 (hb hby d27_3) rfl rfl (show (u : Int32).toInt = (u).toInt from rfl) (show ((55296 : Int32) : Int32).toInt = 55296 from (by decide)) (fun h1 => ?_) (fun h1 => ?_)
  · skip
    refine Wk.iconst X0 hx (0 : Int32) (hb hby d27_16) rfl rfl ?_
    exact Wk.retZ X0 hx hlk hret (hb hby d27_17) (by decide) (Nat.zero_le _) (Nat.zero_le _) (Wk.puB0 (by omega) e0)
  · skip
    refine Wk.iloadN X0 hx (hb hby d27_6) rfl rfl ?_
    refine Wk.ldcI X0 hx hZ hown (hw _ (List.mem_of_getElem? (i := 124) rfl)) (hb hby d27_7) rfl ?_
    refine Wk.icmp_ge X0 hx 16 12 (hb hby d27_9) rfl rfl (show (u : Int32).toInt = (u).toInt from rfl) (show ((57344 : Int32) : Int32).toInt = 57344 from (by decide)) (fun h2 => ?_) (fun h2 => ?_)
    · skip
      refine Wk.iconst X0 hx (0 : Int32) (hb hby d27_16) rfl rfl ?_
      exact Wk.retZ X0 hx hlk hret (hb hby d27_17) (by decide) (Nat.zero_le _) (Nat.zero_le _) (Wk.puB0 (by omega) e0)
    · skip
      refine Wk.iconst X0 hx (1 : Int32) (hb hby d27_12) rfl rfl ?_
      refine Wk.goto X0 hx 17 (hb hby d27_13) rfl ?_
      exact Wk.retZ X0 hx hlk hret (hb hby d27_17) (by decide) (Nat.zero_le _) (Nat.zero_le _) (Wk.puB1 (by omega) e0)
set_option maxRecDepth 65536 in
set_option maxHeartbeats 40000000 in
theorem u8loop {l : Launch} {Z : State} (a0 : Array Value) (hw : ∀ d ∈ tables_1, d.before a0 Z = true) {p : Program} {e : Env} {s : State} {m : MethodId} {args : Array Value} {below : List Frame} {meth : Method} {c : Code} (hx : p.tables.exec = Jvm.exec) (hby : c.code = prog_44_method_2_code) (hml : c.maxLocals = 7) (hown : s.vm.findClass "com/example/rillet/rillet/transport/Utf8" = some m.cls) (hret : meth.sig.returnType = some .long) (hlk : meth.locks = false) (hZ : Z.Warmed39 s.vm) (h0 : Heap) (cs : Int32) (hcs : ¬ cs.toInt = 0) (fv : Value) (hfv : fv.isRef = true) (a tx : Addr) (us : List Int32) (n : Int32) (hn : n.toInt = (us.length : Int)) (Sa : Sv Z h0 a us) (G : Sg Z h0 cs fv) (res : Int64) :
    ∀ (rem : List (Int32 × Option Int32)) (pre : List Int32) (acc : Int64) (i : Int32) (sl5 sl6 : Slot) (T : State), Wc rem → (∀ u : Int32, storeLocals #[.val (.ref a), .val (.ref tx), .val (.long acc), .second, .val (.int i), sl5, sl6] 5 (.int u) = some #[.val (.ref a), .val (.ref tx), .val (.long acc), .second, .val (.int i), .val (.int u), sl6]) → (∀ u v : Int32, storeLocals #[.val (.ref a), .val (.ref tx), .val (.long acc), .second, .val (.int i), .val (.int u), sl6] 6 (.int v) = some #[.val (.ref a), .val (.ref tx), .val (.long acc), .second, .val (.int i), .val (.int u), .val (.int v)]) → us = pre ++ fl rem → i.toInt = (pre.length : Int) → tot rem acc = res → Stand p l e { frames := 5, cells := 0, slots := 0, locals := 66 } s m args below meth c T [] 0 0 → T.heap = h0 → Wk.Go p e below (FrameEnd s) (Wk.Pu (.long res) h0) 0 0 T (mkF m 5 #[.val (.ref a), .val (.ref tx), .val (.long acc), .second, .val (.int i), sl5, sl6] [])
  | [], pre, acc, i, sl5, sl6, T, hok, hs5, hs6, hus, hi, hres, X0, e0 => by
    have hl : us.length = pre.length := by rw [hus]; simp [fl]
    refine Wk.iload X0 hx (hb hby d5_5) rfl rfl ?_
    refine Wk.aloadN X0 hx (hb hby d5_7) rfl rfl rfl ?_
    refine Wk.callVP (W := 1) X0 hx hZ (argsL := []) (rest := [(.int i)]) hown (hw _ (List.mem_of_getElem? (i := 31) rfl)) (hw _ (List.mem_of_getElem? (i := 32) rfl)) (hw _ (List.mem_of_getElem? (i := 34) rfl)) (hw _ (List.mem_of_getElem? (i := 33) rfl)) (hw _ (List.mem_of_getElem? (i := 7) rfl)) (hw _ (List.mem_of_getElem? (i := 35) rfl)) (notFace_of_selects (args := #[]) (mvT hZ (hw _ (List.mem_of_getElem? (i := 34) rfl)))) (by decide) (mlen l Z a0 hw cs hcs fv hfv a us n hn h0 Sa G) e0 Sa.2.1 (by decide) (by decide) (by decide) (by decide) (by rw [hml]; rfl) (lenOf pd6 rfl) rfl (Nat.le_of_eq rfl) (hb hby d5_8) rfl (fun T1 X1 e1 => ?_)
    refine Wk.icmp_ge X1 hx 145 14 (hb hby d5_11) rfl rfl (show (i : Int32).toInt = (i).toInt from rfl) (show (n : Int32).toInt = (n).toInt from rfl) (fun h2 => ?_) (fun h2 => absurd h2 (by omega))
    refine Wk.lloadN X1 hx (hb hby d5_145) rfl rfl ?_
    exact Wk.retL X1 hx hlk hret (hb hby d5_146) (Nat.zero_le _) (Nat.zero_le _) (Wk.puE (by rw [← hres]; rfl) e1)
  | (u, none) :: rem, pre, acc, i, sl5, sl6, T, hok, hs5, hs6, hus, hi, hres, X0, e0 => by
    have hus : us = pre ++ u :: fl rem := hus
    have hok1 : 0 ≤ u.toInt ∧ u.toInt ≤ 65535 ∧ ¬ (55296 ≤ u.toInt ∧ u.toInt ≤ 57343) := hok _ (List.mem_cons_self ..)
    obtain ⟨hu0, hu1, hu⟩ := hok1
    have hcu : 0 ≤ u.toInt ∧ u.toInt ≤ 65535 := ⟨hu0, hu1⟩
    have hl : us.length = pre.length + ((fl rem).length + 1) := by rw [hus]; simp
    have hnl := n.toInt_lt
    have hi1 : (i + 1).toInt = i.toInt + 1 := by have := c_iadd i 1; have h1 := (i + 1).toInt_lt; have h2 := (i + 1).le_toInt; have : (1 : Int32).toInt = 1 := rfl; omega
    refine Wk.iload X0 hx (hb hby d5_5) rfl rfl ?_
    refine Wk.aloadN X0 hx (hb hby d5_7) rfl rfl rfl ?_
    refine Wk.callVP (W := 1) X0 hx hZ (argsL := []) (rest := [(.int i)]) hown (hw _ (List.mem_of_getElem? (i := 31) rfl)) (hw _ (List.mem_of_getElem? (i := 32) rfl)) (hw _ (List.mem_of_getElem? (i := 34) rfl)) (hw _ (List.mem_of_getElem? (i := 33) rfl)) (hw _ (List.mem_of_getElem? (i := 7) rfl)) (hw _ (List.mem_of_getElem? (i := 35) rfl)) (notFace_of_selects (args := #[]) (mvT hZ (hw _ (List.mem_of_getElem? (i := 34) rfl)))) (by decide) (mlen l Z a0 hw cs hcs fv hfv a us n hn h0 Sa G) e0 Sa.2.1 (by decide) (by decide) (by decide) (by decide) (by rw [hml]; rfl) (lenOf pd6 rfl) rfl (Nat.le_of_eq rfl) (hb hby d5_8) rfl (fun T1 X1 e1 => ?_)
    refine Wk.icmp_ge X1 hx 145 14 (hb hby d5_11) rfl rfl (show (i : Int32).toInt = (i).toInt from rfl) (show (n : Int32).toInt = (n).toInt from rfl) (fun h2 => absurd h2 (by omega)) (fun h2 => ?_)
    refine Wk.aloadN X1 hx (hb hby d5_14) rfl rfl rfl ?_
    refine Wk.iload X1 hx (hb hby d5_15) rfl rfl ?_
    refine Wk.callVP (W := 0) X1 hx hZ (argsL := [(.int i)]) (rest := []) hown (hw _ (List.mem_of_getElem? (i := 64) rfl)) (hw _ (List.mem_of_getElem? (i := 65) rfl)) (hw _ (List.mem_of_getElem? (i := 67) rfl)) (hw _ (List.mem_of_getElem? (i := 66) rfl)) (hw _ (List.mem_of_getElem? (i := 7) rfl)) (hw _ (List.mem_of_getElem? (i := 68) rfl)) (notFace_of_selects (args := #[]) (mvT hZ (hw _ (List.mem_of_getElem? (i := 67) rfl)))) (by decide) (mch l Z a0 hw cs hcs fv hfv a us pre (fl rem) u hus i hi hcu n hn h0 Sa G) e1 Sa.2.1 (by decide) (by decide) (by decide) (by decide) (by rw [hml]; rfl) (lenOf pd14 rfl) rfl (Nat.le_of_eq rfl) (hb hby d5_17) rfl (fun T3 X3 e3 => ?_)
    refine Wk.istore (l' := #[.val (.ref a), .val (.ref tx), .val (.long acc), .second, .val (.int i), .val (.int u), sl6]) X3 hx (hb hby d5_20) (hs5 u) rfl ?_
    refine Wk.iconst X3 hx (1 : Int32) (hb hby d5_22) rfl rfl ?_
    refine Wk.istore (l' := #[.val (.ref a), .val (.ref tx), .val (.long acc), .second, .val (.int i), .val (.int u), .val (.int (1 : Int32))]) X3 hx (hb hby d5_23) (hs6 u (1 : Int32)) rfl ?_
    refine Wk.iload X3 hx (hb hby d5_25) rfl rfl ?_
    refine Wk.sipush X3 hx (128 : Int32) (hb hby d5_27) rfl rfl ?_
    refine Wk.icmp_ge X3 hx 40 33 (hb hby d5_30) rfl rfl (show (u : Int32).toInt = (u).toInt from rfl) (show ((128 : Int32) : Int32).toInt = 128 from (by decide)) (fun h4 => ?_) (fun h4 => ?_)
    · skip
      refine Wk.iload X3 hx (hb hby d5_40) rfl rfl ?_
      refine Wk.sipush X3 hx (2048 : Int32) (hb hby d5_42) rfl rfl ?_
      refine Wk.icmp_ge X3 hx 57 48 (hb hby d5_45) rfl rfl (show (u : Int32).toInt = (u).toInt from rfl) (show ((2048 : Int32) : Int32).toInt = 2048 from (by decide)) (fun h5 => ?_) (fun h5 => ?_)
      · skip
        refine Wk.iload X3 hx (hb hby d5_57) rfl rfl ?_
        refine Wk.callP (W := 0) X3 hx hZ (argsL := [(.int u)]) (rest := []) hown (hw _ (List.mem_of_getElem? (i := 117) rfl)) (hw _ (List.mem_of_getElem? (i := 118) rfl)) (hw _ (List.mem_of_getElem? (i := 119) rfl)) (hw _ (List.mem_of_getElem? (i := 120) rfl)) (by decide) (mis l Z a0 hw u h0) e3 (by decide) (by decide) (by decide) (by decide) (by rw [hml]; rfl) (lenOf pd27 rfl) rfl (Nat.le_of_eq rfl) (hb hby d5_59) rfl (fun T6 X6 e6 => ?_)
        refine Wk.if_neB X6 hx 74 65 (hb hby d5_62) rfl rfl (fun h7 => absurd h7 (by omega)) (fun h7 => ?_)
        refine Wk.lloadN X6 hx (hb hby d5_65) rfl rfl ?_
        refine Wk.ldcJ X6 hx hZ hown (hw _ (List.mem_of_getElem? (i := 122) rfl)) (hb hby d5_66) rfl ?_
        refine Wk.ladd X6 hx (hb hby d5_69) rfl ?_
        refine Wk.lstoreN (l' := #[.val (.ref a), .val (.ref tx), .val (.long (acc + (3 : Int64))), .second, .val (.int i), .val (.int u), .val (.int (1 : Int32))]) X6 hx (hb hby d5_70) rfl rfl ?_
        refine Wk.goto X6 hx 135 (hb hby d5_71) rfl ?_
        refine Wk.iload X6 hx (hb hby d5_135) rfl rfl ?_
        refine Wk.iload X6 hx (hb hby d5_137) rfl rfl ?_
        refine Wk.iadd X6 hx (hb hby d5_139) rfl ?_
        refine Wk.istore (l' := #[.val (.ref a), .val (.ref tx), .val (.long (acc + (3 : Int64))), .second, .val (.int (i + (1 : Int32))), .val (.int u), .val (.int (1 : Int32))]) X6 hx (hb hby d5_140) rfl rfl ?_
        refine Wk.goto X6 hx 5 (hb hby d5_142) rfl ?_
        exact u8loop a0 hw hx hby hml hown hret hlk hZ h0 cs hcs fv hfv a tx us n hn Sa G res rem (pre ++ [u]) (acc + (3 : Int64)) (i + (1 : Int32)) (.val (.int u)) (.val (.int (1 : Int32))) T6 (fun c z => hok c (List.mem_cons_of_mem _ z)) (fun _ => rfl) (fun _ _ => rfl) (by rw [hus]; simp) (by rw [hi1, hi, List.length_append]; rfl) (by rw [← hres]; show tot rem (acc + _) = tot rem (acc + w64 _); rw [w64_3 (by omega) (by omega)]) X6 e6
      · skip
        refine Wk.lloadN X3 hx (hb hby d5_48) rfl rfl ?_
        refine Wk.ldcJ X3 hx hZ hown (hw _ (List.mem_of_getElem? (i := 86) rfl)) (hb hby d5_49) rfl ?_
        refine Wk.ladd X3 hx (hb hby d5_52) rfl ?_
        refine Wk.lstoreN (l' := #[.val (.ref a), .val (.ref tx), .val (.long (acc + (2 : Int64))), .second, .val (.int i), .val (.int u), .val (.int (1 : Int32))]) X3 hx (hb hby d5_53) rfl rfl ?_
        refine Wk.goto X3 hx 135 (hb hby d5_54) rfl ?_
        refine Wk.iload X3 hx (hb hby d5_135) rfl rfl ?_
        refine Wk.iload X3 hx (hb hby d5_137) rfl rfl ?_
        refine Wk.iadd X3 hx (hb hby d5_139) rfl ?_
        refine Wk.istore (l' := #[.val (.ref a), .val (.ref tx), .val (.long (acc + (2 : Int64))), .second, .val (.int (i + (1 : Int32))), .val (.int u), .val (.int (1 : Int32))]) X3 hx (hb hby d5_140) rfl rfl ?_
        refine Wk.goto X3 hx 5 (hb hby d5_142) rfl ?_
        exact u8loop a0 hw hx hby hml hown hret hlk hZ h0 cs hcs fv hfv a tx us n hn Sa G res rem (pre ++ [u]) (acc + (2 : Int64)) (i + (1 : Int32)) (.val (.int u)) (.val (.int (1 : Int32))) T3 (fun c z => hok c (List.mem_cons_of_mem _ z)) (fun _ => rfl) (fun _ _ => rfl) (by rw [hus]; simp) (by rw [hi1, hi, List.length_append]; rfl) (by rw [← hres]; show tot rem (acc + _) = tot rem (acc + w64 _); rw [w64_2 (by omega) (by omega)]) X3 e3
    · skip
      refine Wk.lloadN X3 hx (hb hby d5_33) rfl rfl ?_
      refine Wk.lconst X3 hx (1 : Int64) (hb hby d5_34) rfl rfl ?_
      refine Wk.ladd X3 hx (hb hby d5_35) rfl ?_
      refine Wk.lstoreN (l' := #[.val (.ref a), .val (.ref tx), .val (.long (acc + (1 : Int64))), .second, .val (.int i), .val (.int u), .val (.int (1 : Int32))]) X3 hx (hb hby d5_36) rfl rfl ?_
      refine Wk.goto X3 hx 135 (hb hby d5_37) rfl ?_
      refine Wk.iload X3 hx (hb hby d5_135) rfl rfl ?_
      refine Wk.iload X3 hx (hb hby d5_137) rfl rfl ?_
      refine Wk.iadd X3 hx (hb hby d5_139) rfl ?_
      refine Wk.istore (l' := #[.val (.ref a), .val (.ref tx), .val (.long (acc + (1 : Int64))), .second, .val (.int (i + (1 : Int32))), .val (.int u), .val (.int (1 : Int32))]) X3 hx (hb hby d5_140) rfl rfl ?_
      refine Wk.goto X3 hx 5 (hb hby d5_142) rfl ?_
      exact u8loop a0 hw hx hby hml hown hret hlk hZ h0 cs hcs fv hfv a tx us n hn Sa G res rem (pre ++ [u]) (acc + (1 : Int64)) (i + (1 : Int32)) (.val (.int u)) (.val (.int (1 : Int32))) T3 (fun c z => hok c (List.mem_cons_of_mem _ z)) (fun _ => rfl) (fun _ _ => rfl) (by rw [hus]; simp) (by rw [hi1, hi, List.length_append]; rfl) (by rw [← hres]; show tot rem (acc + _) = tot rem (acc + w64 _); rw [w64_1 (by omega)]) X3 e3
  | (u, some y) :: rem, pre, acc, i, sl5, sl6, T, hok, hs5, hs6, hus, hi, hres, X0, e0 => by
    have hus : us = pre ++ u :: y :: fl rem := hus
    have hok1 : (55296 ≤ u.toInt ∧ u.toInt < 56320) ∧ (56320 ≤ y.toInt ∧ y.toInt < 57344) := hok _ (List.mem_cons_self ..)
    obtain ⟨hu, hy⟩ := hok1
    have hcu : 0 ≤ u.toInt ∧ u.toInt ≤ 65535 := by omega
    have hcy : 0 ≤ y.toInt ∧ y.toInt ≤ 65535 := by omega
    have hl : us.length = pre.length + ((fl rem).length + 2) := by rw [hus]; simp
    have hnl := n.toInt_lt
    have hi1 : (i + 1).toInt = i.toInt + 1 := by have := c_iadd i 1; have h1 := (i + 1).toInt_lt; have h2 := (i + 1).le_toInt; have : (1 : Int32).toInt = 1 := rfl; omega
    have hi2 : (i + 2).toInt = i.toInt + 2 := by have := c_iadd i 2; have h1 := (i + 2).toInt_lt; have h2 := (i + 2).le_toInt; have : (2 : Int32).toInt = 2 := rfl; omega
    refine Wk.iload X0 hx (hb hby d5_5) rfl rfl ?_
    refine Wk.aloadN X0 hx (hb hby d5_7) rfl rfl rfl ?_
    refine Wk.callVP (W := 1) X0 hx hZ (argsL := []) (rest := [(.int i)]) hown (hw _ (List.mem_of_getElem? (i := 31) rfl)) (hw _ (List.mem_of_getElem? (i := 32) rfl)) (hw _ (List.mem_of_getElem? (i := 34) rfl)) (hw _ (List.mem_of_getElem? (i := 33) rfl)) (hw _ (List.mem_of_getElem? (i := 7) rfl)) (hw _ (List.mem_of_getElem? (i := 35) rfl)) (notFace_of_selects (args := #[]) (mvT hZ (hw _ (List.mem_of_getElem? (i := 34) rfl)))) (by decide) (mlen l Z a0 hw cs hcs fv hfv a us n hn h0 Sa G) e0 Sa.2.1 (by decide) (by decide) (by decide) (by decide) (by rw [hml]; rfl) (lenOf pd6 rfl) rfl (Nat.le_of_eq rfl) (hb hby d5_8) rfl (fun T1 X1 e1 => ?_)
    refine Wk.icmp_ge X1 hx 145 14 (hb hby d5_11) rfl rfl (show (i : Int32).toInt = (i).toInt from rfl) (show (n : Int32).toInt = (n).toInt from rfl) (fun h2 => absurd h2 (by omega)) (fun h2 => ?_)
    refine Wk.aloadN X1 hx (hb hby d5_14) rfl rfl rfl ?_
    refine Wk.iload X1 hx (hb hby d5_15) rfl rfl ?_
    refine Wk.callVP (W := 0) X1 hx hZ (argsL := [(.int i)]) (rest := []) hown (hw _ (List.mem_of_getElem? (i := 64) rfl)) (hw _ (List.mem_of_getElem? (i := 65) rfl)) (hw _ (List.mem_of_getElem? (i := 67) rfl)) (hw _ (List.mem_of_getElem? (i := 66) rfl)) (hw _ (List.mem_of_getElem? (i := 7) rfl)) (hw _ (List.mem_of_getElem? (i := 68) rfl)) (notFace_of_selects (args := #[]) (mvT hZ (hw _ (List.mem_of_getElem? (i := 67) rfl)))) (by decide) (mch l Z a0 hw cs hcs fv hfv a us pre (y :: fl rem) u hus i hi hcu n hn h0 Sa G) e1 Sa.2.1 (by decide) (by decide) (by decide) (by decide) (by rw [hml]; rfl) (lenOf pd14 rfl) rfl (Nat.le_of_eq rfl) (hb hby d5_17) rfl (fun T3 X3 e3 => ?_)
    refine Wk.istore (l' := #[.val (.ref a), .val (.ref tx), .val (.long acc), .second, .val (.int i), .val (.int u), sl6]) X3 hx (hb hby d5_20) (hs5 u) rfl ?_
    refine Wk.iconst X3 hx (1 : Int32) (hb hby d5_22) rfl rfl ?_
    refine Wk.istore (l' := #[.val (.ref a), .val (.ref tx), .val (.long acc), .second, .val (.int i), .val (.int u), .val (.int (1 : Int32))]) X3 hx (hb hby d5_23) (hs6 u (1 : Int32)) rfl ?_
    refine Wk.iload X3 hx (hb hby d5_25) rfl rfl ?_
    refine Wk.sipush X3 hx (128 : Int32) (hb hby d5_27) rfl rfl ?_
    refine Wk.icmp_ge X3 hx 40 33 (hb hby d5_30) rfl rfl (show (u : Int32).toInt = (u).toInt from rfl) (show ((128 : Int32) : Int32).toInt = 128 from (by decide)) (fun h4 => ?_) (fun h4 => absurd h4 (by omega))
    refine Wk.iload X3 hx (hb hby d5_40) rfl rfl ?_
    refine Wk.sipush X3 hx (2048 : Int32) (hb hby d5_42) rfl rfl ?_
    refine Wk.icmp_ge X3 hx 57 48 (hb hby d5_45) rfl rfl (show (u : Int32).toInt = (u).toInt from rfl) (show ((2048 : Int32) : Int32).toInt = 2048 from (by decide)) (fun h5 => ?_) (fun h5 => absurd h5 (by omega))
    refine Wk.iload X3 hx (hb hby d5_57) rfl rfl ?_
    refine Wk.callP (W := 0) X3 hx hZ (argsL := [(.int u)]) (rest := []) hown (hw _ (List.mem_of_getElem? (i := 117) rfl)) (hw _ (List.mem_of_getElem? (i := 118) rfl)) (hw _ (List.mem_of_getElem? (i := 119) rfl)) (hw _ (List.mem_of_getElem? (i := 120) rfl)) (by decide) (mis l Z a0 hw u h0) e3 (by decide) (by decide) (by decide) (by decide) (by rw [hml]; rfl) (lenOf pd27 rfl) rfl (Nat.le_of_eq rfl) (hb hby d5_59) rfl (fun T6 X6 e6 => ?_)
    refine Wk.if_neB X6 hx 74 65 (hb hby d5_62) rfl rfl (fun h7 => ?_) (fun h7 => absurd h7 (by omega))
    refine Wk.iload X6 hx (hb hby d5_74) rfl rfl ?_
    refine Wk.callP (W := 0) X6 hx hZ (argsL := [(.int u)]) (rest := []) hown (hw _ (List.mem_of_getElem? (i := 127) rfl)) (hw _ (List.mem_of_getElem? (i := 128) rfl)) (hw _ (List.mem_of_getElem? (i := 119) rfl)) (hw _ (List.mem_of_getElem? (i := 129) rfl)) (by decide) (mhs l Z a0 hw u h0) e6 (by decide) (by decide) (by decide) (by decide) (by rw [hml]; rfl) (lenOf pd28 rfl) rfl (Nat.le_of_eq rfl) (hb hby d5_76) rfl (fun T8 X8 e8 => ?_)
    refine Wk.if_eqB X8 hx 119 82 (hb hby d5_79) rfl rfl (fun h9 => absurd h9 (by omega)) (fun h9 => ?_)
    refine Wk.iload X8 hx (hb hby d5_82) rfl rfl ?_
    refine Wk.iconst X8 hx (1 : Int32) (hb hby d5_84) rfl rfl ?_
    refine Wk.iadd X8 hx (hb hby d5_85) rfl ?_
    refine Wk.aloadN X8 hx (hb hby d5_86) rfl rfl rfl ?_
    refine Wk.callVP (W := 1) X8 hx hZ (argsL := []) (rest := [(.int (i + (1 : Int32)))]) hown (hw _ (List.mem_of_getElem? (i := 31) rfl)) (hw _ (List.mem_of_getElem? (i := 32) rfl)) (hw _ (List.mem_of_getElem? (i := 34) rfl)) (hw _ (List.mem_of_getElem? (i := 33) rfl)) (hw _ (List.mem_of_getElem? (i := 7) rfl)) (hw _ (List.mem_of_getElem? (i := 35) rfl)) (notFace_of_selects (args := #[]) (mvT hZ (hw _ (List.mem_of_getElem? (i := 34) rfl)))) (by decide) (mlen l Z a0 hw cs hcs fv hfv a us n hn h0 Sa G) e8 Sa.2.1 (by decide) (by decide) (by decide) (by decide) (by rw [hml]; rfl) (lenOf pd6 rfl) rfl (Nat.le_of_eq rfl) (hb hby d5_87) rfl (fun T10 X10 e10 => ?_)
    refine Wk.icmp_ge X10 hx 119 93 (hb hby d5_90) rfl rfl (show (i + (1 : Int32) : Int32).toInt = (i + (1 : Int32)).toInt from rfl) (show (n : Int32).toInt = (n).toInt from rfl) (fun h11 => absurd h11 (by omega)) (fun h11 => ?_)
    refine Wk.aloadN X10 hx (hb hby d5_93) rfl rfl rfl ?_
    refine Wk.iload X10 hx (hb hby d5_94) rfl rfl ?_
    refine Wk.iconst X10 hx (1 : Int32) (hb hby d5_96) rfl rfl ?_
    refine Wk.iadd X10 hx (hb hby d5_97) rfl ?_
    refine Wk.callVP (W := 0) X10 hx hZ (argsL := [(.int (i + (1 : Int32)))]) (rest := []) hown (hw _ (List.mem_of_getElem? (i := 64) rfl)) (hw _ (List.mem_of_getElem? (i := 65) rfl)) (hw _ (List.mem_of_getElem? (i := 67) rfl)) (hw _ (List.mem_of_getElem? (i := 66) rfl)) (hw _ (List.mem_of_getElem? (i := 7) rfl)) (hw _ (List.mem_of_getElem? (i := 68) rfl)) (notFace_of_selects (args := #[]) (mvT hZ (hw _ (List.mem_of_getElem? (i := 67) rfl)))) (by decide) (mch l Z a0 hw cs hcs fv hfv a us (pre ++ [u]) (fl rem) y (by rw [hus]; simp) (i + 1) (by rw [hi1, hi, List.length_append]; rfl) hcy n hn h0 Sa G) e10 Sa.2.1 (by decide) (by decide) (by decide) (by decide) (by rw [hml]; rfl) (lenOf pd14 rfl) rfl (Nat.le_of_eq rfl) (hb hby d5_98) rfl (fun T12 X12 e12 => ?_)
    refine Wk.callP (W := 0) X12 hx hZ (argsL := [(.int y)]) (rest := []) hown (hw _ (List.mem_of_getElem? (i := 131) rfl)) (hw _ (List.mem_of_getElem? (i := 132) rfl)) (hw _ (List.mem_of_getElem? (i := 119) rfl)) (hw _ (List.mem_of_getElem? (i := 133) rfl)) (by decide) (mls l Z a0 hw y h0) e12 (by decide) (by decide) (by decide) (by decide) (by rw [hml]; rfl) (lenOf pd29 rfl) rfl (Nat.le_of_eq rfl) (hb hby d5_101) rfl (fun T13 X13 e13 => ?_)
    refine Wk.if_eqB X13 hx 119 107 (hb hby d5_104) rfl rfl (fun h14 => absurd h14 (by omega)) (fun h14 => ?_)
    refine Wk.lloadN X13 hx (hb hby d5_107) rfl rfl ?_
    refine Wk.ldcJ X13 hx hZ hown (hw _ (List.mem_of_getElem? (i := 134) rfl)) (hb hby d5_108) rfl ?_
    refine Wk.ladd X13 hx (hb hby d5_111) rfl ?_
    refine Wk.lstoreN (l' := #[.val (.ref a), .val (.ref tx), .val (.long (acc + (4 : Int64))), .second, .val (.int i), .val (.int u), .val (.int (1 : Int32))]) X13 hx (hb hby d5_112) rfl rfl ?_
    refine Wk.iconst X13 hx (2 : Int32) (hb hby d5_113) rfl rfl ?_
    refine Wk.istore (l' := #[.val (.ref a), .val (.ref tx), .val (.long (acc + (4 : Int64))), .second, .val (.int i), .val (.int u), .val (.int (2 : Int32))]) X13 hx (hb hby d5_114) rfl rfl ?_
    refine Wk.goto X13 hx 135 (hb hby d5_116) rfl ?_
    refine Wk.iload X13 hx (hb hby d5_135) rfl rfl ?_
    refine Wk.iload X13 hx (hb hby d5_137) rfl rfl ?_
    refine Wk.iadd X13 hx (hb hby d5_139) rfl ?_
    refine Wk.istore (l' := #[.val (.ref a), .val (.ref tx), .val (.long (acc + (4 : Int64))), .second, .val (.int (i + (2 : Int32))), .val (.int u), .val (.int (2 : Int32))]) X13 hx (hb hby d5_140) rfl rfl ?_
    refine Wk.goto X13 hx 5 (hb hby d5_142) rfl ?_
    exact u8loop a0 hw hx hby hml hown hret hlk hZ h0 cs hcs fv hfv a tx us n hn Sa G res rem (pre ++ [u, y]) (acc + (4 : Int64)) (i + (2 : Int32)) (.val (.int u)) (.val (.int (2 : Int32))) T13 (fun c z => hok c (List.mem_cons_of_mem _ z)) (fun _ => rfl) (fun _ _ => rfl) (by rw [hus]; simp) (by rw [hi2, hi, List.length_append]; rfl) (by rw [← hres]; show tot rem (acc + _) = tot rem (acc + w64 _); rw [show w64 (u, some y) = 4 from rfl]) X13 e13
set_option maxRecDepth 65536 in
set_option maxHeartbeats 40000000 in
theorem mu8 (l : Launch) (Z : State) (a0 : Array Value) (hw : ∀ d ∈ tables_1, d.before a0 Z = true) (cs : Int32) (hcs : ¬ cs.toInt = 0) (fv : Value) (hfv : fv.isRef = true) (a tx : Addr) (us : List Int32) (n : Int32) (hn : n.toInt = (us.length : Int)) (ch : List (Int32 × Option Int32)) (hfl : us = fl ch) (hok : Wc ch) (h0 : Heap) (Sa : Sv Z h0 a us) (G : Sg Z h0 cs fv) : Wk.Met l Z (⟨"com/example/rillet/rillet/transport/Utf8", "length", "(Ljava/lang/String;Ljava/lang/String;)J"⟩ : MethodName) prog_44_method_2_code 7 (some .long) [] { frames := 5, cells := 0, slots := 0, locals := 66 } #[(.ref a), (.ref tx)] h0 (Wk.Pu (.long (tot ch 0)) h0) := by
  refine Wk.start pn5 ?_
  intro p e s m below meth c s₁ X0 hx hby hml hown0 hnm hret hlk hZ e0
  have hown : s.vm.findClass "com/example/rillet/rillet/transport/Utf8" = some m.cls := hown0
  refine Wk.enter (g' := (mkF m 0 #[.val (.ref a), .val (.ref tx), .unset, .unset, .unset, .unset, .unset] [])) (by first | rfl | (simp [entryFrame, mkF, argsToLocals, Value.category, maxLocals]; done) | (simp [entryFrame, mkF, argsToLocals, hcat]; done) | (simp [entryFrame, mkF, argsToLocals, hcat]; rfl)) ?_
  refine Wk.lconst X0 hx (0 : Int64) (hb hby d5_0) rfl rfl ?_
  refine Wk.lstoreN (l' := #[.val (.ref a), .val (.ref tx), .val (.long (0 : Int64)), .second, .unset, .unset, .unset]) X0 hx (hb hby d5_1) rfl rfl ?_
  refine Wk.iconst X0 hx (0 : Int32) (hb hby d5_2) rfl rfl ?_
  refine Wk.istore (l' := #[.val (.ref a), .val (.ref tx), .val (.long (0 : Int64)), .second, .val (.int (0 : Int32)), .unset, .unset]) X0 hx (hb hby d5_3) rfl rfl ?_
  exact u8loop a0 hw hx hby hml hown hret hlk hZ h0 cs hcs fv hfv a tx us n hn Sa G (tot ch 0) ch [] 0 0 .unset .unset s₁ hok (fun _ => rfl) (fun _ _ => rfl) hfl rfl rfl X0 e0
set_option maxRecDepth 65536 in
set_option maxHeartbeats 40000000 in
theorem msu (l : Launch) (Z : State) (a0 : Array Value) (hw : ∀ d ∈ tables_1, d.before a0 Z = true) (x : Int32) (h0 : Heap)  : Wk.Met l Z (⟨"com/example/rillet/rillet/transport/Utf8LengthPinLaw", "surr", "(I)Z"⟩ : MethodName) method_3_code 2 (some .boolean) [] { frames := 0, cells := 0, slots := 0, locals := 0 } #[(.int x)] h0 (Wk.Pu (.int (Wk.b (sur x))) h0) := by
  refine Wk.start pn9 ?_
  intro p e s m below meth c s₁ X0 hx hby hml hown0 hnm hret hlk hZ e0
  have hown : s.vm.findClass "com/example/rillet/rillet/transport/Utf8LengthPinLaw" = some m.cls := hown0
  refine Wk.enter (g' := (mkF m 0 #[.val (.int x), .unset] [])) (by first | rfl | (simp [entryFrame, mkF, argsToLocals, Value.category, maxLocals]; done) | (simp [entryFrame, mkF, argsToLocals, hcat]; done) | (simp [entryFrame, mkF, argsToLocals, hcat]; rfl)) ?_
  refine Wk.iloadN X0 hx (hb hby d9_0) rfl rfl ?_
  refine Wk.ldcI X0 hx hZ hown (hw _ (List.mem_of_getElem? (i := 45) rfl)) (hb hby d9_1) rfl ?_
  refine Wk.iand X0 hx (hb hby d9_3) rfl ?_
  refine Wk.istoreN (l' := #[.val (.int x), .val (.int (x &&& (65535 : Int32)))]) X0 hx (hb hby d9_4) rfl rfl ?_
  refine Wk.iloadN X0 hx (hb hby d9_5) rfl rfl ?_
  refine Wk.ldcI X0 hx hZ hown (hw _ (List.mem_of_getElem? (i := 49) rfl)) (hb hby d9_6) rfl ?_
  refine Wk.icmp_lt X0 hx 21 11 (hb hby d9_8) rfl rfl (show (x &&& (65535 : Int32) : Int32).toInt = (x &&& (65535 : Int32)).toInt from rfl) (show ((55296 : Int32) : Int32).toInt = 55296 from (by decide)) (fun h1 => ?_) (fun h1 => ?_)
  · skip
    refine Wk.iconst X0 hx (0 : Int32) (hb hby d9_21) rfl rfl ?_
    exact Wk.retZ X0 hx hlk hret (hb hby d9_22) (by decide) (Nat.zero_le _) (Nat.zero_le _) (Wk.puB0 (by first | exact ⟨by omega, by omega⟩ | (show ¬ (_ ∧ _); omega)) e0)
  · skip
    refine Wk.iloadN X0 hx (hb hby d9_11) rfl rfl ?_
    refine Wk.ldcI X0 hx hZ hown (hw _ (List.mem_of_getElem? (i := 123) rfl)) (hb hby d9_12) rfl ?_
    refine Wk.icmp_gt X0 hx 21 17 (hb hby d9_14) rfl rfl (show (x &&& (65535 : Int32) : Int32).toInt = (x &&& (65535 : Int32)).toInt from rfl) (show ((57343 : Int32) : Int32).toInt = 57343 from (by decide)) (fun h2 => ?_) (fun h2 => ?_)
    · skip
      refine Wk.iconst X0 hx (0 : Int32) (hb hby d9_21) rfl rfl ?_
      exact Wk.retZ X0 hx hlk hret (hb hby d9_22) (by decide) (Nat.zero_le _) (Nat.zero_le _) (Wk.puB0 (by first | exact ⟨by omega, by omega⟩ | (show ¬ (_ ∧ _); omega)) e0)
    · skip
      refine Wk.iconst X0 hx (1 : Int32) (hb hby d9_17) rfl rfl ?_
      refine Wk.goto X0 hx 22 (hb hby d9_18) rfl ?_
      exact Wk.retZ X0 hx hlk hret (hb hby d9_22) (by decide) (Nat.zero_le _) (Nat.zero_le _) (Wk.puB1 (by first | exact ⟨by omega, by omega⟩ | (show ¬ (_ ∧ _); omega)) e0)
set_option maxRecDepth 65536 in
set_option maxHeartbeats 40000000 in
theorem mwe (l : Launch) (Z : State) (a0 : Array Value) (hw : ∀ d ∈ tables_1, d.before a0 Z = true) (x : Int32) (h0 : Heap)  : Wk.Met l Z (⟨"com/example/rillet/rillet/transport/Utf8LengthPinLaw", "weight", "(I)J"⟩ : MethodName) method_5_code 2 (some .long) [] { frames := 1, cells := 0, slots := 0, locals := 13 } #[(.int x)] h0 (Wk.Pu (.long (w64 (ckx x))) h0) := by
  refine Wk.start pn10 ?_
  intro p e s m below meth c s₁ X0 hx hby hml hown0 hnm hret hlk hZ e0
  have hown : s.vm.findClass "com/example/rillet/rillet/transport/Utf8LengthPinLaw" = some m.cls := hown0
  refine Wk.enter (g' := (mkF m 0 #[.val (.int x), .unset] [])) (by first | rfl | (simp [entryFrame, mkF, argsToLocals, Value.category, maxLocals]; done) | (simp [entryFrame, mkF, argsToLocals, hcat]; done) | (simp [entryFrame, mkF, argsToLocals, hcat]; rfl)) ?_
  refine Wk.iloadN X0 hx (hb hby d10_0) rfl rfl ?_
  refine Wk.ldcI X0 hx hZ hown (hw _ (List.mem_of_getElem? (i := 45) rfl)) (hb hby d10_1) rfl ?_
  refine Wk.iand X0 hx (hb hby d10_3) rfl ?_
  refine Wk.istoreN (l' := #[.val (.int x), .val (.int (x &&& (65535 : Int32)))]) X0 hx (hb hby d10_4) rfl rfl ?_
  refine Wk.iloadN X0 hx (hb hby d10_5) rfl rfl ?_
  refine Wk.callP (W := 0) X0 hx hZ (argsL := [(.int x)]) (rest := []) hown (hw _ (List.mem_of_getElem? (i := 46) rfl)) (hw _ (List.mem_of_getElem? (i := 47) rfl)) (hw _ (List.mem_of_getElem? (i := 3) rfl)) (hw _ (List.mem_of_getElem? (i := 48) rfl)) (by decide) (msu l Z a0 hw x h0) e0 (by decide) (by decide) (by decide) (by decide) (by rw [hml]; rfl) (lenOf pd9 rfl) rfl (Nat.le_of_eq rfl) (hb hby d10_6) rfl (fun T1 X1 e1 => ?_)
  refine Wk.if_eqB X1 hx 16 12 (hb hby d10_9) rfl rfl (fun h2 => ?_) (fun h2 => ?_)
  · skip
    refine Wk.iloadN X1 hx (hb hby d10_16) rfl rfl ?_
    refine Wk.sipush X1 hx (128 : Int32) (hb hby d10_17) rfl rfl ?_
    refine Wk.icmp_ge X1 hx 25 23 (hb hby d10_20) rfl rfl (show (x &&& (65535 : Int32) : Int32).toInt = (x &&& (65535 : Int32)).toInt from rfl) (show ((128 : Int32) : Int32).toInt = 128 from (by decide)) (fun h3 => ?_) (fun h3 => ?_)
    · skip
      refine Wk.iloadN X1 hx (hb hby d10_25) rfl rfl ?_
      refine Wk.sipush X1 hx (2048 : Int32) (hb hby d10_26) rfl rfl ?_
      refine Wk.icmp_ge X1 hx 36 32 (hb hby d10_29) rfl rfl (show (x &&& (65535 : Int32) : Int32).toInt = (x &&& (65535 : Int32)).toInt from rfl) (show ((2048 : Int32) : Int32).toInt = 2048 from (by decide)) (fun h4 => ?_) (fun h4 => ?_)
      · skip
        refine Wk.ldcJ X1 hx hZ hown (hw _ (List.mem_of_getElem? (i := 87) rfl)) (hb hby d10_36) rfl ?_
        exact Wk.retL X1 hx hlk hret (hb hby d10_39) (Nat.zero_le _) (Nat.zero_le _) (Wk.puE (by rw [ckx_f ‹_›, w64_3 (by omega) (by omega)]) e1)
      · skip
        refine Wk.ldcJ X1 hx hZ hown (hw _ (List.mem_of_getElem? (i := 53) rfl)) (hb hby d10_32) rfl ?_
        exact Wk.retL X1 hx hlk hret (hb hby d10_35) (Nat.zero_le _) (Nat.zero_le _) (Wk.puE (by rw [ckx_f ‹_›, w64_2 (by omega) (by omega)]) e1)
    · skip
      refine Wk.lconst X1 hx (1 : Int64) (hb hby d10_23) rfl rfl ?_
      exact Wk.retL X1 hx hlk hret (hb hby d10_24) (Nat.zero_le _) (Nat.zero_le _) (Wk.puE (by rw [ckx_f ‹_›, w64_1 (by omega)]) e1)
  · skip
    refine Wk.ldcJ X1 hx hZ hown (hw _ (List.mem_of_getElem? (i := 126) rfl)) (hb hby d10_12) rfl ?_
    exact Wk.retL X1 hx hlk hret (hb hby d10_15) (Nat.zero_le _) (Nat.zero_le _) (Wk.puE (by rw [ckx_t ‹_›]; rfl) e1)
def Qpt (Z : State) (lb : Addr) (kc : ClassId) (us : List Int32) (x : Int32) (h0 : Heap) (n0 : Nat) (v : Option Value) (h : Heap) (L : List Loc) : Prop := Fr n0 L ∧ Keep h0 h [lb] ∧ ∃ (n' : Int32) (r' : Nat), v = some (.int n') ∧ n'.toInt = ((us ++ fl [ckx x]).length : Int) ∧ (us ++ fl [ckx x]).length + r' = 6 ∧ Arv Z h lb kc .char 6 (cl (us ++ fl [ckx x]) ++ List.replicate r' (.int 0)) (.int 0)
set_option maxRecDepth 65536 in
set_option maxHeartbeats 40000000 in
theorem mpt (l : Launch) (Z : State) (a0 : Array Value) (hw : ∀ d ∈ tables_1, d.before a0 Z = true) (lb : Addr) (kc : ClassId) (us : List Int32) (n x : Int32) (r : Nat) (hn : n.toInt = (us.length : Int)) (hr : us.length + (r + 2) = 6) (n0 : Nat) (hnb : n0 ≤ lb) (h0 : Heap) (B : Arv Z h0 lb kc .char 6 (cl us ++ List.replicate (r + 2) (.int 0)) (.int 0)) : Wk.Met l Z (⟨"com/example/rillet/rillet/transport/Utf8LengthPinLaw", "put", "([CII)I"⟩ : MethodName) method_4_code 4 (some .int) [] { frames := 1, cells := 0, slots := 0, locals := 13 } #[(.ref lb), (.int n), (.int x)] h0 (Qpt Z lb kc us x h0 n0) := by
  refine Wk.start pn8 ?_
  intro p e s m below meth c s₁ X0 hx hby hml hown0 hnm hret hlk hZ e0
  have hown : s.vm.findClass "com/example/rillet/rillet/transport/Utf8LengthPinLaw" = some m.cls := hown0
  have e6 : (6 : Int32).toInt = 6 := by decide
  refine Wk.enter (g' := (mkF m 0 #[.val (.ref lb), .val (.int n), .val (.int x), .unset] [])) (by first | rfl | (simp [entryFrame, mkF, argsToLocals, Value.category, maxLocals]; done) | (simp [entryFrame, mkF, argsToLocals, hcat]; done) | (simp [entryFrame, mkF, argsToLocals, hcat]; rfl)) ?_
  refine Wk.iloadN X0 hx (hb hby d8_0) rfl rfl ?_
  refine Wk.ldcI X0 hx hZ hown (hw _ (List.mem_of_getElem? (i := 45) rfl)) (hb hby d8_1) rfl ?_
  refine Wk.iand X0 hx (hb hby d8_3) rfl ?_
  refine Wk.istoreN (l' := #[.val (.ref lb), .val (.int n), .val (.int x), .val (.int (x &&& (65535 : Int32)))]) X0 hx (hb hby d8_4) rfl rfl ?_
  refine Wk.iloadN X0 hx (hb hby d8_5) rfl rfl ?_
  refine Wk.callP (W := 0) X0 hx hZ (argsL := [(.int x)]) (rest := []) hown (hw _ (List.mem_of_getElem? (i := 46) rfl)) (hw _ (List.mem_of_getElem? (i := 47) rfl)) (hw _ (List.mem_of_getElem? (i := 3) rfl)) (hw _ (List.mem_of_getElem? (i := 48) rfl)) (by decide) (msu l Z a0 hw x h0) e0 (by decide) (by decide) (by decide) (by decide) (by rw [hml]; rfl) (lenOf pd9 rfl) rfl (Nat.le_of_eq rfl) (hb hby d8_6) rfl (fun T11 X11 e11 => ?_)
  refine Wk.if_eqB X11 hx 45 12 (hb hby d8_9) rfl rfl (fun h12 => ?_) (fun h12 => ?_)
  · skip
    refine Wk.aloadN X11 hx (hb hby d8_45) rfl rfl rfl ?_
    refine Wk.iloadN X11 hx (hb hby d8_46) rfl rfl ?_
    refine Wk.iloadN X11 hx (hb hby d8_47) rfl rfl ?_
    refine Wk.i2c X11 hx (hb hby d8_48) rfl ?_
    rw [i2cE (x &&& (65535 : Int32)) (by have := sx_t x; omega) (by have := sx_t x; omega)]
    refine Wk.castore X11 hx hZ e11 B (by omega) (by omega) (us.length) (by show Int.toNat _ = _; omega) (by simp only [List.length_set, List.length_append, List.length_replicate, cl, List.length_map]; omega) (hb hby d8_49) rfl (fun T2 g2 X2 e2 W2 A2 => ?_)
    rw [narCE (x &&& (65535 : Int32)) (by have := sx_t x; omega) (by have := sx_t x; omega)] at A2
    have N2 := Fr.snoc X2 (Fr.nil n0) hnb
    refine Wk.iloadN X2 hx (hb hby d8_50) rfl rfl ?_
    refine Wk.iconst X2 hx (1 : Int32) (hb hby d8_51) rfl rfl ?_
    refine Wk.iadd X2 hx (hb hby d8_52) rfl ?_
    have ev : us ++ fl [ckx x] = us ++ [x &&& (65535 : Int32)] := by rw [ckx_f ‹_›]; simp [fl]
    have hn1 : (n + 1).toInt = n.toInt + 1 := Wk.t_add rfl (show (1 : Int32).toInt = 1 from rfl) (by omega) (by omega)
    exact Wk.retI X2 hx hlk hret (hb hby d8_53) (Nat.zero_le _) (Nat.zero_le _) (by rw [e2]; exact ⟨N2, ((Keep.refl h0 [lb]).wr W2 (Or.inl (List.mem_singleton.mpr rfl))), _, r + 1, rfl, by rw [ev, hn1]; simp only [List.length_append, List.length_cons, List.length_nil]; omega, by rw [ev]; simp only [List.length_append, List.length_cons, List.length_nil]; omega, by rw [ev, ← cl_set (r := r + 1) rfl]; exact A2⟩)
  · skip
    refine Wk.aloadN X11 hx (hb hby d8_12) rfl rfl rfl ?_
    refine Wk.iloadN X11 hx (hb hby d8_13) rfl rfl ?_
    refine Wk.ldcI X11 hx hZ hown (hw _ (List.mem_of_getElem? (i := 49) rfl)) (hb hby d8_14) rfl ?_
    refine Wk.iloadN X11 hx (hb hby d8_16) rfl rfl ?_
    refine Wk.sipush X11 hx (1023 : Int32) (hb hby d8_17) rfl rfl ?_
    refine Wk.iand X11 hx (hb hby d8_20) rfl ?_
    refine Wk.ior X11 hx (hb hby d8_21) rfl ?_
    show Wk.Go p e below _ _ _ _ _ (mkF m 22 #[.val (.ref lb), .val (.int n), .val (.int x), .val (.int (x &&& (65535 : Int32)))] [(.int (hiX x)), (.int n), (.ref lb)])
    refine Wk.i2c X11 hx (hb hby d8_22) rfl ?_
    rw [i2cE (hiX x) (by have := hiX_t x; omega) (by have := hiX_t x; omega)]
    refine Wk.castore X11 hx hZ e11 B (by omega) (by omega) (us.length) (by show Int.toNat _ = _; omega) (by simp only [List.length_set, List.length_append, List.length_replicate, cl, List.length_map]; omega) (hb hby d8_23) rfl (fun T2 g2 X2 e2 W2 A2 => ?_)
    rw [narCE (hiX x) (by have := hiX_t x; omega) (by have := hiX_t x; omega)] at A2
    have N2 := Fr.snoc X2 (Fr.nil n0) hnb
    refine Wk.aloadN X2 hx (hb hby d8_24) rfl rfl rfl ?_
    refine Wk.iloadN X2 hx (hb hby d8_25) rfl rfl ?_
    refine Wk.iconst X2 hx (1 : Int32) (hb hby d8_26) rfl rfl ?_
    refine Wk.iadd X2 hx (hb hby d8_27) rfl ?_
    have hn1 : (n + 1).toInt = n.toInt + 1 := Wk.t_add rfl (show (1 : Int32).toInt = 1 from rfl) (by omega) (by omega)
    refine Wk.ldcI X2 hx hZ hown (hw _ (List.mem_of_getElem? (i := 125) rfl)) (hb hby d8_28) rfl ?_
    refine Wk.iloadN X2 hx (hb hby d8_30) rfl rfl ?_
    refine Wk.bipush X2 hx (16 : Int32) (hb hby d8_31) rfl rfl ?_
    refine Wk.iushr X2 hx (hb hby d8_33) rfl ?_
    refine Wk.sipush X2 hx (1023 : Int32) (hb hby d8_34) rfl rfl ?_
    refine Wk.iand X2 hx (hb hby d8_37) rfl ?_
    refine Wk.ior X2 hx (hb hby d8_38) rfl ?_
    show Wk.Go p e below _ _ _ _ _ (mkF m 39 #[.val (.ref lb), .val (.int n), .val (.int x), .val (.int (x &&& (65535 : Int32)))] [(.int (loX x)), (.int (n + (1 : Int32))), (.ref lb)])
    refine Wk.i2c X2 hx (hb hby d8_39) rfl ?_
    rw [i2cE (loX x) (by have := loX_t x; omega) (by have := loX_t x; omega)]
    refine Wk.castore X2 hx hZ e2 A2 (by omega) (by omega) (us.length + 1) (by show Int.toNat _ = _; omega) (by simp only [List.length_set, List.length_append, List.length_replicate, cl, List.length_map]; omega) (hb hby d8_40) rfl (fun T3 g3 X3 e3 W3 A3 => ?_)
    rw [narCE (loX x) (by have := loX_t x; omega) (by have := loX_t x; omega)] at A3
    have N3 := Fr.snoc X3 N2 hnb
    refine Wk.iloadN X3 hx (hb hby d8_41) rfl rfl ?_
    refine Wk.iconst X3 hx (2 : Int32) (hb hby d8_42) rfl rfl ?_
    refine Wk.iadd X3 hx (hb hby d8_43) rfl ?_
    have ev : us ++ fl [ckx x] = (us ++ [hiX x]) ++ [loX x] := by rw [ckx_t ‹_›]; simp [fl]
    have hn2 : (n + 2).toInt = n.toInt + 2 := Wk.t_add rfl (show (2 : Int32).toInt = 2 from rfl) (by omega) (by omega)
    exact Wk.retI X3 hx hlk hret (hb hby d8_44) (Nat.zero_le _) (Nat.zero_le _) (by rw [e3]; exact ⟨N3, (((Keep.refl h0 [lb]).wr W2 (Or.inl (List.mem_singleton.mpr rfl))).wr W3 (Or.inl (List.mem_singleton.mpr rfl))), _, r, rfl, by rw [ev, hn2]; simp only [List.length_append, List.length_cons, List.length_nil]; omega, by rw [ev]; simp only [List.length_append, List.length_cons, List.length_nil]; omega, by rw [ev, ← cl_set (r := r) (i := us.length + 1) (by simp), ← cl_set (r := r + 1) rfl]; exact A3⟩)
def Qpf (Z : State) (us : List Int32) (h0 : Heap) (n0 : Nat) (v : Option Value) (h : Heap) (L : List Loc) : Prop := ∃ a, v = some (.ref a) ∧ Fr n0 L ∧ Ext h0 h ∧ Sv Z h a us
set_option maxRecDepth 65536 in
set_option maxHeartbeats 40000000 in
theorem mpf0 (l : Launch) (Z : State) (a0 : Array Value) (hw : ∀ d ∈ tables_1, d.before a0 Z = true) (cs : Int32) (hcs : ¬ cs.toInt = 0) (fv : Value) (hfv : fv.isRef = true) (lb : Addr) (kc : ClassId)  (hch : Ch ([] : List Int32)) (rst : List Value) (n0 : Nat) (Ts : List String) (hnot : "" ∉ Ts) (hh : Jvm.Lit.constHeld Z "java/lang/String" 7) (hcw : Jvm.Lit.compactW.before a0 Z = true) (h0 : Heap) (hn0 : n0 ≤ h0.size) (hO : Wk.Old Z h0) (G : Sg Z h0 cs fv) (B : Arv Z h0 lb kc .char 6 (cl ([] : List Int32) ++ rst) (.int 0)) : Wk.MetV l Z (⟨"com/example/rillet/rillet/transport/Utf8LengthPinLaw", "prefix", "([CI)Ljava/lang/String;"⟩ : MethodName) method_6_code 2 (some (.object "java/lang/String")) [] { frames := 7, cells := 4, slots := 28, locals := 98 } #[(.ref lb), (.int (0 : Int32))] h0 (Qpf Z ([] : List Int32) h0 n0) (fun vm => Jvm.RoadKit.IB Z vm Ts) (fun _ => True) := by
  refine Wk.startV pn1 ?_
  intro p e s vm0 m below meth c s₁ X0 hx hby hml hown0 hnm hret hlk hZ hS e0 eS hPv
  have hown : (s.setVm vm0).vm.findClass "com/example/rillet/rillet/transport/Utf8LengthPinLaw" = some m.cls := hown0
  refine Wk.enter (g' := (mkF m 0 #[.val (.ref lb), .val (.int (0 : Int32))] [])) (by first | rfl | (simp [entryFrame, mkF, argsToLocals, Value.category, maxLocals]; done) | (simp [entryFrame, mkF, argsToLocals, hcat]; done) | (simp [entryFrame, mkF, argsToLocals, hcat]; rfl)) ?_
  refine Wk.iloadN X0 hx (hb hby d1_0) rfl rfl ?_
  refine Wk.if_ne X0 hx 15 4 (hb hby d1_1) rfl rfl (show ((0 : Int32) : Int32).toInt = 0 from (by decide)) (fun h31 => absurd h31 (by omega)) (fun h31 => ?_)
  refine Wk.newO X0 hx hZ hown (hw _ (List.mem_of_getElem? (i := 5) rfl)) (hw _ (List.mem_of_getElem? (i := 6) rfl)) (hw _ (List.mem_of_getElem? (i := 7) rfl)) e0 (hb hby d1_4) (by decide) (by decide) rfl (fun T1 h1 X1 e1 Ex1 A1 D1 => ?_)
  have hla : n0 ≤ h1.size := Nat.le_trans hn0 Ex1.1
  have hlb : lb ≠ h1.size := Nat.ne_of_lt (Nat.lt_of_lt_of_le B.lt Ex1.1)
  refine Wk.dup X1 hx (hb hby d1_7) rfl rfl ?_
  refine Wk.iconst X1 hx (0 : Int32) (hb hby d1_8) rfl rfl ?_
  refine Wk.newP (z := (0 : Int32)) X1 hx hZ rfl (hw _ (List.mem_of_getElem? (i := 0) rfl)) e1 (by decide) 0 (by decide) (by decide) (by decide) (by decide) (hb hby d1_9) rfl (fun T2 h2 kd X2 e2 Ex2 Av2 => ?_)
  have C2 : Arv Z h2 h1.size kd .char (0 : Int32) (List.replicate 0 (.int 0)) (.int 0) := Av2
  have B2 := (B.ext Ex1).ext Ex2
  have G2 := (G.ext Ex1).ext Ex2
  have E2 := A1.ext Ex2
  have K2 := (Wk.keep_of_ext Ex1).ext Ex2
  have Fv2 := (D1 (Or.inr (hw _ (List.mem_of_getElem? (i := 20) rfl))) (ty := .array .byte) (by decide)).ext Ex2
  have FcE2 := (Wk.FldE.of (D1 (Or.inr (hw _ (List.mem_of_getElem? (i := 21) rfl))) (ty := .byte) (by decide))).ext Ex2
  have hn2 : n0 ≤ h2.size := Nat.le_trans hla Ex2.1
  refine Wk.callIV (W := 1) X2 hx hZ hS (argsL := [(.ref h1.size)]) (rest := [(.ref h0.size)]) rfl hown (hw _ (List.mem_of_getElem? (i := 8) rfl)) (hw _ (List.mem_of_getElem? (i := 9) rfl)) (hw _ (List.mem_of_getElem? (i := 7) rfl)) (hw _ (List.mem_of_getElem? (i := 10) rfl)) (by decide) (mi3e l Z a0 hw h0.size h1.size kd n0 hn0 Ts hnot hh hcw h2 (Wk.old_ext (Wk.old_ext hO Ex1) Ex2) E2 Fv2 FcE2 C2) e2 (Nat.zero_le _) (fun _ q => Wk.IBw hPv q) (by decide) (by decide) (by decide) (by decide) (by rw [hml]; rfl) (lenOf pd2 rfl) rfl (Nat.le_of_eq rfl) (hb hby d1_11) rfl (fun T60 vm60 k60 v60 L60 X60 hS hk0 hZ hown hq60 hV60 hWm60 => ?_)
  obtain ⟨rfl, Nc, Kc, Sa⟩ := hq60
  show Wk.Go p e below _ _ _ _ T60 (mkF m 14 #[.val (.ref lb), .val (.int (0 : Int32))] [(.ref h0.size)])
  exact Wk.retAV X60 hx hS hk0 trivial hlk hret rfl rfl (hb hby d1_14) (by decide) (by decide) ⟨_, rfl, Fr.app (Fr.nil n0) Nc, Wk.ext_of_keep (K2.trans Kc (allS (Or.inr (Nat.le_refl _)) all0)), Sa⟩
set_option maxRecDepth 65536 in
set_option maxHeartbeats 40000000 in
theorem mpf1 (l : Launch) (Z : State) (a0 : Array Value) (hw : ∀ d ∈ tables_1, d.before a0 Z = true) (cs : Int32) (hcs : ¬ cs.toInt = 0) (fv : Value) (hfv : fv.isRef = true) (lb : Addr) (kc : ClassId) (u0 : Int32) (hch : Ch [u0]) (rst : List Value) (n0 : Nat) (Ts : List String) (hnot : "" ∉ Ts) (hh : Jvm.Lit.constHeld Z "java/lang/String" 7) (hcw : Jvm.Lit.compactW.before a0 Z = true) (h0 : Heap) (hn0 : n0 ≤ h0.size) (hO : Wk.Old Z h0) (G : Sg Z h0 cs fv) (B : Arv Z h0 lb kc .char 6 (cl [u0] ++ rst) (.int 0)) : Wk.MetV l Z (⟨"com/example/rillet/rillet/transport/Utf8LengthPinLaw", "prefix", "([CI)Ljava/lang/String;"⟩ : MethodName) method_6_code 2 (some (.object "java/lang/String")) [] { frames := 7, cells := 4, slots := 28, locals := 98 } #[(.ref lb), (.int (1 : Int32))] h0 (Qpf Z [u0] h0 n0) (fun vm => Jvm.RoadKit.IB Z vm Ts) (fun _ => True) := by
  refine Wk.startV pn1 ?_
  intro p e s vm0 m below meth c s₁ X0 hx hby hml hown0 hnm hret hlk hZ hS e0 eS hPv
  have hown : (s.setVm vm0).vm.findClass "com/example/rillet/rillet/transport/Utf8LengthPinLaw" = some m.cls := hown0
  refine Wk.enter (g' := (mkF m 0 #[.val (.ref lb), .val (.int (1 : Int32))] [])) (by first | rfl | (simp [entryFrame, mkF, argsToLocals, Value.category, maxLocals]; done) | (simp [entryFrame, mkF, argsToLocals, hcat]; done) | (simp [entryFrame, mkF, argsToLocals, hcat]; rfl)) ?_
  refine Wk.iloadN X0 hx (hb hby d1_0) rfl rfl ?_
  refine Wk.if_ne X0 hx 15 4 (hb hby d1_1) rfl rfl (show ((1 : Int32) : Int32).toInt = 1 from (by decide)) (fun h31 => ?_) (fun h31 => absurd h31 (by omega))
  refine Wk.iloadN X0 hx (hb hby d1_15) rfl rfl ?_
  refine Wk.iconst X0 hx (1 : Int32) (hb hby d1_16) rfl rfl ?_
  refine Wk.icmp_ne X0 hx 37 20 (hb hby d1_17) rfl rfl (show ((1 : Int32) : Int32).toInt = 1 from (by decide)) (show ((1 : Int32) : Int32).toInt = 1 from (by decide)) (fun h32 => absurd h32 (by omega)) (fun h32 => ?_)
  refine Wk.newO X0 hx hZ hown (hw _ (List.mem_of_getElem? (i := 5) rfl)) (hw _ (List.mem_of_getElem? (i := 6) rfl)) (hw _ (List.mem_of_getElem? (i := 7) rfl)) e0 (hb hby d1_20) (by decide) (by decide) rfl (fun T1 h1 X1 e1 Ex1 A1 D1 => ?_)
  have hla : n0 ≤ h1.size := Nat.le_trans hn0 Ex1.1
  have hlb : lb ≠ h1.size := Nat.ne_of_lt (Nat.lt_of_lt_of_le B.lt Ex1.1)
  refine Wk.dup X1 hx (hb hby d1_23) rfl rfl ?_
  refine Wk.iconst X1 hx (1 : Int32) (hb hby d1_24) rfl rfl ?_
  refine Wk.newP (z := (1 : Int32)) X1 hx hZ rfl (hw _ (List.mem_of_getElem? (i := 0) rfl)) e1 (by decide) 1 (by decide) (by decide) (by decide) (by decide) (hb hby d1_25) rfl (fun T2 h2 kd X2 e2 Ex2 Av2 => ?_)
  have C2 : Arv Z h2 h1.size kd .char (1 : Int32) (List.replicate 1 (.int 0)) (.int 0) := Av2
  have B2 := (B.ext Ex1).ext Ex2
  have G2 := (G.ext Ex1).ext Ex2
  have E2 := A1.ext Ex2
  have K2 := (Wk.keep_of_ext Ex1).ext Ex2
  have Fv2 := (D1 (Or.inr (hw _ (List.mem_of_getElem? (i := 20) rfl))) (ty := .array .byte) (by decide)).ext Ex2
  have FcE2 := (Wk.FldE.of (D1 (Or.inr (hw _ (List.mem_of_getElem? (i := 21) rfl))) (ty := .byte) (by decide))).ext Ex2
  have FvE2 := Wk.FldE.of Fv2
  have hn2 : n0 ≤ h2.size := Nat.le_trans hla Ex2.1
  refine Wk.dup X2 hx (hb hby d1_27) rfl rfl ?_
  refine Wk.iconst X2 hx (0 : Int32) (hb hby d1_28) rfl rfl ?_
  refine Wk.aloadN X2 hx (hb hby d1_29) rfl rfl rfl ?_
  refine Wk.iconst X2 hx (0 : Int32) (hb hby d1_30) rfl rfl ?_
  refine Wk.caload X2 hx hZ e2 B2 (by decide) (by decide) rfl (hb hby d1_31) rfl ?_
  refine Wk.castore X2 hx hZ e2 C2 (by decide) (by decide) 0 (by decide) (by simp only [List.length_set, List.length_replicate]; decide) (hb hby d1_32) rfl (fun T33 g33 X33 e33 W33 C33 => ?_)
  rw [narCE u0 (hch u0 (by simp)).1 (hch u0 (by simp)).2] at C33
  have N33 := Fr.snoc X33 (Fr.nil n0) hla
  have G33 := G2.wr W33 (arv_plain C2)
  have B33 := B2.other W33 hlb
  have E33 := E2.wr W33
  have FvE33 := FvE2.wr W33
  have FcE33 := FcE2.wr W33
  have K33 := K2.wr W33 (Or.inr Ex1.1)
  have hn33 : n0 ≤ g33.size := Nat.le_trans hn2 (Keep.of_wr W33).1
  have C9 : Arv Z g33 h1.size kd .char (1 : Int32) (cl [u0]) (.int 0) := C33
  refine Wk.callI (W := 1) X33 hx hZ (argsL := [(.ref h1.size)]) (rest := [(.ref h0.size)]) rfl hown (hw _ (List.mem_of_getElem? (i := 8) rfl)) (hw _ (List.mem_of_getElem? (i := 9) rfl)) (hw _ (List.mem_of_getElem? (i := 7) rfl)) (hw _ (List.mem_of_getElem? (i := 10) rfl)) (by decide) (mi3 l Z a0 hw cs hcs fv hfv h0.size h1.size kd [u0] (1 : Int32) rfl hch (by decide) rfl (by show 1 ≤ 6; decide) (by show 0 < 1; decide) n0 hn0 g33 hn33 G33 E33 FvE33 FcE33 C9) e33 (by decide) (by decide) (by decide) (by decide) (by rw [hml]; rfl) (lenOf pd2 rfl) rfl (Nat.le_of_eq rfl) (hb hby d1_33) rfl (fun T60 v60 L60 X60 hq60 => ?_)
  obtain ⟨rfl, Nc, Kc, Sa⟩ := hq60
  show Wk.Go p e below _ _ _ _ T60 (mkF m 36 #[.val (.ref lb), .val (.int (1 : Int32))] [(.ref h0.size)])
  exact Wk.retAV X60 hx hS (Nat.zero_le _) trivial hlk hret rfl rfl (hb hby d1_36) (by decide) (by decide) ⟨_, rfl, Fr.app N33 Nc, Wk.ext_of_keep (K33.trans Kc (allS (Or.inr (Nat.le_refl _)) all0)), Sa⟩
set_option maxRecDepth 65536 in
set_option maxHeartbeats 40000000 in
theorem mpf2 (l : Launch) (Z : State) (a0 : Array Value) (hw : ∀ d ∈ tables_1, d.before a0 Z = true) (cs : Int32) (hcs : ¬ cs.toInt = 0) (fv : Value) (hfv : fv.isRef = true) (lb : Addr) (kc : ClassId) (u0 u1 : Int32) (hch : Ch [u0, u1]) (rst : List Value) (n0 : Nat) (Ts : List String) (hnot : "" ∉ Ts) (hh : Jvm.Lit.constHeld Z "java/lang/String" 7) (hcw : Jvm.Lit.compactW.before a0 Z = true) (h0 : Heap) (hn0 : n0 ≤ h0.size) (hO : Wk.Old Z h0) (G : Sg Z h0 cs fv) (B : Arv Z h0 lb kc .char 6 (cl [u0, u1] ++ rst) (.int 0)) : Wk.MetV l Z (⟨"com/example/rillet/rillet/transport/Utf8LengthPinLaw", "prefix", "([CI)Ljava/lang/String;"⟩ : MethodName) method_6_code 2 (some (.object "java/lang/String")) [] { frames := 7, cells := 4, slots := 28, locals := 98 } #[(.ref lb), (.int (2 : Int32))] h0 (Qpf Z [u0, u1] h0 n0) (fun vm => Jvm.RoadKit.IB Z vm Ts) (fun _ => True) := by
  refine Wk.startV pn1 ?_
  intro p e s vm0 m below meth c s₁ X0 hx hby hml hown0 hnm hret hlk hZ hS e0 eS hPv
  have hown : (s.setVm vm0).vm.findClass "com/example/rillet/rillet/transport/Utf8LengthPinLaw" = some m.cls := hown0
  refine Wk.enter (g' := (mkF m 0 #[.val (.ref lb), .val (.int (2 : Int32))] [])) (by first | rfl | (simp [entryFrame, mkF, argsToLocals, Value.category, maxLocals]; done) | (simp [entryFrame, mkF, argsToLocals, hcat]; done) | (simp [entryFrame, mkF, argsToLocals, hcat]; rfl)) ?_
  refine Wk.iloadN X0 hx (hb hby d1_0) rfl rfl ?_
  refine Wk.if_ne X0 hx 15 4 (hb hby d1_1) rfl rfl (show ((2 : Int32) : Int32).toInt = 2 from (by decide)) (fun h31 => ?_) (fun h31 => absurd h31 (by omega))
  refine Wk.iloadN X0 hx (hb hby d1_15) rfl rfl ?_
  refine Wk.iconst X0 hx (1 : Int32) (hb hby d1_16) rfl rfl ?_
  refine Wk.icmp_ne X0 hx 37 20 (hb hby d1_17) rfl rfl (show ((2 : Int32) : Int32).toInt = 2 from (by decide)) (show ((1 : Int32) : Int32).toInt = 1 from (by decide)) (fun h32 => ?_) (fun h32 => absurd h32 (by omega))
  refine Wk.iloadN X0 hx (hb hby d1_37) rfl rfl ?_
  refine Wk.iconst X0 hx (2 : Int32) (hb hby d1_38) rfl rfl ?_
  refine Wk.icmp_ne X0 hx 65 42 (hb hby d1_39) rfl rfl (show ((2 : Int32) : Int32).toInt = 2 from (by decide)) (show ((2 : Int32) : Int32).toInt = 2 from (by decide)) (fun h33 => absurd h33 (by omega)) (fun h33 => ?_)
  refine Wk.newO X0 hx hZ hown (hw _ (List.mem_of_getElem? (i := 5) rfl)) (hw _ (List.mem_of_getElem? (i := 6) rfl)) (hw _ (List.mem_of_getElem? (i := 7) rfl)) e0 (hb hby d1_42) (by decide) (by decide) rfl (fun T1 h1 X1 e1 Ex1 A1 D1 => ?_)
  have hla : n0 ≤ h1.size := Nat.le_trans hn0 Ex1.1
  have hlb : lb ≠ h1.size := Nat.ne_of_lt (Nat.lt_of_lt_of_le B.lt Ex1.1)
  refine Wk.dup X1 hx (hb hby d1_45) rfl rfl ?_
  refine Wk.iconst X1 hx (2 : Int32) (hb hby d1_46) rfl rfl ?_
  refine Wk.newP (z := (2 : Int32)) X1 hx hZ rfl (hw _ (List.mem_of_getElem? (i := 0) rfl)) e1 (by decide) 2 (by decide) (by decide) (by decide) (by decide) (hb hby d1_47) rfl (fun T2 h2 kd X2 e2 Ex2 Av2 => ?_)
  have C2 : Arv Z h2 h1.size kd .char (2 : Int32) (List.replicate 2 (.int 0)) (.int 0) := Av2
  have B2 := (B.ext Ex1).ext Ex2
  have G2 := (G.ext Ex1).ext Ex2
  have E2 := A1.ext Ex2
  have K2 := (Wk.keep_of_ext Ex1).ext Ex2
  have Fv2 := (D1 (Or.inr (hw _ (List.mem_of_getElem? (i := 20) rfl))) (ty := .array .byte) (by decide)).ext Ex2
  have FcE2 := (Wk.FldE.of (D1 (Or.inr (hw _ (List.mem_of_getElem? (i := 21) rfl))) (ty := .byte) (by decide))).ext Ex2
  have FvE2 := Wk.FldE.of Fv2
  have hn2 : n0 ≤ h2.size := Nat.le_trans hla Ex2.1
  refine Wk.dup X2 hx (hb hby d1_49) rfl rfl ?_
  refine Wk.iconst X2 hx (0 : Int32) (hb hby d1_50) rfl rfl ?_
  refine Wk.aloadN X2 hx (hb hby d1_51) rfl rfl rfl ?_
  refine Wk.iconst X2 hx (0 : Int32) (hb hby d1_52) rfl rfl ?_
  refine Wk.caload X2 hx hZ e2 B2 (by decide) (by decide) rfl (hb hby d1_53) rfl ?_
  refine Wk.castore X2 hx hZ e2 C2 (by decide) (by decide) 0 (by decide) (by simp only [List.length_set, List.length_replicate]; decide) (hb hby d1_54) rfl (fun T34 g34 X34 e34 W34 C34 => ?_)
  rw [narCE u0 (hch u0 (by simp)).1 (hch u0 (by simp)).2] at C34
  have N34 := Fr.snoc X34 (Fr.nil n0) hla
  have G34 := G2.wr W34 (arv_plain C2)
  have B34 := B2.other W34 hlb
  have E34 := E2.wr W34
  have FvE34 := FvE2.wr W34
  have FcE34 := FcE2.wr W34
  have K34 := K2.wr W34 (Or.inr Ex1.1)
  have hn34 : n0 ≤ g34.size := Nat.le_trans hn2 (Keep.of_wr W34).1
  refine Wk.dup X34 hx (hb hby d1_55) rfl rfl ?_
  refine Wk.iconst X34 hx (1 : Int32) (hb hby d1_56) rfl rfl ?_
  refine Wk.aloadN X34 hx (hb hby d1_57) rfl rfl rfl ?_
  refine Wk.iconst X34 hx (1 : Int32) (hb hby d1_58) rfl rfl ?_
  refine Wk.caload X34 hx hZ e34 B34 (by decide) (by decide) rfl (hb hby d1_59) rfl ?_
  refine Wk.castore X34 hx hZ e34 C34 (by decide) (by decide) 1 (by decide) (by simp only [List.length_set, List.length_replicate]; decide) (hb hby d1_60) rfl (fun T35 g35 X35 e35 W35 C35 => ?_)
  rw [narCE u1 (hch u1 (by simp)).1 (hch u1 (by simp)).2] at C35
  have N35 := Fr.snoc X35 N34 hla
  have G35 := G34.wr W35 (arv_plain C34)
  have B35 := B34.other W35 hlb
  have E35 := E34.wr W35
  have FvE35 := FvE34.wr W35
  have FcE35 := FcE34.wr W35
  have K35 := K34.wr W35 (Or.inr Ex1.1)
  have hn35 : n0 ≤ g35.size := Nat.le_trans hn34 (Keep.of_wr W35).1
  have C9 : Arv Z g35 h1.size kd .char (2 : Int32) (cl [u0, u1]) (.int 0) := C35
  refine Wk.callI (W := 1) X35 hx hZ (argsL := [(.ref h1.size)]) (rest := [(.ref h0.size)]) rfl hown (hw _ (List.mem_of_getElem? (i := 8) rfl)) (hw _ (List.mem_of_getElem? (i := 9) rfl)) (hw _ (List.mem_of_getElem? (i := 7) rfl)) (hw _ (List.mem_of_getElem? (i := 10) rfl)) (by decide) (mi3 l Z a0 hw cs hcs fv hfv h0.size h1.size kd [u0, u1] (2 : Int32) rfl hch (by decide) rfl (by show 2 ≤ 6; decide) (by show 0 < 2; decide) n0 hn0 g35 hn35 G35 E35 FvE35 FcE35 C9) e35 (by decide) (by decide) (by decide) (by decide) (by rw [hml]; rfl) (lenOf pd2 rfl) rfl (Nat.le_of_eq rfl) (hb hby d1_61) rfl (fun T60 v60 L60 X60 hq60 => ?_)
  obtain ⟨rfl, Nc, Kc, Sa⟩ := hq60
  show Wk.Go p e below _ _ _ _ T60 (mkF m 64 #[.val (.ref lb), .val (.int (2 : Int32))] [(.ref h0.size)])
  exact Wk.retAV X60 hx hS (Nat.zero_le _) trivial hlk hret rfl rfl (hb hby d1_64) (by decide) (by decide) ⟨_, rfl, Fr.app N35 Nc, Wk.ext_of_keep (K35.trans Kc (allS (Or.inr (Nat.le_refl _)) all0)), Sa⟩
set_option maxRecDepth 65536 in
set_option maxHeartbeats 40000000 in
theorem mpf3 (l : Launch) (Z : State) (a0 : Array Value) (hw : ∀ d ∈ tables_1, d.before a0 Z = true) (cs : Int32) (hcs : ¬ cs.toInt = 0) (fv : Value) (hfv : fv.isRef = true) (lb : Addr) (kc : ClassId) (u0 u1 u2 : Int32) (hch : Ch [u0, u1, u2]) (rst : List Value) (n0 : Nat) (Ts : List String) (hnot : "" ∉ Ts) (hh : Jvm.Lit.constHeld Z "java/lang/String" 7) (hcw : Jvm.Lit.compactW.before a0 Z = true) (h0 : Heap) (hn0 : n0 ≤ h0.size) (hO : Wk.Old Z h0) (G : Sg Z h0 cs fv) (B : Arv Z h0 lb kc .char 6 (cl [u0, u1, u2] ++ rst) (.int 0)) : Wk.MetV l Z (⟨"com/example/rillet/rillet/transport/Utf8LengthPinLaw", "prefix", "([CI)Ljava/lang/String;"⟩ : MethodName) method_6_code 2 (some (.object "java/lang/String")) [] { frames := 7, cells := 4, slots := 28, locals := 98 } #[(.ref lb), (.int (3 : Int32))] h0 (Qpf Z [u0, u1, u2] h0 n0) (fun vm => Jvm.RoadKit.IB Z vm Ts) (fun _ => True) := by
  refine Wk.startV pn1 ?_
  intro p e s vm0 m below meth c s₁ X0 hx hby hml hown0 hnm hret hlk hZ hS e0 eS hPv
  have hown : (s.setVm vm0).vm.findClass "com/example/rillet/rillet/transport/Utf8LengthPinLaw" = some m.cls := hown0
  refine Wk.enter (g' := (mkF m 0 #[.val (.ref lb), .val (.int (3 : Int32))] [])) (by first | rfl | (simp [entryFrame, mkF, argsToLocals, Value.category, maxLocals]; done) | (simp [entryFrame, mkF, argsToLocals, hcat]; done) | (simp [entryFrame, mkF, argsToLocals, hcat]; rfl)) ?_
  refine Wk.iloadN X0 hx (hb hby d1_0) rfl rfl ?_
  refine Wk.if_ne X0 hx 15 4 (hb hby d1_1) rfl rfl (show ((3 : Int32) : Int32).toInt = 3 from (by decide)) (fun h31 => ?_) (fun h31 => absurd h31 (by omega))
  refine Wk.iloadN X0 hx (hb hby d1_15) rfl rfl ?_
  refine Wk.iconst X0 hx (1 : Int32) (hb hby d1_16) rfl rfl ?_
  refine Wk.icmp_ne X0 hx 37 20 (hb hby d1_17) rfl rfl (show ((3 : Int32) : Int32).toInt = 3 from (by decide)) (show ((1 : Int32) : Int32).toInt = 1 from (by decide)) (fun h32 => ?_) (fun h32 => absurd h32 (by omega))
  refine Wk.iloadN X0 hx (hb hby d1_37) rfl rfl ?_
  refine Wk.iconst X0 hx (2 : Int32) (hb hby d1_38) rfl rfl ?_
  refine Wk.icmp_ne X0 hx 65 42 (hb hby d1_39) rfl rfl (show ((3 : Int32) : Int32).toInt = 3 from (by decide)) (show ((2 : Int32) : Int32).toInt = 2 from (by decide)) (fun h33 => ?_) (fun h33 => absurd h33 (by omega))
  refine Wk.iloadN X0 hx (hb hby d1_65) rfl rfl ?_
  refine Wk.iconst X0 hx (3 : Int32) (hb hby d1_66) rfl rfl ?_
  refine Wk.icmp_ne X0 hx 99 70 (hb hby d1_67) rfl rfl (show ((3 : Int32) : Int32).toInt = 3 from (by decide)) (show ((3 : Int32) : Int32).toInt = 3 from (by decide)) (fun h34 => absurd h34 (by omega)) (fun h34 => ?_)
  refine Wk.newO X0 hx hZ hown (hw _ (List.mem_of_getElem? (i := 5) rfl)) (hw _ (List.mem_of_getElem? (i := 6) rfl)) (hw _ (List.mem_of_getElem? (i := 7) rfl)) e0 (hb hby d1_70) (by decide) (by decide) rfl (fun T1 h1 X1 e1 Ex1 A1 D1 => ?_)
  have hla : n0 ≤ h1.size := Nat.le_trans hn0 Ex1.1
  have hlb : lb ≠ h1.size := Nat.ne_of_lt (Nat.lt_of_lt_of_le B.lt Ex1.1)
  refine Wk.dup X1 hx (hb hby d1_73) rfl rfl ?_
  refine Wk.iconst X1 hx (3 : Int32) (hb hby d1_74) rfl rfl ?_
  refine Wk.newP (z := (3 : Int32)) X1 hx hZ rfl (hw _ (List.mem_of_getElem? (i := 0) rfl)) e1 (by decide) 3 (by decide) (by decide) (by decide) (by decide) (hb hby d1_75) rfl (fun T2 h2 kd X2 e2 Ex2 Av2 => ?_)
  have C2 : Arv Z h2 h1.size kd .char (3 : Int32) (List.replicate 3 (.int 0)) (.int 0) := Av2
  have B2 := (B.ext Ex1).ext Ex2
  have G2 := (G.ext Ex1).ext Ex2
  have E2 := A1.ext Ex2
  have K2 := (Wk.keep_of_ext Ex1).ext Ex2
  have Fv2 := (D1 (Or.inr (hw _ (List.mem_of_getElem? (i := 20) rfl))) (ty := .array .byte) (by decide)).ext Ex2
  have FcE2 := (Wk.FldE.of (D1 (Or.inr (hw _ (List.mem_of_getElem? (i := 21) rfl))) (ty := .byte) (by decide))).ext Ex2
  have FvE2 := Wk.FldE.of Fv2
  have hn2 : n0 ≤ h2.size := Nat.le_trans hla Ex2.1
  refine Wk.dup X2 hx (hb hby d1_77) rfl rfl ?_
  refine Wk.iconst X2 hx (0 : Int32) (hb hby d1_78) rfl rfl ?_
  refine Wk.aloadN X2 hx (hb hby d1_79) rfl rfl rfl ?_
  refine Wk.iconst X2 hx (0 : Int32) (hb hby d1_80) rfl rfl ?_
  refine Wk.caload X2 hx hZ e2 B2 (by decide) (by decide) rfl (hb hby d1_81) rfl ?_
  refine Wk.castore X2 hx hZ e2 C2 (by decide) (by decide) 0 (by decide) (by simp only [List.length_set, List.length_replicate]; decide) (hb hby d1_82) rfl (fun T35 g35 X35 e35 W35 C35 => ?_)
  rw [narCE u0 (hch u0 (by simp)).1 (hch u0 (by simp)).2] at C35
  have N35 := Fr.snoc X35 (Fr.nil n0) hla
  have G35 := G2.wr W35 (arv_plain C2)
  have B35 := B2.other W35 hlb
  have E35 := E2.wr W35
  have FvE35 := FvE2.wr W35
  have FcE35 := FcE2.wr W35
  have K35 := K2.wr W35 (Or.inr Ex1.1)
  have hn35 : n0 ≤ g35.size := Nat.le_trans hn2 (Keep.of_wr W35).1
  refine Wk.dup X35 hx (hb hby d1_83) rfl rfl ?_
  refine Wk.iconst X35 hx (1 : Int32) (hb hby d1_84) rfl rfl ?_
  refine Wk.aloadN X35 hx (hb hby d1_85) rfl rfl rfl ?_
  refine Wk.iconst X35 hx (1 : Int32) (hb hby d1_86) rfl rfl ?_
  refine Wk.caload X35 hx hZ e35 B35 (by decide) (by decide) rfl (hb hby d1_87) rfl ?_
  refine Wk.castore X35 hx hZ e35 C35 (by decide) (by decide) 1 (by decide) (by simp only [List.length_set, List.length_replicate]; decide) (hb hby d1_88) rfl (fun T36 g36 X36 e36 W36 C36 => ?_)
  rw [narCE u1 (hch u1 (by simp)).1 (hch u1 (by simp)).2] at C36
  have N36 := Fr.snoc X36 N35 hla
  have G36 := G35.wr W36 (arv_plain C35)
  have B36 := B35.other W36 hlb
  have E36 := E35.wr W36
  have FvE36 := FvE35.wr W36
  have FcE36 := FcE35.wr W36
  have K36 := K35.wr W36 (Or.inr Ex1.1)
  have hn36 : n0 ≤ g36.size := Nat.le_trans hn35 (Keep.of_wr W36).1
  refine Wk.dup X36 hx (hb hby d1_89) rfl rfl ?_
  refine Wk.iconst X36 hx (2 : Int32) (hb hby d1_90) rfl rfl ?_
  refine Wk.aloadN X36 hx (hb hby d1_91) rfl rfl rfl ?_
  refine Wk.iconst X36 hx (2 : Int32) (hb hby d1_92) rfl rfl ?_
  refine Wk.caload X36 hx hZ e36 B36 (by decide) (by decide) rfl (hb hby d1_93) rfl ?_
  refine Wk.castore X36 hx hZ e36 C36 (by decide) (by decide) 2 (by decide) (by simp only [List.length_set, List.length_replicate]; decide) (hb hby d1_94) rfl (fun T37 g37 X37 e37 W37 C37 => ?_)
  rw [narCE u2 (hch u2 (by simp)).1 (hch u2 (by simp)).2] at C37
  have N37 := Fr.snoc X37 N36 hla
  have G37 := G36.wr W37 (arv_plain C36)
  have B37 := B36.other W37 hlb
  have E37 := E36.wr W37
  have FvE37 := FvE36.wr W37
  have FcE37 := FcE36.wr W37
  have K37 := K36.wr W37 (Or.inr Ex1.1)
  have hn37 : n0 ≤ g37.size := Nat.le_trans hn36 (Keep.of_wr W37).1
  have C9 : Arv Z g37 h1.size kd .char (3 : Int32) (cl [u0, u1, u2]) (.int 0) := C37
  refine Wk.callI (W := 1) X37 hx hZ (argsL := [(.ref h1.size)]) (rest := [(.ref h0.size)]) rfl hown (hw _ (List.mem_of_getElem? (i := 8) rfl)) (hw _ (List.mem_of_getElem? (i := 9) rfl)) (hw _ (List.mem_of_getElem? (i := 7) rfl)) (hw _ (List.mem_of_getElem? (i := 10) rfl)) (by decide) (mi3 l Z a0 hw cs hcs fv hfv h0.size h1.size kd [u0, u1, u2] (3 : Int32) rfl hch (by decide) rfl (by show 3 ≤ 6; decide) (by show 0 < 3; decide) n0 hn0 g37 hn37 G37 E37 FvE37 FcE37 C9) e37 (by decide) (by decide) (by decide) (by decide) (by rw [hml]; rfl) (lenOf pd2 rfl) rfl (Nat.le_of_eq rfl) (hb hby d1_95) rfl (fun T60 v60 L60 X60 hq60 => ?_)
  obtain ⟨rfl, Nc, Kc, Sa⟩ := hq60
  show Wk.Go p e below _ _ _ _ T60 (mkF m 98 #[.val (.ref lb), .val (.int (3 : Int32))] [(.ref h0.size)])
  exact Wk.retAV X60 hx hS (Nat.zero_le _) trivial hlk hret rfl rfl (hb hby d1_98) (by decide) (by decide) ⟨_, rfl, Fr.app N37 Nc, Wk.ext_of_keep (K37.trans Kc (allS (Or.inr (Nat.le_refl _)) all0)), Sa⟩
set_option maxRecDepth 65536 in
set_option maxHeartbeats 40000000 in
theorem mpf4 (l : Launch) (Z : State) (a0 : Array Value) (hw : ∀ d ∈ tables_1, d.before a0 Z = true) (cs : Int32) (hcs : ¬ cs.toInt = 0) (fv : Value) (hfv : fv.isRef = true) (lb : Addr) (kc : ClassId) (u0 u1 u2 u3 : Int32) (hch : Ch [u0, u1, u2, u3]) (rst : List Value) (n0 : Nat) (Ts : List String) (hnot : "" ∉ Ts) (hh : Jvm.Lit.constHeld Z "java/lang/String" 7) (hcw : Jvm.Lit.compactW.before a0 Z = true) (h0 : Heap) (hn0 : n0 ≤ h0.size) (hO : Wk.Old Z h0) (G : Sg Z h0 cs fv) (B : Arv Z h0 lb kc .char 6 (cl [u0, u1, u2, u3] ++ rst) (.int 0)) : Wk.MetV l Z (⟨"com/example/rillet/rillet/transport/Utf8LengthPinLaw", "prefix", "([CI)Ljava/lang/String;"⟩ : MethodName) method_6_code 2 (some (.object "java/lang/String")) [] { frames := 7, cells := 4, slots := 28, locals := 98 } #[(.ref lb), (.int (4 : Int32))] h0 (Qpf Z [u0, u1, u2, u3] h0 n0) (fun vm => Jvm.RoadKit.IB Z vm Ts) (fun _ => True) := by
  refine Wk.startV pn1 ?_
  intro p e s vm0 m below meth c s₁ X0 hx hby hml hown0 hnm hret hlk hZ hS e0 eS hPv
  have hown : (s.setVm vm0).vm.findClass "com/example/rillet/rillet/transport/Utf8LengthPinLaw" = some m.cls := hown0
  refine Wk.enter (g' := (mkF m 0 #[.val (.ref lb), .val (.int (4 : Int32))] [])) (by first | rfl | (simp [entryFrame, mkF, argsToLocals, Value.category, maxLocals]; done) | (simp [entryFrame, mkF, argsToLocals, hcat]; done) | (simp [entryFrame, mkF, argsToLocals, hcat]; rfl)) ?_
  refine Wk.iloadN X0 hx (hb hby d1_0) rfl rfl ?_
  refine Wk.if_ne X0 hx 15 4 (hb hby d1_1) rfl rfl (show ((4 : Int32) : Int32).toInt = 4 from (by decide)) (fun h31 => ?_) (fun h31 => absurd h31 (by omega))
  refine Wk.iloadN X0 hx (hb hby d1_15) rfl rfl ?_
  refine Wk.iconst X0 hx (1 : Int32) (hb hby d1_16) rfl rfl ?_
  refine Wk.icmp_ne X0 hx 37 20 (hb hby d1_17) rfl rfl (show ((4 : Int32) : Int32).toInt = 4 from (by decide)) (show ((1 : Int32) : Int32).toInt = 1 from (by decide)) (fun h32 => ?_) (fun h32 => absurd h32 (by omega))
  refine Wk.iloadN X0 hx (hb hby d1_37) rfl rfl ?_
  refine Wk.iconst X0 hx (2 : Int32) (hb hby d1_38) rfl rfl ?_
  refine Wk.icmp_ne X0 hx 65 42 (hb hby d1_39) rfl rfl (show ((4 : Int32) : Int32).toInt = 4 from (by decide)) (show ((2 : Int32) : Int32).toInt = 2 from (by decide)) (fun h33 => ?_) (fun h33 => absurd h33 (by omega))
  refine Wk.iloadN X0 hx (hb hby d1_65) rfl rfl ?_
  refine Wk.iconst X0 hx (3 : Int32) (hb hby d1_66) rfl rfl ?_
  refine Wk.icmp_ne X0 hx 99 70 (hb hby d1_67) rfl rfl (show ((4 : Int32) : Int32).toInt = 4 from (by decide)) (show ((3 : Int32) : Int32).toInt = 3 from (by decide)) (fun h34 => ?_) (fun h34 => absurd h34 (by omega))
  refine Wk.iloadN X0 hx (hb hby d1_99) rfl rfl ?_
  refine Wk.iconst X0 hx (4 : Int32) (hb hby d1_100) rfl rfl ?_
  refine Wk.icmp_ne X0 hx 139 104 (hb hby d1_101) rfl rfl (show ((4 : Int32) : Int32).toInt = 4 from (by decide)) (show ((4 : Int32) : Int32).toInt = 4 from (by decide)) (fun h35 => absurd h35 (by omega)) (fun h35 => ?_)
  refine Wk.newO X0 hx hZ hown (hw _ (List.mem_of_getElem? (i := 5) rfl)) (hw _ (List.mem_of_getElem? (i := 6) rfl)) (hw _ (List.mem_of_getElem? (i := 7) rfl)) e0 (hb hby d1_104) (by decide) (by decide) rfl (fun T1 h1 X1 e1 Ex1 A1 D1 => ?_)
  have hla : n0 ≤ h1.size := Nat.le_trans hn0 Ex1.1
  have hlb : lb ≠ h1.size := Nat.ne_of_lt (Nat.lt_of_lt_of_le B.lt Ex1.1)
  refine Wk.dup X1 hx (hb hby d1_107) rfl rfl ?_
  refine Wk.iconst X1 hx (4 : Int32) (hb hby d1_108) rfl rfl ?_
  refine Wk.newP (z := (4 : Int32)) X1 hx hZ rfl (hw _ (List.mem_of_getElem? (i := 0) rfl)) e1 (by decide) 4 (by decide) (by decide) (by decide) (by decide) (hb hby d1_109) rfl (fun T2 h2 kd X2 e2 Ex2 Av2 => ?_)
  have C2 : Arv Z h2 h1.size kd .char (4 : Int32) (List.replicate 4 (.int 0)) (.int 0) := Av2
  have B2 := (B.ext Ex1).ext Ex2
  have G2 := (G.ext Ex1).ext Ex2
  have E2 := A1.ext Ex2
  have K2 := (Wk.keep_of_ext Ex1).ext Ex2
  have Fv2 := (D1 (Or.inr (hw _ (List.mem_of_getElem? (i := 20) rfl))) (ty := .array .byte) (by decide)).ext Ex2
  have FcE2 := (Wk.FldE.of (D1 (Or.inr (hw _ (List.mem_of_getElem? (i := 21) rfl))) (ty := .byte) (by decide))).ext Ex2
  have FvE2 := Wk.FldE.of Fv2
  have hn2 : n0 ≤ h2.size := Nat.le_trans hla Ex2.1
  refine Wk.dup X2 hx (hb hby d1_111) rfl rfl ?_
  refine Wk.iconst X2 hx (0 : Int32) (hb hby d1_112) rfl rfl ?_
  refine Wk.aloadN X2 hx (hb hby d1_113) rfl rfl rfl ?_
  refine Wk.iconst X2 hx (0 : Int32) (hb hby d1_114) rfl rfl ?_
  refine Wk.caload X2 hx hZ e2 B2 (by decide) (by decide) rfl (hb hby d1_115) rfl ?_
  refine Wk.castore X2 hx hZ e2 C2 (by decide) (by decide) 0 (by decide) (by simp only [List.length_set, List.length_replicate]; decide) (hb hby d1_116) rfl (fun T36 g36 X36 e36 W36 C36 => ?_)
  rw [narCE u0 (hch u0 (by simp)).1 (hch u0 (by simp)).2] at C36
  have N36 := Fr.snoc X36 (Fr.nil n0) hla
  have G36 := G2.wr W36 (arv_plain C2)
  have B36 := B2.other W36 hlb
  have E36 := E2.wr W36
  have FvE36 := FvE2.wr W36
  have FcE36 := FcE2.wr W36
  have K36 := K2.wr W36 (Or.inr Ex1.1)
  have hn36 : n0 ≤ g36.size := Nat.le_trans hn2 (Keep.of_wr W36).1
  refine Wk.dup X36 hx (hb hby d1_117) rfl rfl ?_
  refine Wk.iconst X36 hx (1 : Int32) (hb hby d1_118) rfl rfl ?_
  refine Wk.aloadN X36 hx (hb hby d1_119) rfl rfl rfl ?_
  refine Wk.iconst X36 hx (1 : Int32) (hb hby d1_120) rfl rfl ?_
  refine Wk.caload X36 hx hZ e36 B36 (by decide) (by decide) rfl (hb hby d1_121) rfl ?_
  refine Wk.castore X36 hx hZ e36 C36 (by decide) (by decide) 1 (by decide) (by simp only [List.length_set, List.length_replicate]; decide) (hb hby d1_122) rfl (fun T37 g37 X37 e37 W37 C37 => ?_)
  rw [narCE u1 (hch u1 (by simp)).1 (hch u1 (by simp)).2] at C37
  have N37 := Fr.snoc X37 N36 hla
  have G37 := G36.wr W37 (arv_plain C36)
  have B37 := B36.other W37 hlb
  have E37 := E36.wr W37
  have FvE37 := FvE36.wr W37
  have FcE37 := FcE36.wr W37
  have K37 := K36.wr W37 (Or.inr Ex1.1)
  have hn37 : n0 ≤ g37.size := Nat.le_trans hn36 (Keep.of_wr W37).1
  refine Wk.dup X37 hx (hb hby d1_123) rfl rfl ?_
  refine Wk.iconst X37 hx (2 : Int32) (hb hby d1_124) rfl rfl ?_
  refine Wk.aloadN X37 hx (hb hby d1_125) rfl rfl rfl ?_
  refine Wk.iconst X37 hx (2 : Int32) (hb hby d1_126) rfl rfl ?_
  refine Wk.caload X37 hx hZ e37 B37 (by decide) (by decide) rfl (hb hby d1_127) rfl ?_
  refine Wk.castore X37 hx hZ e37 C37 (by decide) (by decide) 2 (by decide) (by simp only [List.length_set, List.length_replicate]; decide) (hb hby d1_128) rfl (fun T38 g38 X38 e38 W38 C38 => ?_)
  rw [narCE u2 (hch u2 (by simp)).1 (hch u2 (by simp)).2] at C38
  have N38 := Fr.snoc X38 N37 hla
  have G38 := G37.wr W38 (arv_plain C37)
  have B38 := B37.other W38 hlb
  have E38 := E37.wr W38
  have FvE38 := FvE37.wr W38
  have FcE38 := FcE37.wr W38
  have K38 := K37.wr W38 (Or.inr Ex1.1)
  have hn38 : n0 ≤ g38.size := Nat.le_trans hn37 (Keep.of_wr W38).1
  refine Wk.dup X38 hx (hb hby d1_129) rfl rfl ?_
  refine Wk.iconst X38 hx (3 : Int32) (hb hby d1_130) rfl rfl ?_
  refine Wk.aloadN X38 hx (hb hby d1_131) rfl rfl rfl ?_
  refine Wk.iconst X38 hx (3 : Int32) (hb hby d1_132) rfl rfl ?_
  refine Wk.caload X38 hx hZ e38 B38 (by decide) (by decide) rfl (hb hby d1_133) rfl ?_
  refine Wk.castore X38 hx hZ e38 C38 (by decide) (by decide) 3 (by decide) (by simp only [List.length_set, List.length_replicate]; decide) (hb hby d1_134) rfl (fun T39 g39 X39 e39 W39 C39 => ?_)
  rw [narCE u3 (hch u3 (by simp)).1 (hch u3 (by simp)).2] at C39
  have N39 := Fr.snoc X39 N38 hla
  have G39 := G38.wr W39 (arv_plain C38)
  have B39 := B38.other W39 hlb
  have E39 := E38.wr W39
  have FvE39 := FvE38.wr W39
  have FcE39 := FcE38.wr W39
  have K39 := K38.wr W39 (Or.inr Ex1.1)
  have hn39 : n0 ≤ g39.size := Nat.le_trans hn38 (Keep.of_wr W39).1
  have C9 : Arv Z g39 h1.size kd .char (4 : Int32) (cl [u0, u1, u2, u3]) (.int 0) := C39
  refine Wk.callI (W := 1) X39 hx hZ (argsL := [(.ref h1.size)]) (rest := [(.ref h0.size)]) rfl hown (hw _ (List.mem_of_getElem? (i := 8) rfl)) (hw _ (List.mem_of_getElem? (i := 9) rfl)) (hw _ (List.mem_of_getElem? (i := 7) rfl)) (hw _ (List.mem_of_getElem? (i := 10) rfl)) (by decide) (mi3 l Z a0 hw cs hcs fv hfv h0.size h1.size kd [u0, u1, u2, u3] (4 : Int32) rfl hch (by decide) rfl (by show 4 ≤ 6; decide) (by show 0 < 4; decide) n0 hn0 g39 hn39 G39 E39 FvE39 FcE39 C9) e39 (by decide) (by decide) (by decide) (by decide) (by rw [hml]; rfl) (lenOf pd2 rfl) rfl (Nat.le_of_eq rfl) (hb hby d1_135) rfl (fun T60 v60 L60 X60 hq60 => ?_)
  obtain ⟨rfl, Nc, Kc, Sa⟩ := hq60
  show Wk.Go p e below _ _ _ _ T60 (mkF m 138 #[.val (.ref lb), .val (.int (4 : Int32))] [(.ref h0.size)])
  exact Wk.retAV X60 hx hS (Nat.zero_le _) trivial hlk hret rfl rfl (hb hby d1_138) (by decide) (by decide) ⟨_, rfl, Fr.app N39 Nc, Wk.ext_of_keep (K39.trans Kc (allS (Or.inr (Nat.le_refl _)) all0)), Sa⟩
set_option maxRecDepth 65536 in
set_option maxHeartbeats 40000000 in
theorem mpf5 (l : Launch) (Z : State) (a0 : Array Value) (hw : ∀ d ∈ tables_1, d.before a0 Z = true) (cs : Int32) (hcs : ¬ cs.toInt = 0) (fv : Value) (hfv : fv.isRef = true) (lb : Addr) (kc : ClassId) (u0 u1 u2 u3 u4 : Int32) (hch : Ch [u0, u1, u2, u3, u4]) (rst : List Value) (n0 : Nat) (Ts : List String) (hnot : "" ∉ Ts) (hh : Jvm.Lit.constHeld Z "java/lang/String" 7) (hcw : Jvm.Lit.compactW.before a0 Z = true) (h0 : Heap) (hn0 : n0 ≤ h0.size) (hO : Wk.Old Z h0) (G : Sg Z h0 cs fv) (B : Arv Z h0 lb kc .char 6 (cl [u0, u1, u2, u3, u4] ++ rst) (.int 0)) : Wk.MetV l Z (⟨"com/example/rillet/rillet/transport/Utf8LengthPinLaw", "prefix", "([CI)Ljava/lang/String;"⟩ : MethodName) method_6_code 2 (some (.object "java/lang/String")) [] { frames := 7, cells := 4, slots := 28, locals := 98 } #[(.ref lb), (.int (5 : Int32))] h0 (Qpf Z [u0, u1, u2, u3, u4] h0 n0) (fun vm => Jvm.RoadKit.IB Z vm Ts) (fun _ => True) := by
  refine Wk.startV pn1 ?_
  intro p e s vm0 m below meth c s₁ X0 hx hby hml hown0 hnm hret hlk hZ hS e0 eS hPv
  have hown : (s.setVm vm0).vm.findClass "com/example/rillet/rillet/transport/Utf8LengthPinLaw" = some m.cls := hown0
  refine Wk.enter (g' := (mkF m 0 #[.val (.ref lb), .val (.int (5 : Int32))] [])) (by first | rfl | (simp [entryFrame, mkF, argsToLocals, Value.category, maxLocals]; done) | (simp [entryFrame, mkF, argsToLocals, hcat]; done) | (simp [entryFrame, mkF, argsToLocals, hcat]; rfl)) ?_
  refine Wk.iloadN X0 hx (hb hby d1_0) rfl rfl ?_
  refine Wk.if_ne X0 hx 15 4 (hb hby d1_1) rfl rfl (show ((5 : Int32) : Int32).toInt = 5 from (by decide)) (fun h31 => ?_) (fun h31 => absurd h31 (by omega))
  refine Wk.iloadN X0 hx (hb hby d1_15) rfl rfl ?_
  refine Wk.iconst X0 hx (1 : Int32) (hb hby d1_16) rfl rfl ?_
  refine Wk.icmp_ne X0 hx 37 20 (hb hby d1_17) rfl rfl (show ((5 : Int32) : Int32).toInt = 5 from (by decide)) (show ((1 : Int32) : Int32).toInt = 1 from (by decide)) (fun h32 => ?_) (fun h32 => absurd h32 (by omega))
  refine Wk.iloadN X0 hx (hb hby d1_37) rfl rfl ?_
  refine Wk.iconst X0 hx (2 : Int32) (hb hby d1_38) rfl rfl ?_
  refine Wk.icmp_ne X0 hx 65 42 (hb hby d1_39) rfl rfl (show ((5 : Int32) : Int32).toInt = 5 from (by decide)) (show ((2 : Int32) : Int32).toInt = 2 from (by decide)) (fun h33 => ?_) (fun h33 => absurd h33 (by omega))
  refine Wk.iloadN X0 hx (hb hby d1_65) rfl rfl ?_
  refine Wk.iconst X0 hx (3 : Int32) (hb hby d1_66) rfl rfl ?_
  refine Wk.icmp_ne X0 hx 99 70 (hb hby d1_67) rfl rfl (show ((5 : Int32) : Int32).toInt = 5 from (by decide)) (show ((3 : Int32) : Int32).toInt = 3 from (by decide)) (fun h34 => ?_) (fun h34 => absurd h34 (by omega))
  refine Wk.iloadN X0 hx (hb hby d1_99) rfl rfl ?_
  refine Wk.iconst X0 hx (4 : Int32) (hb hby d1_100) rfl rfl ?_
  refine Wk.icmp_ne X0 hx 139 104 (hb hby d1_101) rfl rfl (show ((5 : Int32) : Int32).toInt = 5 from (by decide)) (show ((4 : Int32) : Int32).toInt = 4 from (by decide)) (fun h35 => ?_) (fun h35 => absurd h35 (by omega))
  refine Wk.iloadN X0 hx (hb hby d1_139) rfl rfl ?_
  refine Wk.iconst X0 hx (5 : Int32) (hb hby d1_140) rfl rfl ?_
  refine Wk.icmp_ne X0 hx 185 144 (hb hby d1_141) rfl rfl (show ((5 : Int32) : Int32).toInt = 5 from (by decide)) (show ((5 : Int32) : Int32).toInt = 5 from (by decide)) (fun h36 => absurd h36 (by omega)) (fun h36 => ?_)
  refine Wk.newO X0 hx hZ hown (hw _ (List.mem_of_getElem? (i := 5) rfl)) (hw _ (List.mem_of_getElem? (i := 6) rfl)) (hw _ (List.mem_of_getElem? (i := 7) rfl)) e0 (hb hby d1_144) (by decide) (by decide) rfl (fun T1 h1 X1 e1 Ex1 A1 D1 => ?_)
  have hla : n0 ≤ h1.size := Nat.le_trans hn0 Ex1.1
  have hlb : lb ≠ h1.size := Nat.ne_of_lt (Nat.lt_of_lt_of_le B.lt Ex1.1)
  refine Wk.dup X1 hx (hb hby d1_147) rfl rfl ?_
  refine Wk.iconst X1 hx (5 : Int32) (hb hby d1_148) rfl rfl ?_
  refine Wk.newP (z := (5 : Int32)) X1 hx hZ rfl (hw _ (List.mem_of_getElem? (i := 0) rfl)) e1 (by decide) 5 (by decide) (by decide) (by decide) (by decide) (hb hby d1_149) rfl (fun T2 h2 kd X2 e2 Ex2 Av2 => ?_)
  have C2 : Arv Z h2 h1.size kd .char (5 : Int32) (List.replicate 5 (.int 0)) (.int 0) := Av2
  have B2 := (B.ext Ex1).ext Ex2
  have G2 := (G.ext Ex1).ext Ex2
  have E2 := A1.ext Ex2
  have K2 := (Wk.keep_of_ext Ex1).ext Ex2
  have Fv2 := (D1 (Or.inr (hw _ (List.mem_of_getElem? (i := 20) rfl))) (ty := .array .byte) (by decide)).ext Ex2
  have FcE2 := (Wk.FldE.of (D1 (Or.inr (hw _ (List.mem_of_getElem? (i := 21) rfl))) (ty := .byte) (by decide))).ext Ex2
  have FvE2 := Wk.FldE.of Fv2
  have hn2 : n0 ≤ h2.size := Nat.le_trans hla Ex2.1
  refine Wk.dup X2 hx (hb hby d1_151) rfl rfl ?_
  refine Wk.iconst X2 hx (0 : Int32) (hb hby d1_152) rfl rfl ?_
  refine Wk.aloadN X2 hx (hb hby d1_153) rfl rfl rfl ?_
  refine Wk.iconst X2 hx (0 : Int32) (hb hby d1_154) rfl rfl ?_
  refine Wk.caload X2 hx hZ e2 B2 (by decide) (by decide) rfl (hb hby d1_155) rfl ?_
  refine Wk.castore X2 hx hZ e2 C2 (by decide) (by decide) 0 (by decide) (by simp only [List.length_set, List.length_replicate]; decide) (hb hby d1_156) rfl (fun T37 g37 X37 e37 W37 C37 => ?_)
  rw [narCE u0 (hch u0 (by simp)).1 (hch u0 (by simp)).2] at C37
  have N37 := Fr.snoc X37 (Fr.nil n0) hla
  have G37 := G2.wr W37 (arv_plain C2)
  have B37 := B2.other W37 hlb
  have E37 := E2.wr W37
  have FvE37 := FvE2.wr W37
  have FcE37 := FcE2.wr W37
  have K37 := K2.wr W37 (Or.inr Ex1.1)
  have hn37 : n0 ≤ g37.size := Nat.le_trans hn2 (Keep.of_wr W37).1
  refine Wk.dup X37 hx (hb hby d1_157) rfl rfl ?_
  refine Wk.iconst X37 hx (1 : Int32) (hb hby d1_158) rfl rfl ?_
  refine Wk.aloadN X37 hx (hb hby d1_159) rfl rfl rfl ?_
  refine Wk.iconst X37 hx (1 : Int32) (hb hby d1_160) rfl rfl ?_
  refine Wk.caload X37 hx hZ e37 B37 (by decide) (by decide) rfl (hb hby d1_161) rfl ?_
  refine Wk.castore X37 hx hZ e37 C37 (by decide) (by decide) 1 (by decide) (by simp only [List.length_set, List.length_replicate]; decide) (hb hby d1_162) rfl (fun T38 g38 X38 e38 W38 C38 => ?_)
  rw [narCE u1 (hch u1 (by simp)).1 (hch u1 (by simp)).2] at C38
  have N38 := Fr.snoc X38 N37 hla
  have G38 := G37.wr W38 (arv_plain C37)
  have B38 := B37.other W38 hlb
  have E38 := E37.wr W38
  have FvE38 := FvE37.wr W38
  have FcE38 := FcE37.wr W38
  have K38 := K37.wr W38 (Or.inr Ex1.1)
  have hn38 : n0 ≤ g38.size := Nat.le_trans hn37 (Keep.of_wr W38).1
  refine Wk.dup X38 hx (hb hby d1_163) rfl rfl ?_
  refine Wk.iconst X38 hx (2 : Int32) (hb hby d1_164) rfl rfl ?_
  refine Wk.aloadN X38 hx (hb hby d1_165) rfl rfl rfl ?_
  refine Wk.iconst X38 hx (2 : Int32) (hb hby d1_166) rfl rfl ?_
  refine Wk.caload X38 hx hZ e38 B38 (by decide) (by decide) rfl (hb hby d1_167) rfl ?_
  refine Wk.castore X38 hx hZ e38 C38 (by decide) (by decide) 2 (by decide) (by simp only [List.length_set, List.length_replicate]; decide) (hb hby d1_168) rfl (fun T39 g39 X39 e39 W39 C39 => ?_)
  rw [narCE u2 (hch u2 (by simp)).1 (hch u2 (by simp)).2] at C39
  have N39 := Fr.snoc X39 N38 hla
  have G39 := G38.wr W39 (arv_plain C38)
  have B39 := B38.other W39 hlb
  have E39 := E38.wr W39
  have FvE39 := FvE38.wr W39
  have FcE39 := FcE38.wr W39
  have K39 := K38.wr W39 (Or.inr Ex1.1)
  have hn39 : n0 ≤ g39.size := Nat.le_trans hn38 (Keep.of_wr W39).1
  refine Wk.dup X39 hx (hb hby d1_169) rfl rfl ?_
  refine Wk.iconst X39 hx (3 : Int32) (hb hby d1_170) rfl rfl ?_
  refine Wk.aloadN X39 hx (hb hby d1_171) rfl rfl rfl ?_
  refine Wk.iconst X39 hx (3 : Int32) (hb hby d1_172) rfl rfl ?_
  refine Wk.caload X39 hx hZ e39 B39 (by decide) (by decide) rfl (hb hby d1_173) rfl ?_
  refine Wk.castore X39 hx hZ e39 C39 (by decide) (by decide) 3 (by decide) (by simp only [List.length_set, List.length_replicate]; decide) (hb hby d1_174) rfl (fun T40 g40 X40 e40 W40 C40 => ?_)
  rw [narCE u3 (hch u3 (by simp)).1 (hch u3 (by simp)).2] at C40
  have N40 := Fr.snoc X40 N39 hla
  have G40 := G39.wr W40 (arv_plain C39)
  have B40 := B39.other W40 hlb
  have E40 := E39.wr W40
  have FvE40 := FvE39.wr W40
  have FcE40 := FcE39.wr W40
  have K40 := K39.wr W40 (Or.inr Ex1.1)
  have hn40 : n0 ≤ g40.size := Nat.le_trans hn39 (Keep.of_wr W40).1
  refine Wk.dup X40 hx (hb hby d1_175) rfl rfl ?_
  refine Wk.iconst X40 hx (4 : Int32) (hb hby d1_176) rfl rfl ?_
  refine Wk.aloadN X40 hx (hb hby d1_177) rfl rfl rfl ?_
  refine Wk.iconst X40 hx (4 : Int32) (hb hby d1_178) rfl rfl ?_
  refine Wk.caload X40 hx hZ e40 B40 (by decide) (by decide) rfl (hb hby d1_179) rfl ?_
  refine Wk.castore X40 hx hZ e40 C40 (by decide) (by decide) 4 (by decide) (by simp only [List.length_set, List.length_replicate]; decide) (hb hby d1_180) rfl (fun T41 g41 X41 e41 W41 C41 => ?_)
  rw [narCE u4 (hch u4 (by simp)).1 (hch u4 (by simp)).2] at C41
  have N41 := Fr.snoc X41 N40 hla
  have G41 := G40.wr W41 (arv_plain C40)
  have B41 := B40.other W41 hlb
  have E41 := E40.wr W41
  have FvE41 := FvE40.wr W41
  have FcE41 := FcE40.wr W41
  have K41 := K40.wr W41 (Or.inr Ex1.1)
  have hn41 : n0 ≤ g41.size := Nat.le_trans hn40 (Keep.of_wr W41).1
  have C9 : Arv Z g41 h1.size kd .char (5 : Int32) (cl [u0, u1, u2, u3, u4]) (.int 0) := C41
  refine Wk.callI (W := 1) X41 hx hZ (argsL := [(.ref h1.size)]) (rest := [(.ref h0.size)]) rfl hown (hw _ (List.mem_of_getElem? (i := 8) rfl)) (hw _ (List.mem_of_getElem? (i := 9) rfl)) (hw _ (List.mem_of_getElem? (i := 7) rfl)) (hw _ (List.mem_of_getElem? (i := 10) rfl)) (by decide) (mi3 l Z a0 hw cs hcs fv hfv h0.size h1.size kd [u0, u1, u2, u3, u4] (5 : Int32) rfl hch (by decide) rfl (by show 5 ≤ 6; decide) (by show 0 < 5; decide) n0 hn0 g41 hn41 G41 E41 FvE41 FcE41 C9) e41 (by decide) (by decide) (by decide) (by decide) (by rw [hml]; rfl) (lenOf pd2 rfl) rfl (Nat.le_of_eq rfl) (hb hby d1_181) rfl (fun T60 v60 L60 X60 hq60 => ?_)
  obtain ⟨rfl, Nc, Kc, Sa⟩ := hq60
  show Wk.Go p e below _ _ _ _ T60 (mkF m 184 #[.val (.ref lb), .val (.int (5 : Int32))] [(.ref h0.size)])
  exact Wk.retAV X60 hx hS (Nat.zero_le _) trivial hlk hret rfl rfl (hb hby d1_184) (by decide) (by decide) ⟨_, rfl, Fr.app N41 Nc, Wk.ext_of_keep (K41.trans Kc (allS (Or.inr (Nat.le_refl _)) all0)), Sa⟩
set_option maxRecDepth 65536 in
set_option maxHeartbeats 40000000 in
theorem mpf6 (l : Launch) (Z : State) (a0 : Array Value) (hw : ∀ d ∈ tables_1, d.before a0 Z = true) (cs : Int32) (hcs : ¬ cs.toInt = 0) (fv : Value) (hfv : fv.isRef = true) (lb : Addr) (kc : ClassId) (u0 u1 u2 u3 u4 u5 : Int32) (hch : Ch [u0, u1, u2, u3, u4, u5]) (rst : List Value) (n0 : Nat) (Ts : List String) (hnot : "" ∉ Ts) (hh : Jvm.Lit.constHeld Z "java/lang/String" 7) (hcw : Jvm.Lit.compactW.before a0 Z = true) (h0 : Heap) (hn0 : n0 ≤ h0.size) (hO : Wk.Old Z h0) (G : Sg Z h0 cs fv) (B : Arv Z h0 lb kc .char 6 (cl [u0, u1, u2, u3, u4, u5] ++ rst) (.int 0)) : Wk.MetV l Z (⟨"com/example/rillet/rillet/transport/Utf8LengthPinLaw", "prefix", "([CI)Ljava/lang/String;"⟩ : MethodName) method_6_code 2 (some (.object "java/lang/String")) [] { frames := 7, cells := 4, slots := 28, locals := 98 } #[(.ref lb), (.int (6 : Int32))] h0 (Qpf Z [u0, u1, u2, u3, u4, u5] h0 n0) (fun vm => Jvm.RoadKit.IB Z vm Ts) (fun _ => True) := by
  refine Wk.startV pn1 ?_
  intro p e s vm0 m below meth c s₁ X0 hx hby hml hown0 hnm hret hlk hZ hS e0 eS hPv
  have hown : (s.setVm vm0).vm.findClass "com/example/rillet/rillet/transport/Utf8LengthPinLaw" = some m.cls := hown0
  refine Wk.enter (g' := (mkF m 0 #[.val (.ref lb), .val (.int (6 : Int32))] [])) (by first | rfl | (simp [entryFrame, mkF, argsToLocals, Value.category, maxLocals]; done) | (simp [entryFrame, mkF, argsToLocals, hcat]; done) | (simp [entryFrame, mkF, argsToLocals, hcat]; rfl)) ?_
  refine Wk.iloadN X0 hx (hb hby d1_0) rfl rfl ?_
  refine Wk.if_ne X0 hx 15 4 (hb hby d1_1) rfl rfl (show ((6 : Int32) : Int32).toInt = 6 from (by decide)) (fun h31 => ?_) (fun h31 => absurd h31 (by omega))
  refine Wk.iloadN X0 hx (hb hby d1_15) rfl rfl ?_
  refine Wk.iconst X0 hx (1 : Int32) (hb hby d1_16) rfl rfl ?_
  refine Wk.icmp_ne X0 hx 37 20 (hb hby d1_17) rfl rfl (show ((6 : Int32) : Int32).toInt = 6 from (by decide)) (show ((1 : Int32) : Int32).toInt = 1 from (by decide)) (fun h32 => ?_) (fun h32 => absurd h32 (by omega))
  refine Wk.iloadN X0 hx (hb hby d1_37) rfl rfl ?_
  refine Wk.iconst X0 hx (2 : Int32) (hb hby d1_38) rfl rfl ?_
  refine Wk.icmp_ne X0 hx 65 42 (hb hby d1_39) rfl rfl (show ((6 : Int32) : Int32).toInt = 6 from (by decide)) (show ((2 : Int32) : Int32).toInt = 2 from (by decide)) (fun h33 => ?_) (fun h33 => absurd h33 (by omega))
  refine Wk.iloadN X0 hx (hb hby d1_65) rfl rfl ?_
  refine Wk.iconst X0 hx (3 : Int32) (hb hby d1_66) rfl rfl ?_
  refine Wk.icmp_ne X0 hx 99 70 (hb hby d1_67) rfl rfl (show ((6 : Int32) : Int32).toInt = 6 from (by decide)) (show ((3 : Int32) : Int32).toInt = 3 from (by decide)) (fun h34 => ?_) (fun h34 => absurd h34 (by omega))
  refine Wk.iloadN X0 hx (hb hby d1_99) rfl rfl ?_
  refine Wk.iconst X0 hx (4 : Int32) (hb hby d1_100) rfl rfl ?_
  refine Wk.icmp_ne X0 hx 139 104 (hb hby d1_101) rfl rfl (show ((6 : Int32) : Int32).toInt = 6 from (by decide)) (show ((4 : Int32) : Int32).toInt = 4 from (by decide)) (fun h35 => ?_) (fun h35 => absurd h35 (by omega))
  refine Wk.iloadN X0 hx (hb hby d1_139) rfl rfl ?_
  refine Wk.iconst X0 hx (5 : Int32) (hb hby d1_140) rfl rfl ?_
  refine Wk.icmp_ne X0 hx 185 144 (hb hby d1_141) rfl rfl (show ((6 : Int32) : Int32).toInt = 6 from (by decide)) (show ((5 : Int32) : Int32).toInt = 5 from (by decide)) (fun h36 => ?_) (fun h36 => absurd h36 (by omega))
  refine Wk.newO X0 hx hZ hown (hw _ (List.mem_of_getElem? (i := 5) rfl)) (hw _ (List.mem_of_getElem? (i := 6) rfl)) (hw _ (List.mem_of_getElem? (i := 7) rfl)) e0 (hb hby d1_185) (by decide) (by decide) rfl (fun T1 h1 X1 e1 Ex1 A1 D1 => ?_)
  have hla : n0 ≤ h1.size := Nat.le_trans hn0 Ex1.1
  have hlb : lb ≠ h1.size := Nat.ne_of_lt (Nat.lt_of_lt_of_le B.lt Ex1.1)
  refine Wk.dup X1 hx (hb hby d1_188) rfl rfl ?_
  refine Wk.bipush X1 hx (6 : Int32) (hb hby d1_189) rfl rfl ?_
  refine Wk.newP (z := (6 : Int32)) X1 hx hZ rfl (hw _ (List.mem_of_getElem? (i := 0) rfl)) e1 (by decide) 6 (by decide) (by decide) (by decide) (by decide) (hb hby d1_191) rfl (fun T2 h2 kd X2 e2 Ex2 Av2 => ?_)
  have C2 : Arv Z h2 h1.size kd .char (6 : Int32) (List.replicate 6 (.int 0)) (.int 0) := Av2
  have B2 := (B.ext Ex1).ext Ex2
  have G2 := (G.ext Ex1).ext Ex2
  have E2 := A1.ext Ex2
  have K2 := (Wk.keep_of_ext Ex1).ext Ex2
  have Fv2 := (D1 (Or.inr (hw _ (List.mem_of_getElem? (i := 20) rfl))) (ty := .array .byte) (by decide)).ext Ex2
  have FcE2 := (Wk.FldE.of (D1 (Or.inr (hw _ (List.mem_of_getElem? (i := 21) rfl))) (ty := .byte) (by decide))).ext Ex2
  have FvE2 := Wk.FldE.of Fv2
  have hn2 : n0 ≤ h2.size := Nat.le_trans hla Ex2.1
  refine Wk.dup X2 hx (hb hby d1_193) rfl rfl ?_
  refine Wk.iconst X2 hx (0 : Int32) (hb hby d1_194) rfl rfl ?_
  refine Wk.aloadN X2 hx (hb hby d1_195) rfl rfl rfl ?_
  refine Wk.iconst X2 hx (0 : Int32) (hb hby d1_196) rfl rfl ?_
  refine Wk.caload X2 hx hZ e2 B2 (by decide) (by decide) rfl (hb hby d1_197) rfl ?_
  refine Wk.castore X2 hx hZ e2 C2 (by decide) (by decide) 0 (by decide) (by simp only [List.length_set, List.length_replicate]; decide) (hb hby d1_198) rfl (fun T37 g37 X37 e37 W37 C37 => ?_)
  rw [narCE u0 (hch u0 (by simp)).1 (hch u0 (by simp)).2] at C37
  have N37 := Fr.snoc X37 (Fr.nil n0) hla
  have G37 := G2.wr W37 (arv_plain C2)
  have B37 := B2.other W37 hlb
  have E37 := E2.wr W37
  have FvE37 := FvE2.wr W37
  have FcE37 := FcE2.wr W37
  have K37 := K2.wr W37 (Or.inr Ex1.1)
  have hn37 : n0 ≤ g37.size := Nat.le_trans hn2 (Keep.of_wr W37).1
  refine Wk.dup X37 hx (hb hby d1_199) rfl rfl ?_
  refine Wk.iconst X37 hx (1 : Int32) (hb hby d1_200) rfl rfl ?_
  refine Wk.aloadN X37 hx (hb hby d1_201) rfl rfl rfl ?_
  refine Wk.iconst X37 hx (1 : Int32) (hb hby d1_202) rfl rfl ?_
  refine Wk.caload X37 hx hZ e37 B37 (by decide) (by decide) rfl (hb hby d1_203) rfl ?_
  refine Wk.castore X37 hx hZ e37 C37 (by decide) (by decide) 1 (by decide) (by simp only [List.length_set, List.length_replicate]; decide) (hb hby d1_204) rfl (fun T38 g38 X38 e38 W38 C38 => ?_)
  rw [narCE u1 (hch u1 (by simp)).1 (hch u1 (by simp)).2] at C38
  have N38 := Fr.snoc X38 N37 hla
  have G38 := G37.wr W38 (arv_plain C37)
  have B38 := B37.other W38 hlb
  have E38 := E37.wr W38
  have FvE38 := FvE37.wr W38
  have FcE38 := FcE37.wr W38
  have K38 := K37.wr W38 (Or.inr Ex1.1)
  have hn38 : n0 ≤ g38.size := Nat.le_trans hn37 (Keep.of_wr W38).1
  refine Wk.dup X38 hx (hb hby d1_205) rfl rfl ?_
  refine Wk.iconst X38 hx (2 : Int32) (hb hby d1_206) rfl rfl ?_
  refine Wk.aloadN X38 hx (hb hby d1_207) rfl rfl rfl ?_
  refine Wk.iconst X38 hx (2 : Int32) (hb hby d1_208) rfl rfl ?_
  refine Wk.caload X38 hx hZ e38 B38 (by decide) (by decide) rfl (hb hby d1_209) rfl ?_
  refine Wk.castore X38 hx hZ e38 C38 (by decide) (by decide) 2 (by decide) (by simp only [List.length_set, List.length_replicate]; decide) (hb hby d1_210) rfl (fun T39 g39 X39 e39 W39 C39 => ?_)
  rw [narCE u2 (hch u2 (by simp)).1 (hch u2 (by simp)).2] at C39
  have N39 := Fr.snoc X39 N38 hla
  have G39 := G38.wr W39 (arv_plain C38)
  have B39 := B38.other W39 hlb
  have E39 := E38.wr W39
  have FvE39 := FvE38.wr W39
  have FcE39 := FcE38.wr W39
  have K39 := K38.wr W39 (Or.inr Ex1.1)
  have hn39 : n0 ≤ g39.size := Nat.le_trans hn38 (Keep.of_wr W39).1
  refine Wk.dup X39 hx (hb hby d1_211) rfl rfl ?_
  refine Wk.iconst X39 hx (3 : Int32) (hb hby d1_212) rfl rfl ?_
  refine Wk.aloadN X39 hx (hb hby d1_213) rfl rfl rfl ?_
  refine Wk.iconst X39 hx (3 : Int32) (hb hby d1_214) rfl rfl ?_
  refine Wk.caload X39 hx hZ e39 B39 (by decide) (by decide) rfl (hb hby d1_215) rfl ?_
  refine Wk.castore X39 hx hZ e39 C39 (by decide) (by decide) 3 (by decide) (by simp only [List.length_set, List.length_replicate]; decide) (hb hby d1_216) rfl (fun T40 g40 X40 e40 W40 C40 => ?_)
  rw [narCE u3 (hch u3 (by simp)).1 (hch u3 (by simp)).2] at C40
  have N40 := Fr.snoc X40 N39 hla
  have G40 := G39.wr W40 (arv_plain C39)
  have B40 := B39.other W40 hlb
  have E40 := E39.wr W40
  have FvE40 := FvE39.wr W40
  have FcE40 := FcE39.wr W40
  have K40 := K39.wr W40 (Or.inr Ex1.1)
  have hn40 : n0 ≤ g40.size := Nat.le_trans hn39 (Keep.of_wr W40).1
  refine Wk.dup X40 hx (hb hby d1_217) rfl rfl ?_
  refine Wk.iconst X40 hx (4 : Int32) (hb hby d1_218) rfl rfl ?_
  refine Wk.aloadN X40 hx (hb hby d1_219) rfl rfl rfl ?_
  refine Wk.iconst X40 hx (4 : Int32) (hb hby d1_220) rfl rfl ?_
  refine Wk.caload X40 hx hZ e40 B40 (by decide) (by decide) rfl (hb hby d1_221) rfl ?_
  refine Wk.castore X40 hx hZ e40 C40 (by decide) (by decide) 4 (by decide) (by simp only [List.length_set, List.length_replicate]; decide) (hb hby d1_222) rfl (fun T41 g41 X41 e41 W41 C41 => ?_)
  rw [narCE u4 (hch u4 (by simp)).1 (hch u4 (by simp)).2] at C41
  have N41 := Fr.snoc X41 N40 hla
  have G41 := G40.wr W41 (arv_plain C40)
  have B41 := B40.other W41 hlb
  have E41 := E40.wr W41
  have FvE41 := FvE40.wr W41
  have FcE41 := FcE40.wr W41
  have K41 := K40.wr W41 (Or.inr Ex1.1)
  have hn41 : n0 ≤ g41.size := Nat.le_trans hn40 (Keep.of_wr W41).1
  refine Wk.dup X41 hx (hb hby d1_223) rfl rfl ?_
  refine Wk.iconst X41 hx (5 : Int32) (hb hby d1_224) rfl rfl ?_
  refine Wk.aloadN X41 hx (hb hby d1_225) rfl rfl rfl ?_
  refine Wk.iconst X41 hx (5 : Int32) (hb hby d1_226) rfl rfl ?_
  refine Wk.caload X41 hx hZ e41 B41 (by decide) (by decide) rfl (hb hby d1_227) rfl ?_
  refine Wk.castore X41 hx hZ e41 C41 (by decide) (by decide) 5 (by decide) (by simp only [List.length_set, List.length_replicate]; decide) (hb hby d1_228) rfl (fun T42 g42 X42 e42 W42 C42 => ?_)
  rw [narCE u5 (hch u5 (by simp)).1 (hch u5 (by simp)).2] at C42
  have N42 := Fr.snoc X42 N41 hla
  have G42 := G41.wr W42 (arv_plain C41)
  have B42 := B41.other W42 hlb
  have E42 := E41.wr W42
  have FvE42 := FvE41.wr W42
  have FcE42 := FcE41.wr W42
  have K42 := K41.wr W42 (Or.inr Ex1.1)
  have hn42 : n0 ≤ g42.size := Nat.le_trans hn41 (Keep.of_wr W42).1
  have C9 : Arv Z g42 h1.size kd .char (6 : Int32) (cl [u0, u1, u2, u3, u4, u5]) (.int 0) := C42
  refine Wk.callI (W := 1) X42 hx hZ (argsL := [(.ref h1.size)]) (rest := [(.ref h0.size)]) rfl hown (hw _ (List.mem_of_getElem? (i := 8) rfl)) (hw _ (List.mem_of_getElem? (i := 9) rfl)) (hw _ (List.mem_of_getElem? (i := 7) rfl)) (hw _ (List.mem_of_getElem? (i := 10) rfl)) (by decide) (mi3 l Z a0 hw cs hcs fv hfv h0.size h1.size kd [u0, u1, u2, u3, u4, u5] (6 : Int32) rfl hch (by decide) rfl (by show 6 ≤ 6; decide) (by show 0 < 6; decide) n0 hn0 g42 hn42 G42 E42 FvE42 FcE42 C9) e42 (by decide) (by decide) (by decide) (by decide) (by rw [hml]; rfl) (lenOf pd2 rfl) rfl (Nat.le_of_eq rfl) (hb hby d1_229) rfl (fun T60 v60 L60 X60 hq60 => ?_)
  obtain ⟨rfl, Nc, Kc, Sa⟩ := hq60
  show Wk.Go p e below _ _ _ _ T60 (mkF m 232 #[.val (.ref lb), .val (.int (6 : Int32))] [(.ref h0.size)])
  exact Wk.retAV X60 hx hS (Nat.zero_le _) trivial hlk hret rfl rfl (hb hby d1_232) (by decide) (by decide) ⟨_, rfl, Fr.app N42 Nc, Wk.ext_of_keep (K42.trans Kc (allS (Or.inr (Nat.le_refl _)) all0)), Sa⟩
theorem mpf (l : Launch) (Z : State) (a0 : Array Value) (hw : ∀ d ∈ tables_1, d.before a0 Z = true) (cs : Int32) (hcs : ¬ cs.toInt = 0) (fv : Value) (hfv : fv.isRef = true) (lb : Addr) (kc : ClassId) (us : List Int32) (hch : Ch us) (hl : us.length ≤ 6) (n : Int32) (hn : n.toInt = (us.length : Int)) (rst : List Value) (n0 : Nat) (Ts : List String) (hnot : "" ∉ Ts) (hh : Jvm.Lit.constHeld Z "java/lang/String" 7) (hcw : Jvm.Lit.compactW.before a0 Z = true) (h0 : Heap) (hn0 : n0 ≤ h0.size) (hO : Wk.Old Z h0) (G : Sg Z h0 cs fv) (B : Arv Z h0 lb kc .char 6 (cl us ++ rst) (.int 0)) : Wk.MetV l Z (⟨"com/example/rillet/rillet/transport/Utf8LengthPinLaw", "prefix", "([CI)Ljava/lang/String;"⟩ : MethodName) method_6_code 2 (some (.object "java/lang/String")) [] { frames := 7, cells := 4, slots := 28, locals := 98 } #[.ref lb, .int n] h0 (Qpf Z us h0 n0) (fun vm => Jvm.RoadKit.IB Z vm Ts) (fun _ => True) := by
  match us, hch, hl, hn, B with
  | [], hch, _, hn, B =>
    obtain rfl : n = (0 : Int32) := Int32.toInt_inj.mp (show n.toInt = 0 from hn)
    exact mpf0 l Z a0 hw cs hcs fv hfv lb kc  hch rst n0 Ts hnot hh hcw h0 hn0 hO G B
  | [u0], hch, _, hn, B =>
    obtain rfl : n = (1 : Int32) := Int32.toInt_inj.mp (show n.toInt = 1 from hn)
    exact mpf1 l Z a0 hw cs hcs fv hfv lb kc u0 hch rst n0 Ts hnot hh hcw h0 hn0 hO G B
  | [u0, u1], hch, _, hn, B =>
    obtain rfl : n = (2 : Int32) := Int32.toInt_inj.mp (show n.toInt = 2 from hn)
    exact mpf2 l Z a0 hw cs hcs fv hfv lb kc u0 u1 hch rst n0 Ts hnot hh hcw h0 hn0 hO G B
  | [u0, u1, u2], hch, _, hn, B =>
    obtain rfl : n = (3 : Int32) := Int32.toInt_inj.mp (show n.toInt = 3 from hn)
    exact mpf3 l Z a0 hw cs hcs fv hfv lb kc u0 u1 u2 hch rst n0 Ts hnot hh hcw h0 hn0 hO G B
  | [u0, u1, u2, u3], hch, _, hn, B =>
    obtain rfl : n = (4 : Int32) := Int32.toInt_inj.mp (show n.toInt = 4 from hn)
    exact mpf4 l Z a0 hw cs hcs fv hfv lb kc u0 u1 u2 u3 hch rst n0 Ts hnot hh hcw h0 hn0 hO G B
  | [u0, u1, u2, u3, u4], hch, _, hn, B =>
    obtain rfl : n = (5 : Int32) := Int32.toInt_inj.mp (show n.toInt = 5 from hn)
    exact mpf5 l Z a0 hw cs hcs fv hfv lb kc u0 u1 u2 u3 u4 hch rst n0 Ts hnot hh hcw h0 hn0 hO G B
  | [u0, u1, u2, u3, u4, u5], hch, _, hn, B =>
    obtain rfl : n = (6 : Int32) := Int32.toInt_inj.mp (show n.toInt = 6 from hn)
    exact mpf6 l Z a0 hw cs hcs fv hfv lb kc u0 u1 u2 u3 u4 u5 hch rst n0 Ts hnot hh hcw h0 hn0 hO G B
  | _ :: _ :: _ :: _ :: _ :: _ :: _ :: _, _, hl, _, _ => simp only [List.length_cons] at hl; omega
set_option maxRecDepth 65536 in
set_option maxHeartbeats 40000000 in
theorem ltail {l : Launch} {Z : State} (a0 : Array Value) (hw : ∀ d ∈ tables_1, d.before a0 Z = true) {p : Program} {e : Env} {s : State} {vm0 : Vm} {m : MethodId} {args : Array Value} {below : List Frame} {meth : Method} {c : Code} (hx : p.tables.exec = Jvm.exec) (hby : c.code = code) (hml : c.maxLocals = maxLocals) (hown : (s.setVm vm0).vm.findClass "com/example/rillet/rillet/transport/Utf8LengthPinLaw" = some m.cls) (hret : meth.sig.returnType = some .boolean) (hlk : meth.locks = false) (hZ : Z.Warmed39 (s.setVm vm0).vm) (hS : s.Since vm0 0) (cs : Int32) (hcs : ¬ cs.toInt = 0) (fv : Value) (hfv : fv.isRef = true) (Ts : List String) (hnot : "" ∉ Ts) (hh : Jvm.Lit.constHeld Z "java/lang/String" 7) (hcw : Jvm.Lit.compactW.before a0 Z = true) (hI : Jvm.RoadKit.IB Z vm0 Ts) (n0 : Nat) (q0 q1 q2 q3 q4 : Slot) (lb : Addr) (kc : ClassId) (n : Int32) (us : List Int32) (hn : n.toInt = (us.length : Int)) (hl6 : us.length ≤ 6) (ch : List (Int32 × Option Int32)) (hfl : us = fl ch) (hok : Wc ch) (rst : List Value) (T : State) (h : Heap) (L0 : List Loc) (X0 : Stand p l e room_1 (s.setVm vm0) m args below meth c T L0 1 6) (e0 : T.heap = h) (N0 : Fr n0 L0) (hn0 : n0 ≤ h.size) (hO : Wk.Old Z h) (G : Sg Z h cs fv) (B : Arv Z h lb kc .char 6 (cl us ++ rst) (.int 0)) : Wk.Go p e below (Wk.EndV s (fun _ => True)) (Wk.Fq (.int 1) n0) 24 2176 T (mkF m 92 #[q0, q1, q2, q3, q4, .val (.ref lb), .val (.int n), .val (.long (tot ch 0)), .second, .unset] []) := by
  have hch : Ch us := hfl ▸ ch_fl ch hok
  refine Wk.aload X0 hx (hb hby at_92) rfl rfl rfl ?_
  refine Wk.iload X0 hx (hb hby at_94) rfl rfl ?_
  refine Wk.callSV (W := 0) X0 hx hZ hS (argsL := [(.ref lb), (.int n)]) (rest := []) hown (hw _ (List.mem_of_getElem? (i := 1) rfl)) (hw _ (List.mem_of_getElem? (i := 2) rfl)) (hw _ (List.mem_of_getElem? (i := 3) rfl)) (hw _ (List.mem_of_getElem? (i := 4) rfl)) (by decide) (mpf l Z a0 hw cs hcs fv hfv lb kc us hch hl6 n hn rst n0 Ts hnot hh hcw h hn0 hO G B) e0 (Nat.zero_le _) (fun _ q => Wk.IBw hI q) (by decide) (by decide) (by decide) (by decide) (by rw [hml]; rfl) (lenOf pd1 rfl) rfl (Nat.le_of_eq rfl) (hb hby at_96) rfl (fun T1 vm1 k1 v1 L1 X1 hS hk0 hZ hown hq1 _ _ => ?_)
  obtain ⟨a, rfl, N1, Ex1, Sa⟩ := hq1
  show Wk.Go p e below _ _ _ _ T1 (mkF m 99 #[q0, q1, q2, q3, q4, .val (.ref lb), .val (.int n), .val (.long (tot ch 0)), .second, .unset] [(.ref a)])
  refine Wk.astore (l' := #[q0, q1, q2, q3, q4, .val (.ref lb), .val (.int n), .val (.long (tot ch 0)), .second, .val (.ref a)]) X1 hx (hb hby at_99) rfl rfl rfl ?_
  refine Wk.aload X1 hx (hb hby at_101) rfl rfl rfl ?_
  refine Wk.ldcW0 X1 hx hZ hS hown (hw _ (List.mem_of_getElem? (i := 26) rfl)) (hStr hw) rfl hk0 16 (by decide) (by decide) (by decide) (by decide) (hb hby at_103) rfl (fun tx T2 h2 vm2 k2 X2 e2 Ex2 hS hk0 hZ hown => ?_)
  refine Wk.callP (W := 0) X2 hx hZ (argsL := [(.ref a), (.ref tx)]) (rest := []) hown (hw _ (List.mem_of_getElem? (i := 27) rfl)) (hw _ (List.mem_of_getElem? (i := 28) rfl)) (hw _ (List.mem_of_getElem? (i := 29) rfl)) (hw _ (List.mem_of_getElem? (i := 30) rfl)) (by decide) (mu8 l Z a0 hw cs hcs fv hfv a tx us n hn ch hfl hok h2 (Sa.ext Ex2) ((G.ext Ex1).ext Ex2)) e2 (by decide) (by decide) (by decide) (by decide) (by rw [hml]; rfl) (lenOf pd5 rfl) rfl (Nat.le_of_eq rfl) (hb hby at_105) rfl (fun T21 X21 e21 => ?_)
  refine Wk.lload X21 hx (hb hby at_108) rfl rfl ?_
  refine Wk.lcmp X21 hx (hb hby at_110) rfl ?_
  refine Wk.lif_ne X21 hx 118 114 (hb hby at_111) rfl rfl (show (tot ch 0 : Int64).toInt = (tot ch 0).toInt from rfl) (show (tot ch 0 : Int64).toInt = (tot ch 0).toInt from rfl) (fun h22 => absurd h22 (by exact fun q => q rfl)) (fun h22 => ?_)
  refine Wk.iconst X21 hx (1 : Int32) (hb hby at_114) rfl rfl ?_
  refine Wk.goto X21 hx 119 (hb hby at_115) rfl ?_
  exact Wk.retZV X21 hx hS (by rw [e21]; exact hk0) trivial hlk hret (hb hby at_119) (by decide) (by decide) (by decide) ⟨rfl, Fr.app N0 N1⟩
set_option maxRecDepth 65536 in
set_option maxHeartbeats 40000000 in
theorem rmL (l : Launch) (Z : State) (a0 : Array Value) (hw : ∀ d ∈ tables_1, d.before a0 Z = true) (i0 i1 i2 i3 : Int32) (cs : Int32) (hcs : ¬ cs.toInt = 0) (fv : Value) (hfv : fv.isRef = true) (Ts : List String) (hnot : "" ∉ Ts) (hh : Jvm.Lit.constHeld Z "java/lang/String" 7) (hcw : Jvm.Lit.compactW.before a0 Z = true) (n0 : Nat) (h0 : Heap) (hn0 : n0 ≤ h0.size) (hsz : Z.heap.size ≤ h0.size) (hO : Wk.Old Z h0) (G : Sg Z h0 cs fv) : Wk.MetV l Z x code maxLocals ret tables_1 room_1 #[(.int i0), (.int i1), (.int i2), (.int i3)] h0 (Wk.Fq (.int 1) n0) (fun vm => Jvm.RoadKit.IB Z vm Ts) (fun _ => True) := by
  refine Wk.startV pnL ?_
  intro p e s vm0 m below meth c s₁ X0 hx hby hml hown0 hnm hret hlk hZ hS e0 eS hPv
  have hown : (s.setVm vm0).vm.findClass "com/example/rillet/rillet/transport/Utf8LengthPinLaw" = some m.cls := hown0
  refine Wk.enter (g' := (mkF m 0 #[.val (.int i0), .val (.int i1), .val (.int i2), .val (.int i3), .unset, .unset, .unset, .unset, .unset, .unset] [])) (by first | rfl | (simp [entryFrame, mkF, argsToLocals, Value.category, maxLocals]; done) | (simp [entryFrame, mkF, argsToLocals, hcat]; done) | (simp [entryFrame, mkF, argsToLocals, hcat]; rfl)) ?_
  refine Wk.iloadN X0 hx (hb hby at_0) rfl rfl ?_
  refine Wk.iconst X0 hx (3 : Int32) (hb hby at_1) rfl rfl ?_
  refine Wk.iand X0 hx (hb hby at_2) rfl ?_
  generalize i0 &&& (3 : Int32) = kk
  refine Wk.istore (l' := #[.val (.int i0), .val (.int i1), .val (.int i2), .val (.int i3), .val (.int kk), .unset, .unset, .unset, .unset, .unset]) X0 hx (hb hby at_3) rfl rfl ?_
  refine Wk.bipush X0 hx (6 : Int32) (hb hby at_5) rfl rfl ?_
  refine Wk.newP (z := (6 : Int32)) X0 hx hZ rfl (hw _ (List.mem_of_getElem? (i := 0) rfl)) e0 (by decide) 6 (by decide) (by decide) (by decide) (by decide) (hb hby at_7) rfl (fun T1 g1 kc X1 e1 Ex1 Av1 => ?_)
  have B1 : Arv Z g1 h0.size kc .char (6 : Int32) (cl (fl []) ++ List.replicate 6 (.int 0)) (.int 0) := Av1
  have hn1 : n0 ≤ g1.size := Nat.le_trans hn0 Ex1.1
  have O1 := Wk.old_ext hO Ex1
  have G1 := G.ext Ex1
  refine Wk.astore (l' := #[.val (.int i0), .val (.int i1), .val (.int i2), .val (.int i3), .val (.int kk), .val (.ref h0.size), .unset, .unset, .unset, .unset]) X1 hx (hb hby at_9) rfl rfl rfl ?_
  refine Wk.iconst X1 hx (0 : Int32) (hb hby at_11) rfl rfl ?_
  refine Wk.istore (l' := #[.val (.int i0), .val (.int i1), .val (.int i2), .val (.int i3), .val (.int kk), .val (.ref h0.size), .val (.int (0 : Int32)), .unset, .unset, .unset]) X1 hx (hb hby at_12) rfl rfl ?_
  refine Wk.lconst X1 hx (0 : Int64) (hb hby at_14) rfl rfl ?_
  refine Wk.lstore (l' := #[.val (.int i0), .val (.int i1), .val (.int i2), .val (.int i3), .val (.int kk), .val (.ref h0.size), .val (.int (0 : Int32)), .val (.long (0 : Int64)), .second, .unset]) X1 hx (hb hby at_15) rfl rfl ?_
  refine Wk.iload X1 hx (hb hby at_17) rfl rfl ?_
  refine Wk.iconst X1 hx (1 : Int32) (hb hby at_19) rfl rfl ?_
  refine Wk.icmp_lt X1 hx 42 23 (hb hby at_20) rfl rfl (show (kk : Int32).toInt = (kk).toInt from rfl) (show ((1 : Int32) : Int32).toInt = 1 from (by decide)) (fun h41 => ?_) (fun h41 => ?_)
  · skip
    refine Wk.iload X1 hx (hb hby at_42) rfl rfl ?_
    refine Wk.iconst X1 hx (2 : Int32) (hb hby at_44) rfl rfl ?_
    refine Wk.icmp_lt X1 hx 67 48 (hb hby at_45) rfl rfl (show (kk : Int32).toInt = (kk).toInt from rfl) (show ((2 : Int32) : Int32).toInt = 2 from (by decide)) (fun h42 => ?_) (fun h42 => absurd h42 (by omega))
    refine Wk.iload X1 hx (hb hby at_67) rfl rfl ?_
    refine Wk.iconst X1 hx (3 : Int32) (hb hby at_69) rfl rfl ?_
    refine Wk.icmp_lt X1 hx 92 73 (hb hby at_70) rfl rfl (show (kk : Int32).toInt = (kk).toInt from rfl) (show ((3 : Int32) : Int32).toInt = 3 from (by decide)) (fun h43 => ?_) (fun h43 => absurd h43 (by omega))
    have X9 := X1.mono (cells' := 1) (slots' := 6) (by decide) (by decide)
    exact ltail a0 hw hx hby hml hown hret hlk hZ hS cs hcs fv hfv Ts hnot hh hcw hPv n0 _ _ _ _ _ h0.size kc (0 : Int32) (fl []) rfl (by decide) [] rfl Wc.nil _ T1 g1 _ X9 e1 (Fr.nil n0) hn1 O1 G1 B1
  · skip
    refine Wk.aload X1 hx (hb hby at_23) rfl rfl rfl ?_
    refine Wk.iload X1 hx (hb hby at_25) rfl rfl ?_
    refine Wk.iloadN X1 hx (hb hby at_27) rfl rfl ?_
    refine Wk.callS (W := 0) X1 hx hZ (argsL := [(.ref h0.size), (.int (0 : Int32)), (.int i1)]) (rest := []) hown (hw _ (List.mem_of_getElem? (i := 42) rfl)) (hw _ (List.mem_of_getElem? (i := 43) rfl)) (hw _ (List.mem_of_getElem? (i := 3) rfl)) (hw _ (List.mem_of_getElem? (i := 44) rfl)) (by decide) (mpt l Z a0 hw h0.size kc (fl []) (0 : Int32) i1 4 rfl rfl n0 hn0 g1 B1) e1 (by decide) (by decide) (by decide) (by decide) (by rw [hml]; rfl) (lenOf pd8 rfl) rfl (Nat.le_of_eq rfl) (hb hby at_28) rfl (fun T44 v44 L44 X44 hq44 => ?_)
    obtain ⟨N44, K44, n1, rr1, rfl, hz1', hs1', Bb1'⟩ := hq44
    have eu1 : fl [] ++ fl [ckx i1] = fl [ckx i1] := (fl_app [] [ckx i1]).symm
    have hz1 : n1.toInt = ((fl [ckx i1]).length : Int) := by rw [← eu1]; exact hz1'
    have hs1 : (fl [ckx i1]).length + rr1 = 6 := by rw [← eu1]; exact hs1'
    have Bb1 : Arv Z T44.heap h0.size kc .char 6 (cl (fl [ckx i1]) ++ List.replicate rr1 (.int 0)) (.int 0) := by rw [← eu1]; exact Bb1'
    have hlen1 : (fl [ckx i1]).length ≤ 2 := by rw [← eu1, List.length_append]; have := ckx_len i1; have : (fl []).length = 0 := rfl; omega
    have G44 := G1.keep K44 (arv_plain B1)
    have O44 := Wk.old_keep O1 K44 hsz
    have hn44 : n0 ≤ T44.heap.size := Nat.le_trans hn1 K44.1
    have NN44 := Fr.app (Fr.nil n0) N44
    show Wk.Go p e below _ _ _ _ T44 (mkF m 31 #[.val (.int i0), .val (.int i1), .val (.int i2), .val (.int i3), .val (.int kk), .val (.ref h0.size), .val (.int (0 : Int32)), .val (.long (0 : Int64)), .second, .unset] [(.int n1)])
    refine Wk.istore (l' := #[.val (.int i0), .val (.int i1), .val (.int i2), .val (.int i3), .val (.int kk), .val (.ref h0.size), .val (.int n1), .val (.long (0 : Int64)), .second, .unset]) X44 hx (hb hby at_31) rfl rfl ?_
    refine Wk.lload X44 hx (hb hby at_33) rfl rfl ?_
    refine Wk.iloadN X44 hx (hb hby at_35) rfl rfl ?_
    refine Wk.callP (W := 2) X44 hx hZ (argsL := [(.int i1)]) (rest := [(.long (0 : Int64))]) hown (hw _ (List.mem_of_getElem? (i := 50) rfl)) (hw _ (List.mem_of_getElem? (i := 51) rfl)) (hw _ (List.mem_of_getElem? (i := 3) rfl)) (hw _ (List.mem_of_getElem? (i := 52) rfl)) (by decide) (mwe l Z a0 hw i1 T44.heap) rfl (by decide) (by decide) (by decide) (by decide) (by rw [hml]; rfl) (lenOf pd10 rfl) rfl (Nat.le_of_eq rfl) (hb hby at_36) rfl (fun T45 X45 e45 => ?_)
    refine Wk.ladd X45 hx (hb hby at_39) rfl ?_
    refine Wk.lstore (l' := #[.val (.int i0), .val (.int i1), .val (.int i2), .val (.int i3), .val (.int kk), .val (.ref h0.size), .val (.int n1), .val (.long ((0 : Int64) + (w64 (ckx i1)))), .second, .unset]) X45 hx (hb hby at_40) rfl rfl ?_
    refine Wk.iload X45 hx (hb hby at_42) rfl rfl ?_
    refine Wk.iconst X45 hx (2 : Int32) (hb hby at_44) rfl rfl ?_
    refine Wk.icmp_lt X45 hx 67 48 (hb hby at_45) rfl rfl (show (kk : Int32).toInt = (kk).toInt from rfl) (show ((2 : Int32) : Int32).toInt = 2 from (by decide)) (fun h46 => ?_) (fun h46 => ?_)
    · skip
      refine Wk.iload X45 hx (hb hby at_67) rfl rfl ?_
      refine Wk.iconst X45 hx (3 : Int32) (hb hby at_69) rfl rfl ?_
      refine Wk.icmp_lt X45 hx 92 73 (hb hby at_70) rfl rfl (show (kk : Int32).toInt = (kk).toInt from rfl) (show ((3 : Int32) : Int32).toInt = 3 from (by decide)) (fun h47 => ?_) (fun h47 => absurd h47 (by omega))
      have X9 := X45.mono (cells' := 1) (slots' := 6) (by decide) (by decide)
      exact ltail a0 hw hx hby hml hown hret hlk hZ hS cs hcs fv hfv Ts hnot hh hcw hPv n0 _ _ _ _ _ h0.size kc n1 (fl [ckx i1]) hz1 (by have := hlen1; omega) [ckx i1] rfl (Wc.cons (ckx_ok i1) Wc.nil) _ T45 T44.heap _ X9 e45 NN44 hn44 O44 G44 Bb1
    · skip
      refine Wk.aload X45 hx (hb hby at_48) rfl rfl rfl ?_
      refine Wk.iload X45 hx (hb hby at_50) rfl rfl ?_
      refine Wk.iloadN X45 hx (hb hby at_52) rfl rfl ?_
      obtain ⟨r1, hr1⟩ : ∃ r, rr1 = r + 2 := ⟨rr1 - 2, by have := hs1; have := hlen1; omega⟩
      rw [hr1] at Bb1 hs1
      refine Wk.callS (W := 0) X45 hx hZ (argsL := [(.ref h0.size), (.int n1), (.int i2)]) (rest := []) hown (hw _ (List.mem_of_getElem? (i := 42) rfl)) (hw _ (List.mem_of_getElem? (i := 43) rfl)) (hw _ (List.mem_of_getElem? (i := 3) rfl)) (hw _ (List.mem_of_getElem? (i := 44) rfl)) (by decide) (mpt l Z a0 hw h0.size kc (fl [ckx i1]) n1 i2 r1 hz1 hs1 n0 hn0 T44.heap Bb1) e45 (by decide) (by decide) (by decide) (by decide) (by rw [hml]; rfl) (lenOf pd8 rfl) rfl (Nat.le_of_eq rfl) (hb hby at_53) rfl (fun T48 v48 L48 X48 hq48 => ?_)
      obtain ⟨N48, K48, n2, rr2, rfl, hz2', hs2', Bb2'⟩ := hq48
      have eu2 : fl [ckx i1] ++ fl [ckx i2] = fl [ckx i1, ckx i2] := (fl_app [ckx i1] [ckx i2]).symm
      have hz2 : n2.toInt = ((fl [ckx i1, ckx i2]).length : Int) := by rw [← eu2]; exact hz2'
      have hs2 : (fl [ckx i1, ckx i2]).length + rr2 = 6 := by rw [← eu2]; exact hs2'
      have Bb2 : Arv Z T48.heap h0.size kc .char 6 (cl (fl [ckx i1, ckx i2]) ++ List.replicate rr2 (.int 0)) (.int 0) := by rw [← eu2]; exact Bb2'
      have hlen2 : (fl [ckx i1, ckx i2]).length ≤ 4 := by rw [← eu2, List.length_append]; have := ckx_len i2; have := hlen1; omega
      have G48 := G44.keep K48 (arv_plain Bb1)
      have O48 := Wk.old_keep O44 K48 hsz
      have hn48 : n0 ≤ T48.heap.size := Nat.le_trans hn44 K48.1
      have NN48 := Fr.app NN44 N48
      show Wk.Go p e below _ _ _ _ T48 (mkF m 56 #[.val (.int i0), .val (.int i1), .val (.int i2), .val (.int i3), .val (.int kk), .val (.ref h0.size), .val (.int n1), .val (.long ((0 : Int64) + (w64 (ckx i1)))), .second, .unset] [(.int n2)])
      refine Wk.istore (l' := #[.val (.int i0), .val (.int i1), .val (.int i2), .val (.int i3), .val (.int kk), .val (.ref h0.size), .val (.int n2), .val (.long ((0 : Int64) + (w64 (ckx i1)))), .second, .unset]) X48 hx (hb hby at_56) rfl rfl ?_
      refine Wk.lload X48 hx (hb hby at_58) rfl rfl ?_
      refine Wk.iloadN X48 hx (hb hby at_60) rfl rfl ?_
      refine Wk.callP (W := 2) X48 hx hZ (argsL := [(.int i2)]) (rest := [(.long ((0 : Int64) + (w64 (ckx i1))))]) hown (hw _ (List.mem_of_getElem? (i := 50) rfl)) (hw _ (List.mem_of_getElem? (i := 51) rfl)) (hw _ (List.mem_of_getElem? (i := 3) rfl)) (hw _ (List.mem_of_getElem? (i := 52) rfl)) (by decide) (mwe l Z a0 hw i2 T48.heap) rfl (by decide) (by decide) (by decide) (by decide) (by rw [hml]; rfl) (lenOf pd10 rfl) rfl (Nat.le_of_eq rfl) (hb hby at_61) rfl (fun T49 X49 e49 => ?_)
      refine Wk.ladd X49 hx (hb hby at_64) rfl ?_
      refine Wk.lstore (l' := #[.val (.int i0), .val (.int i1), .val (.int i2), .val (.int i3), .val (.int kk), .val (.ref h0.size), .val (.int n2), .val (.long (((0 : Int64) + (w64 (ckx i1))) + (w64 (ckx i2)))), .second, .unset]) X49 hx (hb hby at_65) rfl rfl ?_
      refine Wk.iload X49 hx (hb hby at_67) rfl rfl ?_
      refine Wk.iconst X49 hx (3 : Int32) (hb hby at_69) rfl rfl ?_
      refine Wk.icmp_lt X49 hx 92 73 (hb hby at_70) rfl rfl (show (kk : Int32).toInt = (kk).toInt from rfl) (show ((3 : Int32) : Int32).toInt = 3 from (by decide)) (fun h50 => ?_) (fun h50 => ?_)
      · skip
        have X9 := X49.mono (cells' := 1) (slots' := 6) (by decide) (by decide)
        exact ltail a0 hw hx hby hml hown hret hlk hZ hS cs hcs fv hfv Ts hnot hh hcw hPv n0 _ _ _ _ _ h0.size kc n2 (fl [ckx i1, ckx i2]) hz2 (by have := hlen2; omega) [ckx i1, ckx i2] rfl (Wc.cons (ckx_ok i1) (Wc.cons (ckx_ok i2) Wc.nil)) _ T49 T48.heap _ X9 e49 NN48 hn48 O48 G48 Bb2
      · skip
        refine Wk.aload X49 hx (hb hby at_73) rfl rfl rfl ?_
        refine Wk.iload X49 hx (hb hby at_75) rfl rfl ?_
        refine Wk.iloadN X49 hx (hb hby at_77) rfl rfl ?_
        obtain ⟨r2, hr2⟩ : ∃ r, rr2 = r + 2 := ⟨rr2 - 2, by have := hs2; have := hlen2; omega⟩
        rw [hr2] at Bb2 hs2
        refine Wk.callS (W := 0) X49 hx hZ (argsL := [(.ref h0.size), (.int n2), (.int i3)]) (rest := []) hown (hw _ (List.mem_of_getElem? (i := 42) rfl)) (hw _ (List.mem_of_getElem? (i := 43) rfl)) (hw _ (List.mem_of_getElem? (i := 3) rfl)) (hw _ (List.mem_of_getElem? (i := 44) rfl)) (by decide) (mpt l Z a0 hw h0.size kc (fl [ckx i1, ckx i2]) n2 i3 r2 hz2 hs2 n0 hn0 T48.heap Bb2) e49 (by decide) (by decide) (by decide) (by decide) (by rw [hml]; rfl) (lenOf pd8 rfl) rfl (Nat.le_of_eq rfl) (hb hby at_78) rfl (fun T51 v51 L51 X51 hq51 => ?_)
        obtain ⟨N51, K51, n3, rr3, rfl, hz3', hs3', Bb3'⟩ := hq51
        have eu3 : fl [ckx i1, ckx i2] ++ fl [ckx i3] = fl [ckx i1, ckx i2, ckx i3] := (fl_app [ckx i1, ckx i2] [ckx i3]).symm
        have hz3 : n3.toInt = ((fl [ckx i1, ckx i2, ckx i3]).length : Int) := by rw [← eu3]; exact hz3'
        have hs3 : (fl [ckx i1, ckx i2, ckx i3]).length + rr3 = 6 := by rw [← eu3]; exact hs3'
        have Bb3 : Arv Z T51.heap h0.size kc .char 6 (cl (fl [ckx i1, ckx i2, ckx i3]) ++ List.replicate rr3 (.int 0)) (.int 0) := by rw [← eu3]; exact Bb3'
        have hlen3 : (fl [ckx i1, ckx i2, ckx i3]).length ≤ 6 := by rw [← eu3, List.length_append]; have := ckx_len i3; have := hlen2; omega
        have G51 := G48.keep K51 (arv_plain Bb2)
        have O51 := Wk.old_keep O48 K51 hsz
        have hn51 : n0 ≤ T51.heap.size := Nat.le_trans hn48 K51.1
        have NN51 := Fr.app NN48 N51
        show Wk.Go p e below _ _ _ _ T51 (mkF m 81 #[.val (.int i0), .val (.int i1), .val (.int i2), .val (.int i3), .val (.int kk), .val (.ref h0.size), .val (.int n2), .val (.long (((0 : Int64) + (w64 (ckx i1))) + (w64 (ckx i2)))), .second, .unset] [(.int n3)])
        refine Wk.istore (l' := #[.val (.int i0), .val (.int i1), .val (.int i2), .val (.int i3), .val (.int kk), .val (.ref h0.size), .val (.int n3), .val (.long (((0 : Int64) + (w64 (ckx i1))) + (w64 (ckx i2)))), .second, .unset]) X51 hx (hb hby at_81) rfl rfl ?_
        refine Wk.lload X51 hx (hb hby at_83) rfl rfl ?_
        refine Wk.iloadN X51 hx (hb hby at_85) rfl rfl ?_
        refine Wk.callP (W := 2) X51 hx hZ (argsL := [(.int i3)]) (rest := [(.long (((0 : Int64) + (w64 (ckx i1))) + (w64 (ckx i2))))]) hown (hw _ (List.mem_of_getElem? (i := 50) rfl)) (hw _ (List.mem_of_getElem? (i := 51) rfl)) (hw _ (List.mem_of_getElem? (i := 3) rfl)) (hw _ (List.mem_of_getElem? (i := 52) rfl)) (by decide) (mwe l Z a0 hw i3 T51.heap) rfl (by decide) (by decide) (by decide) (by decide) (by rw [hml]; rfl) (lenOf pd10 rfl) rfl (Nat.le_of_eq rfl) (hb hby at_86) rfl (fun T52 X52 e52 => ?_)
        refine Wk.ladd X52 hx (hb hby at_89) rfl ?_
        refine Wk.lstore (l' := #[.val (.int i0), .val (.int i1), .val (.int i2), .val (.int i3), .val (.int kk), .val (.ref h0.size), .val (.int n3), .val (.long ((((0 : Int64) + (w64 (ckx i1))) + (w64 (ckx i2))) + (w64 (ckx i3)))), .second, .unset]) X52 hx (hb hby at_90) rfl rfl ?_
        have X9 := X52.mono (cells' := 1) (slots' := 6) (by decide) (by decide)
        exact ltail a0 hw hx hby hml hown hret hlk hZ hS cs hcs fv hfv Ts hnot hh hcw hPv n0 _ _ _ _ _ h0.size kc n3 (fl [ckx i1, ckx i2, ckx i3]) hz3 (by have := hlen3; omega) [ckx i1, ckx i2, ckx i3] rfl (Wc.cons (ckx_ok i1) (Wc.cons (ckx_ok i2) (Wc.cons (ckx_ok i3) Wc.nil))) _ T52 T51.heap _ X9 e52 NN51 hn51 O51 G51 Bb3
set_option maxRecDepth 65536 in
set_option maxHeartbeats 40000000 in
theorem comes_1 {Post : Tables → Env → Array Value → State → Outcome → State → Prop} (hpost : ∀ tb e args s v u, (limb_1_1.after args s (.returned v) u = true ∧ limb_1_2.after args s (.returned v) u = true ∧ True) → FramedW s (.returned v) u (Jvm.fieldLocs frame_1_writes args s ++ Jvm.arrayLocs frame_1_arrays args s ++ Jvm.staticLocs frame_1_statics s) 24 2176 → Post tb e args s (.returned v) u) :
    ArmFor flags0 classFile x code maxLocals ret World_1 tables_1 room_1 Calls_1 rest_1 Pre_1 Post := by
  intro l hfl _ _ p e ha hc hk s m args below hf hA hF happ hP
  obtain ⟨hcalls, hrest, hpre⟩ := hP
  obtain ⟨-, -, -, hnamed, -, -, -, hat⟩ := (Spec.applies_iff hf).mp happ
  obtain ⟨hg, hn⟩ := and_e (Cond.before_iff.mp (show (Jvm.Cond.and given_1 narrow_1).before args s = true from hpre))
  obtain ⟨hg0, hg⟩ := and_e hg
  obtain ⟨w0, w1, w2, w3, rfl⟩ : ∃ w0 w1 w2 w3 : Value, args = #[w0, w1, w2, w3] := by
    have hs : args.size = 4 := by simpa [Cond.value, given_1] using hg0
    obtain ⟨L⟩ := args
    match L, hs with
    | [w0, w1, w2, w3], _ => exact ⟨w0, w1, w2, w3, rfl⟩
  have hw := fun d (hd : d ∈ tables_1) => atoms_spec (ws := Jvm.Cond.code x code maxLocals ret :: tables_1) hat d (List.mem_cons_of_mem _ hd)
  have hfit : Fit s := fun {y c} hc i hi => by
    obtain ⟨ha, rfl⟩ := Array.getElem?_eq_some_iff.mp hc
    have q := List.all_eq_true.mp ((Array.all_eq_true_iff_forall_mem.mp hF) _ (Array.getElem_mem ha)) i (List.mem_range.mpr hi)
    simpa [Array.getElem?_eq_getElem hi] using q
  obtain ⟨hg1, hg⟩ := and_e hg
  obtain ⟨i0, ei0⟩ := is_v hg1
  obtain rfl : w0 = (.int i0) := Option.some.inj ei0
  obtain ⟨hg2, hg⟩ := and_e hg
  obtain ⟨i1, ei1⟩ := is_v hg2
  obtain rfl : w1 = (.int i1) := Option.some.inj ei1
  obtain ⟨hg3, hg⟩ := and_e hg
  obtain ⟨i2, ei2⟩ := is_v hg3
  obtain rfl : w2 = (.int i2) := Option.some.inj ei2
  have hg4 := hg
  obtain ⟨i3, ei3⟩ := is_v hg4
  obtain rfl : w3 = (.int i3) := Option.some.inj ei3
  have hs := (atoms_of jdkStatics_1 (show (jdkStatics_1.foldr Jvm.Cond.and restOwn_1).before _ s = true from hrest)).1
  obtain ⟨cs, vcs⟩ := is_v (Cond.before_iff.mp (hs _ (List.mem_of_getElem? (i := 1) rfl)))
  have hcs : ¬ cs.toInt = 0 := fun z => gotF (eq_II vcs (Term.int_eval 0)) (not_v (Cond.before_iff.mp (hs _ (List.mem_of_getElem? (i := 2) rfl)))) (Int32.toInt_inj.mp (z.trans (by decide)))
  obtain ⟨fv, vfv, hfv⟩ := isR_v (Cond.before_iff.mp (hs _ (List.mem_of_getElem? (i := 8) rfl)))
  have G : Sg s s.heap cs fv := ⟨Sta.start vcs (Or.inl (hs _ (List.mem_of_getElem? (i := 0) rfl))), Sta.start (Wk.eqI_v (Cond.before_iff.mp (hs _ (List.mem_of_getElem? (i := 12) rfl)))) (Or.inl (hs _ (List.mem_of_getElem? (i := 11) rfl))), Sta.start (Wk.eqI_v (Cond.before_iff.mp (hs _ (List.mem_of_getElem? (i := 15) rfl)))) (Or.inl (hs _ (List.mem_of_getElem? (i := 14) rfl))), Sta.start (Wk.eqI_v (Cond.before_iff.mp (hs _ (List.mem_of_getElem? (i := 18) rfl)))) (Or.inl (hs _ (List.mem_of_getElem? (i := 17) rfl))), Sta.start vfv (Or.inl (hs _ (List.mem_of_getElem? (i := 7) rfl)))⟩
  have hh : Jvm.Lit.constHeld s "java/lang/String" 7 := hcalls.1 ("java/lang/String", 7) (by simp [consts_1])
  have H := rmL l s _ hw i0 i1 i2 i3 cs hcs fv hfv [] (by simp) hh (hs _ (List.mem_of_getElem? (i := 2) rfl)) s.heap.size s.heap (Nat.le_refl _) (Nat.le_refl _) Wk.old_refl G
  obtain ⟨n, o, h1, h2, h3, _, L, rfl, ⟨rfl, N⟩, hq, -⟩ := H p e ha hc hk s m _ below hf ((Spec.applies_iff_loose hf).mp happ).1 ⟨rfl, State.Warmed39.refl s, rfl, Jvm.RoadKit.IB.start⟩ trivial
  refine ⟨n, _, h1, h2, h3, hpost _ _ _ _ _ _ ⟨Cond.after_iff.mpr rfl, Cond.after_iff.mpr (eq_i res_at (Term.int_eval (1)) rfl), trivial⟩ ⟨hq.1, hq.2.1, hq.2.2.1, (hq.2.2.2.sift fun y hy => Or.inr (N y hy)).mono (by decide) (by decide)⟩⟩
theorem main_1_1 : Claimed_1_1 := comes_1 fun _ _ _ _ _ _ h hF => ⟨h.1, hF⟩
theorem main_1_2 : Claimed_1_2 := comes_1 fun _ _ _ _ _ _ h hF => ⟨h.2.1, hF⟩
end Jvm.Pilot.@@N@@
namespace Jvm.Pilot.@@N@@
open Jvm Jvm.ClassFile Sem Op Lib Jvm.Free Jvm.Stand Jvm.Pilot.@@N@@.Jvm.D
/-! MADE BY PROGRAM (witnessworld.py) out of the Statement's table words and the real class files: 21 classes; the members and pool entries that the words name. The judged class is class 1, her method 1. -/
namespace start1
open Jvm.ClassFile
def u (s : String) : CpInfo := .utf8 (stringToUtf16 s)
/-- a pool by its gaps: so many unusable entries, then the entry; so many at the end -/
def gap : Nat → List CpInfo → List CpInfo
  | 0, r => r
  | n + 1, r => .unusable :: gap n r
def poolList (es : List (Nat × CpInfo)) (last : Nat) : List CpInfo := es.foldr (fun e r => gap e.1 (e.2 :: r)) (gap last [])
def pool (es : List (Nat × CpInfo)) (last : Nat) : Array CpInfo := ⟨poolList es last⟩
def fileOf (pool : Array CpInfo) (this : Nat) (attrs : Array Attribute := #[]) (ms : Array MethodInfo := #[]) (fl : Nat := 33) (sup : Nat := 0) (ifs : Array Nat := #[]) (fds : Array FieldInfo := #[]) : ClassFile where
  minorVersion := 0
  majorVersion := 65
  constantPool := pool
  accessFlags := fl
  thisClass := this
  superClass := sup
  interfaces := ifs
  fields := fds
  methods := ms
  attributes := attrs
def plain (name : String) (sup : Option ClassId) : Class where
  name := name
  kind := .ordinary
  loader := none
  accessFlags := 33
  super := sup
  interfaces := #[]
  cf := none
  fields := #[]
  methods := #[]
  instanceTypes := #[]
  staticTypes := #[]
  resolved := #[]
  callSites := []
  init := .initialized
  statics := none
  mirror := none

def pool0 : Array CpInfo := pool [(5, u "<init>"), (0, u "()V"), (1, .class_ 10), (1, u "java/lang/Object")] 113

def k0c0 : Code := { maxStack := 0, maxLocals := 1, code := object_method_1_code, exceptionTable := #[], attributes := #[] }
def k0m0 : Method := { name := "<init>", desc := "()V", sig := { parameters := [], returnType := none }, accessFlags := 1, code := some k0c0 }
/-- java/lang/Object -/
def k0 : Class := { plain "java/lang/Object" none with
  accessFlags := 33
  interfaces := #[]
  cf := some (fileOf pool0 8 #[] #[{ accessFlags := 1, nameIndex := 5, descriptorIndex := 6, attributes := #[] }] 33 0 #[] #[])
  fields := #[]
  methods := #[k0m0]
  instanceTypes := #[]
  staticTypes := #[]
  resolved := Array.replicate 124 none
  statics := none }

def pool1 : Array CpInfo := pool [(2, .class_ 4), (1, u "java/lang/Object"), (0, u "<init>"), (0, u "()V"), (0, .methodref 8 9), (0, .class_ 10), (0, .nameAndType 11 12), (0, u "com/example/rillet/rillet/transport/Utf8LengthPinLaw"), (0, u "put"), (0, u "([CII)I"), (0, .methodref 8 14), (0, .nameAndType 15 16), (0, u "weight"), (0, u "(I)J"), (0, .methodref 8 18), (0, .nameAndType 19 20), (0, u "prefix"), (0, u "([CI)Ljava/lang/String;"), (0, .string 22), (0, u "text"), (0, .methodref 24 25), (0, .class_ 26), (0, .nameAndType 27 28), (0, u "com/example/rillet/rillet/transport/Utf8"), (0, u "length"), (0, u "(Ljava/lang/String;Ljava/lang/String;)J"), (0, .integer 65535), (0, .integer 55296), (0, .integer 57343), (0, .methodref 8 33), (0, .nameAndType 34 35), (0, u "surr"), (0, u "(I)Z"), (0, .integer 56320), (0, .long 4), (1, .long 2), (1, .long 3), (1, .class_ 44), (0, u "java/lang/String"), (0, .methodref 43 46), (0, .nameAndType 5 47), (0, u "([C)V"), (2, u "law"), (0, u "(IIII)Z")] 5

def k1m0 : Method := { name := "<init>", desc := "()V", sig := { parameters := [], returnType := none }, accessFlags := 1, code := none }
def k1c1 : Code := { maxStack := 4, maxLocals := 10, code := code, exceptionTable := #[], attributes := #[] }
def k1m1 : Method := { name := "law", desc := "(IIII)Z", sig := { parameters := [.int, .int, .int, .int], returnType := some .boolean }, accessFlags := 9, code := some k1c1 }
def k1c2 : Code := { maxStack := 2, maxLocals := 2, code := method_3_code, exceptionTable := #[], attributes := #[] }
def k1m2 : Method := { name := "surr", desc := "(I)Z", sig := { parameters := [.int], returnType := some .boolean }, accessFlags := 10, code := some k1c2 }
def k1c3 : Code := { maxStack := 5, maxLocals := 4, code := method_4_code, exceptionTable := #[], attributes := #[] }
def k1m3 : Method := { name := "put", desc := "([CII)I", sig := { parameters := [(.array .char), .int, .int], returnType := some .int }, accessFlags := 10, code := some k1c3 }
def k1c4 : Code := { maxStack := 2, maxLocals := 2, code := method_5_code, exceptionTable := #[], attributes := #[] }
def k1m4 : Method := { name := "weight", desc := "(I)J", sig := { parameters := [.int], returnType := some .long }, accessFlags := 10, code := some k1c4 }
def k1c5 : Code := { maxStack := 7, maxLocals := 2, code := method_6_code, exceptionTable := #[], attributes := #[] }
def k1m5 : Method := { name := "prefix", desc := "([CI)Ljava/lang/String;", sig := { parameters := [(.array .char), .int], returnType := some (.object "java/lang/String") }, accessFlags := 10, code := some k1c5 }
/-- com/example/rillet/rillet/transport/Utf8LengthPinLaw -/
def k1 : Class := { plain "com/example/rillet/rillet/transport/Utf8LengthPinLaw" (some 0) with
  accessFlags := 49
  interfaces := #[]
  cf := some (fileOf pool1 8 #[] #[{ accessFlags := 1, nameIndex := 5, descriptorIndex := 6, attributes := #[] }, { accessFlags := 9, nameIndex := 50, descriptorIndex := 51, attributes := #[] }, { accessFlags := 10, nameIndex := 34, descriptorIndex := 35, attributes := #[] }, { accessFlags := 10, nameIndex := 11, descriptorIndex := 12, attributes := #[] }, { accessFlags := 10, nameIndex := 15, descriptorIndex := 16, attributes := #[] }, { accessFlags := 10, nameIndex := 19, descriptorIndex := 20, attributes := #[] }] 49 2 #[] #[])
  fields := #[]
  methods := #[k1m0, k1m1, k1m2, k1m3, k1m4, k1m5]
  instanceTypes := #[]
  staticTypes := #[]
  resolved := Array.replicate 57 none
  statics := none }

def pool2 : Array CpInfo := pool [(1, .class_ 2), (0, u "java/io/Serializable"), (0, .class_ 4), (0, u "java/lang/Object")] 2

/-- java/io/Serializable -/
def k2 : Class := { plain "java/io/Serializable" (some 0) with
  accessFlags := 1537
  interfaces := #[]
  cf := some (fileOf pool2 1 #[] #[] 1537 3 #[] #[])
  fields := #[]
  methods := #[]
  instanceTypes := #[]
  staticTypes := #[]
  resolved := Array.replicate 7 none
  statics := none }

def pool3 : Array CpInfo := pool [(1, .class_ 2), (0, u "java/lang/Comparable"), (0, .class_ 4), (0, u "java/lang/Object")] 7

/-- java/lang/Comparable -/
def k3 : Class := { plain "java/lang/Comparable" (some 0) with
  accessFlags := 1537
  interfaces := #[]
  cf := some (fileOf pool3 1 #[] #[] 1537 3 #[] #[])
  fields := #[]
  methods := #[]
  instanceTypes := #[]
  staticTypes := #[]
  resolved := Array.replicate 12 none
  statics := none }

def pool4 : Array CpInfo := pool [(2, .class_ 4), (1, u "java/lang/CharSequence"), (42, .class_ 48), (0, u "java/lang/CharSequence$1CodePointIterator"), (10, .class_ 60), (0, u "java/lang/CharSequence$1CharIterator"), (5, .class_ 67), (0, u "java/lang/Object")] 63

/-- java/lang/CharSequence -/
def k4 : Class := { plain "java/lang/CharSequence" (some 0) with
  accessFlags := 1537
  interfaces := #[]
  cf := some (fileOf pool4 2 #[.nestMembers #[47, 59]] #[] 1537 66 #[] #[])
  fields := #[]
  methods := #[]
  instanceTypes := #[]
  staticTypes := #[]
  resolved := Array.replicate 131 none
  statics := none }

def pool5 : Array CpInfo := pool [(1, .class_ 2), (0, u "java/lang/constant/Constable"), (0, .class_ 4), (0, u "java/lang/Object")] 6

/-- java/lang/constant/Constable -/
def k5 : Class := { plain "java/lang/constant/Constable" (some 0) with
  accessFlags := 1537
  interfaces := #[]
  cf := some (fileOf pool5 1 #[] #[] 1537 3 #[] #[])
  fields := #[]
  methods := #[]
  instanceTypes := #[]
  staticTypes := #[]
  resolved := Array.replicate 11 none
  statics := none }

def pool6 : Array CpInfo := pool [(1, .class_ 2), (0, u "java/lang/constant/ConstantDesc"), (0, .class_ 4), (0, u "java/lang/Object")] 32

/-- java/lang/constant/ConstantDesc -/
def k6 : Class := { plain "java/lang/constant/ConstantDesc" (some 0) with
  accessFlags := 1537
  interfaces := #[]
  cf := some (fileOf pool6 1 #[] #[] 1537 3 #[] #[])
  fields := #[]
  methods := #[]
  instanceTypes := #[]
  staticTypes := #[]
  resolved := Array.replicate 37 none
  statics := none }

def pool7 : Array CpInfo := pool [(1, .methodref 2 3), (0, .class_ 4), (0, .nameAndType 5 6), (0, u "java/lang/Object"), (0, u "<init>"), (0, u "()V"), (0, .string 8), (0, u ""), (0, .fieldref 10 11), (0, .class_ 12), (0, .nameAndType 13 14), (0, u "java/lang/String"), (0, u "value"), (0, u "[B"), (0, .fieldref 10 16), (0, .nameAndType 17 18), (0, u "coder"), (0, u "B"), (2, u "hash"), (0, u "I"), (2, u "hashIsZero"), (0, u "Z"), (0, .methodref 10 28), (0, .nameAndType 5 29), (0, u "([CIILjava/lang/Void;)V"), (8, .fieldref 10 39), (0, .nameAndType 40 26), (0, u "COMPACT_STRINGS"), (1, .class_ 44), (1, u "java/lang/StringUTF16"), (0, u "compress"), (1, .methodref 42 48), (0, .nameAndType 49 50), (0, u "coderFromArrayLen"), (0, u "([BI)B"), (56, .class_ 109), (1, u "java/lang/StringLatin1"), (32, u "()Z"), (34, .methodref 42 178), (0, .nameAndType 45 179), (0, u "([CII)[B"), (154, u "()I"), (0, .methodref 10 336), (0, .nameAndType 17 337), (0, u "()B"), (25, u "([BI)C"), (27, u "(II)V"), (35, u "(I)C"), (64, .methodref 10 493), (0, .nameAndType 494 142), (0, u "isLatin1"), (0, .methodref 107 496), (0, .nameAndType 497 363), (0, u "charAt"), (0, .methodref 42 496), (2, u "checkIndex"), (5, u "length"), (67, .class_ 576), (0, u "java/lang/CharSequence"), (22, u "CASE_INSENSITIVE_ORDER"), (0, u "Ljava/util/Comparator;"), (409, u "([C)V"), (42, .fieldref 1054 1055), (0, .class_ 1056), (0, .nameAndType 1057 1058), (0, u "jdk/internal/util/Preconditions"), (0, u "SIOOBE_FORMATTER"), (0, u "Ljava/util/function/BiFunction;"), (0, .methodref 1054 1060), (0, .nameAndType 501 1061), (0, u "(IILjava/util/function/BiFunction;)I"), (39, u "serialPersistentFields"), (0, u "[Ljava/io/ObjectStreamField;"), (0, .class_ 1104), (0, u "java/lang/String$CaseInsensitiveComparator"), (1, .class_ 1107), (0, u "java/io/Serializable"), (0, .class_ 1109), (0, u "java/lang/Comparable"), (0, .class_ 1111), (0, u "java/lang/constant/Constable"), (0, .class_ 1113), (0, u "java/lang/constant/ConstantDesc"), (2, u "serialVersionUID"), (0, u "J"), (3, u "REPL"), (0, u "C"), (2, u "LATIN1"), (1, u "UTF16")] 323

def k7m0 : Method := { name := "<init>", desc := "()V", sig := { parameters := [], returnType := none }, accessFlags := 1, code := none }
def k7c1 : Code := { maxStack := 5, maxLocals := 2, code := jdk_42_method_3_code, exceptionTable := #[], attributes := #[] }
def k7m1 : Method := { name := "<init>", desc := "([C)V", sig := { parameters := [(.array .char)], returnType := none }, accessFlags := 1, code := some k7c1 }
def k7c2 : Code := { maxStack := 2, maxLocals := 1, code := jdk_42_method_54_code, exceptionTable := #[], attributes := #[] }
def k7m2 : Method := { name := "length", desc := "()I", sig := { parameters := [], returnType := some .int }, accessFlags := 1, code := some k7c2 }
def k7c3 : Code := { maxStack := 2, maxLocals := 2, code := jdk_42_method_56_code, exceptionTable := #[], attributes := #[] }
def k7m3 : Method := { name := "charAt", desc := "(I)C", sig := { parameters := [.int], returnType := some .char }, accessFlags := 1, code := some k7c3 }
def k7c4 : Code := { maxStack := 4, maxLocals := 6, code := jdk_42_method_149_code, exceptionTable := #[], attributes := #[] }
def k7m4 : Method := { name := "<init>", desc := "([CIILjava/lang/Void;)V", sig := { parameters := [(.array .char), .int, .int, (.object "java/lang/Void")], returnType := none }, accessFlags := 2, code := some k7c4 }
def k7c5 : Code := { maxStack := 1, maxLocals := 1, code := jdk_42_method_152_code, exceptionTable := #[], attributes := #[] }
def k7m5 : Method := { name := "coder", desc := "()B", sig := { parameters := [], returnType := some .byte }, accessFlags := 0, code := some k7c5 }
def k7c6 : Code := { maxStack := 1, maxLocals := 1, code := jdk_42_method_154_code, exceptionTable := #[], attributes := #[] }
def k7m6 : Method := { name := "isLatin1", desc := "()Z", sig := { parameters := [], returnType := some .boolean }, accessFlags := 0, code := some k7c6 }
def k7c7 : Code := { maxStack := 3, maxLocals := 2, code := jdk_42_method_155_code, exceptionTable := #[], attributes := #[] }
def k7m7 : Method := { name := "checkIndex", desc := "(II)V", sig := { parameters := [.int, .int], returnType := none }, accessFlags := 8, code := some k7c7 }
/-- java/lang/String -/
def k7 : Class := { plain "java/lang/String" (some 0) with
  accessFlags := 49
  interfaces := #[2, 3, 4, 5, 6]
  cf := some (fileOf pool7 10 #[.nestMembers #[1103]] #[{ accessFlags := 1, nameIndex := 5, descriptorIndex := 6, attributes := #[] }, { accessFlags := 1, nameIndex := 5, descriptorIndex := 1010, attributes := #[] }, { accessFlags := 1, nameIndex := 507, descriptorIndex := 334, attributes := #[] }, { accessFlags := 1, nameIndex := 497, descriptorIndex := 427, attributes := #[] }, { accessFlags := 2, nameIndex := 5, descriptorIndex := 29, attributes := #[] }, { accessFlags := 0, nameIndex := 17, descriptorIndex := 337, attributes := #[] }, { accessFlags := 0, nameIndex := 494, descriptorIndex := 142, attributes := #[] }, { accessFlags := 8, nameIndex := 501, descriptorIndex := 391, attributes := #[] }] 49 2 #[1106, 1108, 575, 1110, 1112] #[{ accessFlags := 18, nameIndex := 13, descriptorIndex := 14, attributes := #[] }, { accessFlags := 18, nameIndex := 17, descriptorIndex := 18, attributes := #[] }, { accessFlags := 2, nameIndex := 21, descriptorIndex := 22, attributes := #[] }, { accessFlags := 2, nameIndex := 25, descriptorIndex := 26, attributes := #[] }, { accessFlags := 26, nameIndex := 1116, descriptorIndex := 1117, attributes := #[] }, { accessFlags := 24, nameIndex := 40, descriptorIndex := 26, attributes := #[] }, { accessFlags := 26, nameIndex := 1101, descriptorIndex := 1102, attributes := #[] }, { accessFlags := 26, nameIndex := 1121, descriptorIndex := 1122, attributes := #[] }, { accessFlags := 25, nameIndex := 599, descriptorIndex := 600, attributes := #[] }, { accessFlags := 24, nameIndex := 1125, descriptorIndex := 18, attributes := #[] }, { accessFlags := 24, nameIndex := 1127, descriptorIndex := 18, attributes := #[] }])
  fields := #[{ name := "value", type := (.array .byte), accessFlags := 18, slot := 0, constantValue := 0 }, { name := "coder", type := .byte, accessFlags := 18, slot := 1, constantValue := 0 }, { name := "hash", type := .int, accessFlags := 2, slot := 2, constantValue := 0 }, { name := "hashIsZero", type := .boolean, accessFlags := 2, slot := 3, constantValue := 0 }, { name := "serialVersionUID", type := .long, accessFlags := 26, slot := 0, constantValue := 0 }, { name := "COMPACT_STRINGS", type := .boolean, accessFlags := 24, slot := 1, constantValue := 0 }, { name := "serialPersistentFields", type := (.array (.object "java/io/ObjectStreamField")), accessFlags := 26, slot := 2, constantValue := 0 }, { name := "REPL", type := .char, accessFlags := 26, slot := 3, constantValue := 0 }, { name := "CASE_INSENSITIVE_ORDER", type := (.object "java/util/Comparator"), accessFlags := 25, slot := 4, constantValue := 0 }, { name := "LATIN1", type := .byte, accessFlags := 24, slot := 5, constantValue := 0 }, { name := "UTF16", type := .byte, accessFlags := 24, slot := 6, constantValue := 0 }]
  methods := #[k7m0, k7m1, k7m2, k7m3, k7m4, k7m5, k7m6, k7m7]
  instanceTypes := #[(.array .byte), .byte, .int, .boolean]
  staticTypes := #[.long, .boolean, (.array (.object "java/io/ObjectStreamField")), .char, (.object "java/util/Comparator"), .byte, .byte]
  resolved := Array.replicate 1451 none
  statics := some 0 }

def pool8 : Array CpInfo := pool [(2, .class_ 4), (1, u "java/lang/Object"), (0, u "<init>"), (0, u "()V"), (0, .methodref 8 9), (0, .class_ 10), (0, .nameAndType 11 12), (0, u "java/lang/String"), (0, u "length"), (0, u "()I"), (0, .methodref 8 14), (0, .nameAndType 15 16), (0, u "charAt"), (0, u "(I)C"), (0, .long 2), (1, .methodref 20 21), (0, .class_ 22), (0, .nameAndType 23 24), (0, u "java/lang/Character"), (0, u "isSurrogate"), (0, u "(C)Z"), (0, .long 3), (1, .methodref 20 28), (0, .nameAndType 29 24), (0, u "isHighSurrogate"), (0, .methodref 20 31), (0, .nameAndType 32 24), (0, u "isLowSurrogate"), (0, .long 4), (11, .class_ 47), (1, u "com/example/rillet/rillet/transport/Utf8"), (0, u "(Ljava/lang/String;Ljava/lang/String;)J"), (55, u "REPLACEMENT"), (0, u "C")] 27

def k8m0 : Method := { name := "<init>", desc := "()V", sig := { parameters := [], returnType := none }, accessFlags := 2, code := none }
def k8c1 : Code := { maxStack := 4, maxLocals := 7, code := prog_44_method_2_code, exceptionTable := #[], attributes := #[] }
def k8m1 : Method := { name := "length", desc := "(Ljava/lang/String;Ljava/lang/String;)J", sig := { parameters := [(.object "java/lang/String"), (.object "java/lang/String")], returnType := some .long }, accessFlags := 9, code := some k8c1 }
/-- com/example/rillet/rillet/transport/Utf8 -/
def k8 : Class := { plain "com/example/rillet/rillet/transport/Utf8" (some 0) with
  accessFlags := 49
  interfaces := #[]
  cf := some (fileOf pool8 45 #[] #[{ accessFlags := 2, nameIndex := 5, descriptorIndex := 6, attributes := #[] }, { accessFlags := 9, nameIndex := 11, descriptorIndex := 48, attributes := #[] }] 49 2 #[] #[{ accessFlags := 26, nameIndex := 104, descriptorIndex := 105, attributes := #[] }])
  fields := #[{ name := "REPLACEMENT", type := .char, accessFlags := 26, slot := 0, constantValue := 0 }]
  methods := #[k8m0, k8m1]
  instanceTypes := #[]
  staticTypes := #[.char]
  resolved := Array.replicate 133 none
  statics := none }

def pool9 : Array CpInfo := pool [(3, .class_ 4), (0, u "java/lang/String"), (1, .class_ 8), (1, u "java/lang/Object"), (0, u "<init>"), (0, u "()V"), (0, .methodref 12 13), (0, .class_ 14), (0, .nameAndType 15 16), (0, u "java/lang/StringUTF16"), (0, u "newBytesLength"), (0, u "(I)I"), (3, .integer 1073741823), (23, .fieldref 12 45), (0, .nameAndType 46 47), (0, u "$assertionsDisabled"), (0, u "Z"), (0, .methodref 12 49), (0, .nameAndType 50 51), (0, u "length"), (0, u "([B)I"), (7, .fieldref 12 60), (0, .nameAndType 61 62), (0, u "HI_BYTE_SHIFT"), (0, u "I"), (0, .fieldref 12 64), (0, .nameAndType 65 62), (0, u "LO_BYTE_SHIFT"), (1, .methodref 12 68), (0, .nameAndType 69 70), (0, u "checkIndex"), (0, u "(I[B)V"), (0, .methodref 12 72), (0, .nameAndType 73 74), (0, u "getChar"), (0, u "([BI)C"), (32, .methodref 12 108), (0, .nameAndType 109 110), (0, u "newBytesFor"), (0, u "(I)[B"), (0, .methodref 12 112), (0, .nameAndType 113 114), (0, u "putChar"), (0, u "([BII)V"), (0, .methodref 12 116), (0, .nameAndType 117 118), (0, u "compress"), (0, u "([CI[BII)I"), (0, .methodref 12 120), (0, .nameAndType 121 122), (0, u "toBytes"), (0, u "([CII)[B"), (138, u "coderFromArrayLen"), (0, u "([BI)B"), (106, .class_ 371), (1, u "java/lang/StringUTF16$LinesSpliterator"), (20, u "charAt"), (21, .methodref 3 415), (0, .nameAndType 69 416), (0, u "(II)V"), (13, u "MAX_LENGTH"), (196, .class_ 628), (0, u "java/lang/StringUTF16$CodePointsSpliterator"), (0, .class_ 630), (0, u "java/lang/StringUTF16$CharsSpliterator")] 4

def k9m0 : Method := { name := "<init>", desc := "()V", sig := { parameters := [], returnType := none }, accessFlags := 0, code := none }
def k9c1 : Code := { maxStack := 1, maxLocals := 1, code := jdk_52_method_2_code, exceptionTable := #[], attributes := #[] }
def k9m1 : Method := { name := "newBytesFor", desc := "(I)[B", sig := { parameters := [.int], returnType := some (.array .byte) }, accessFlags := 9, code := some k9c1 }
def k9c2 : Code := { maxStack := 4, maxLocals := 1, code := jdk_52_method_3_code, exceptionTable := #[], attributes := #[] }
def k9m2 : Method := { name := "newBytesLength", desc := "(I)I", sig := { parameters := [.int], returnType := some .int }, accessFlags := 9, code := some k9c2 }
def k9c3 : Code := { maxStack := 4, maxLocals := 3, code := jdk_52_method_4_code, exceptionTable := #[], attributes := #[] }
def k9m3 : Method := { name := "putChar", desc := "([BII)V", sig := { parameters := [(.array .byte), .int, .int], returnType := none }, accessFlags := 8, code := some k9c3 }
def k9c4 : Code := { maxStack := 3, maxLocals := 2, code := jdk_52_method_5_code, exceptionTable := #[], attributes := #[] }
def k9m4 : Method := { name := "getChar", desc := "([BI)C", sig := { parameters := [(.array .byte), .int], returnType := some .char }, accessFlags := 8, code := some k9c4 }
def k9c5 : Code := { maxStack := 2, maxLocals := 1, code := jdk_52_method_6_code, exceptionTable := #[], attributes := #[] }
def k9m5 : Method := { name := "length", desc := "([B)I", sig := { parameters := [(.array .byte)], returnType := some .int }, accessFlags := 9, code := some k9c5 }
def k9c6 : Code := { maxStack := 4, maxLocals := 5, code := jdk_52_method_14_code, exceptionTable := #[], attributes := #[] }
def k9m6 : Method := { name := "toBytes", desc := "([CII)[B", sig := { parameters := [(.array .char), .int, .int], returnType := some (.array .byte) }, accessFlags := 9, code := some k9c6 }
def k9c7 : Code := { maxStack := 2, maxLocals := 2, code := jdk_52_method_15_code, exceptionTable := #[], attributes := #[] }
def k9m7 : Method := { name := "coderFromArrayLen", desc := "([BI)B", sig := { parameters := [(.array .byte), .int], returnType := some .byte }, accessFlags := 8, code := some k9c7 }
def k9c8 : Code := { maxStack := 5, maxLocals := 6, code := jdk_52_method_16_code, exceptionTable := #[], attributes := #[] }
def k9m8 : Method := { name := "compress", desc := "([CII)[B", sig := { parameters := [(.array .char), .int, .int], returnType := some (.array .byte) }, accessFlags := 9, code := some k9c8 }
def k9c9 : Code := { maxStack := 3, maxLocals := 7, code := jdk_52_method_21_code, exceptionTable := #[], attributes := #[] }
def k9m9 : Method := { name := "compress", desc := "([CI[BII)I", sig := { parameters := [(.array .char), .int, (.array .byte), .int, .int], returnType := some .int }, accessFlags := 9, code := some k9c9 }
def k9c10 : Code := { maxStack := 2, maxLocals := 2, code := jdk_52_method_83_code, exceptionTable := #[], attributes := #[] }
def k9m10 : Method := { name := "charAt", desc := "([BI)C", sig := { parameters := [(.array .byte), .int], returnType := some .char }, accessFlags := 9, code := some k9c10 }
def k9c11 : Code := { maxStack := 2, maxLocals := 2, code := jdk_52_method_91_code, exceptionTable := #[], attributes := #[] }
def k9m11 : Method := { name := "checkIndex", desc := "(I[B)V", sig := { parameters := [.int, (.array .byte)], returnType := none }, accessFlags := 9, code := some k9c11 }
/-- java/lang/StringUTF16 -/
def k9 : Class := { plain "java/lang/StringUTF16" (some 0) with
  accessFlags := 48
  interfaces := #[]
  cf := some (fileOf pool9 12 #[.nestMembers #[627, 629, 369]] #[{ accessFlags := 0, nameIndex := 9, descriptorIndex := 10, attributes := #[] }, { accessFlags := 9, nameIndex := 109, descriptorIndex := 110, attributes := #[] }, { accessFlags := 9, nameIndex := 15, descriptorIndex := 16, attributes := #[] }, { accessFlags := 8, nameIndex := 113, descriptorIndex := 114, attributes := #[] }, { accessFlags := 8, nameIndex := 73, descriptorIndex := 74, attributes := #[] }, { accessFlags := 9, nameIndex := 50, descriptorIndex := 51, attributes := #[] }, { accessFlags := 9, nameIndex := 121, descriptorIndex := 122, attributes := #[] }, { accessFlags := 8, nameIndex := 261, descriptorIndex := 262, attributes := #[] }, { accessFlags := 9, nameIndex := 117, descriptorIndex := 122, attributes := #[] }, { accessFlags := 9, nameIndex := 117, descriptorIndex := 118, attributes := #[] }, { accessFlags := 9, nameIndex := 392, descriptorIndex := 74, attributes := #[] }, { accessFlags := 9, nameIndex := 69, descriptorIndex := 70, attributes := #[] }] 48 6 #[] #[{ accessFlags := 26, nameIndex := 61, descriptorIndex := 62, attributes := #[] }, { accessFlags := 26, nameIndex := 65, descriptorIndex := 62, attributes := #[] }, { accessFlags := 24, nameIndex := 430, descriptorIndex := 62, attributes := #[] }, { accessFlags := 4120, nameIndex := 46, descriptorIndex := 47, attributes := #[] }])
  fields := #[{ name := "HI_BYTE_SHIFT", type := .int, accessFlags := 26, slot := 0, constantValue := 0 }, { name := "LO_BYTE_SHIFT", type := .int, accessFlags := 26, slot := 1, constantValue := 0 }, { name := "MAX_LENGTH", type := .int, accessFlags := 24, slot := 2, constantValue := 0 }, { name := "$assertionsDisabled", type := .boolean, accessFlags := 4120, slot := 3, constantValue := 0 }]
  methods := #[k9m0, k9m1, k9m2, k9m3, k9m4, k9m5, k9m6, k9m7, k9m8, k9m9, k9m10, k9m11]
  instanceTypes := #[]
  staticTypes := #[.int, .int, .int, .boolean]
  resolved := Array.replicate 635 none
  statics := some 1 }

def pool10 : Array CpInfo := pool [(1, .class_ 2), (0, u "java/lang/String"), (1, .class_ 6), (1, u "java/lang/Object"), (0, u "<init>"), (0, u "()V"), (0, .methodref 1 10), (0, .nameAndType 11 12), (0, u "checkIndex"), (0, u "(II)V"), (1, .class_ 16), (1, u "java/lang/StringLatin1"), (36, u "([BI)C"), (67, u "$assertionsDisabled"), (0, u "Z"), (98, .class_ 223), (1, u "java/lang/StringLatin1$LinesSpliterator"), (28, u "charAt"), (137, .class_ 391), (0, u "java/lang/StringLatin1$CharsSpliterator")] 3

def k10m0 : Method := { name := "<init>", desc := "()V", sig := { parameters := [], returnType := none }, accessFlags := 0, code := none }
def k10c1 : Code := { maxStack := 2, maxLocals := 2, code := jdk_43_method_2_code, exceptionTable := #[], attributes := #[] }
def k10m1 : Method := { name := "charAt", desc := "([BI)C", sig := { parameters := [(.array .byte), .int], returnType := some .char }, accessFlags := 9, code := some k10c1 }
/-- java/lang/StringLatin1 -/
def k10 : Class := { plain "java/lang/StringLatin1" (some 0) with
  accessFlags := 48
  interfaces := #[]
  cf := some (fileOf pool10 14 #[.nestMembers #[390, 221]] #[{ accessFlags := 0, nameIndex := 7, descriptorIndex := 8, attributes := #[] }, { accessFlags := 9, nameIndex := 252, descriptorIndex := 53, attributes := #[] }] 48 4 #[] #[{ accessFlags := 4120, nameIndex := 121, descriptorIndex := 122, attributes := #[] }])
  fields := #[{ name := "$assertionsDisabled", type := .boolean, accessFlags := 4120, slot := 0, constantValue := 0 }]
  methods := #[k10m0, k10m1]
  instanceTypes := #[]
  staticTypes := #[.boolean]
  resolved := Array.replicate 395 none
  statics := none }

def pool11 : Array CpInfo := pool [(2, .class_ 4), (1, u "java/lang/Object"), (0, u "<init>"), (0, u "()V"), (17, .class_ 26), (1, u "jdk/internal/util/Preconditions"), (6, u "checkIndex"), (21, .class_ 56), (0, u "jdk/internal/util/Preconditions$4"), (57, .class_ 115), (0, u "jdk/internal/util/Preconditions$1"), (7, u "SIOOBE_FORMATTER"), (0, u "Ljava/util/function/BiFunction;"), (0, .class_ 126), (0, u "jdk/internal/util/Preconditions$2"), (3, u "AIOOBE_FORMATTER"), (0, .class_ 132), (0, u "jdk/internal/util/Preconditions$3"), (3, u "IOOBE_FORMATTER"), (41, u "(IILjava/util/function/BiFunction;)I")] 15

def k11m0 : Method := { name := "<init>", desc := "()V", sig := { parameters := [], returnType := none }, accessFlags := 1, code := none }
def k11c1 : Code := { maxStack := 3, maxLocals := 3, code := jdk_41_method_11_code, exceptionTable := #[], attributes := #[] }
def k11m1 : Method := { name := "checkIndex", desc := "(IILjava/util/function/BiFunction;)I", sig := { parameters := [.int, .int, (.object "java/util/function/BiFunction")], returnType := some .int }, accessFlags := 9, code := some k11c1 }
/-- jdk/internal/util/Preconditions -/
def k11 : Class := { plain "jdk/internal/util/Preconditions" (some 0) with
  accessFlags := 33
  interfaces := #[]
  cf := some (fileOf pool11 24 #[.nestMembers #[55, 131, 125, 114]] #[{ accessFlags := 1, nameIndex := 5, descriptorIndex := 6, attributes := #[] }, { accessFlags := 9, nameIndex := 33, descriptorIndex := 178, attributes := #[] }] 33 2 #[] #[{ accessFlags := 25, nameIndex := 123, descriptorIndex := 124, attributes := #[] }, { accessFlags := 25, nameIndex := 130, descriptorIndex := 124, attributes := #[] }, { accessFlags := 25, nameIndex := 136, descriptorIndex := 124, attributes := #[] }])
  fields := #[{ name := "SIOOBE_FORMATTER", type := (.object "java/util/function/BiFunction"), accessFlags := 25, slot := 0, constantValue := 0 }, { name := "AIOOBE_FORMATTER", type := (.object "java/util/function/BiFunction"), accessFlags := 25, slot := 1, constantValue := 0 }, { name := "IOOBE_FORMATTER", type := (.object "java/util/function/BiFunction"), accessFlags := 25, slot := 2, constantValue := 0 }]
  methods := #[k11m0, k11m1]
  instanceTypes := #[]
  staticTypes := #[(.object "java/util/function/BiFunction"), (.object "java/util/function/BiFunction"), (.object "java/util/function/BiFunction")]
  resolved := Array.replicate 194 none
  statics := some 2 }

def pool12 : Array CpInfo := pool [(1, .class_ 2), (0, u "java/lang/Character"), (18, u "value"), (0, u "C"), (19, .class_ 44), (1, u "java/lang/Object"), (3, .class_ 50), (1, u "java/lang/Character$CharacterCache"), (24, .integer 55296), (0, .integer 56320), (0, .integer 57344), (2, u "isHighSurrogate"), (0, u "(C)Z"), (2, u "isLowSurrogate"), (199, u "$assertionsDisabled"), (0, u "Z"), (21, .class_ 309), (1, u "java/lang/Character$UnicodeBlock"), (73, u "TYPE"), (0, u "Ljava/lang/Class;"), (0, .class_ 386), (0, u "java/io/Serializable"), (0, .class_ 388), (0, u "java/lang/Comparable"), (0, .class_ 390), (0, u "java/lang/constant/Constable"), (0, u "MIN_RADIX"), (0, u "I"), (2, u "MAX_RADIX"), (1, u "MIN_VALUE"), (1, u "MAX_VALUE"), (3, u "UNASSIGNED"), (0, u "B"), (0, u "UPPERCASE_LETTER"), (1, u "LOWERCASE_LETTER"), (0, u "TITLECASE_LETTER"), (1, u "MODIFIER_LETTER"), (1, u "OTHER_LETTER"), (1, u "NON_SPACING_MARK"), (1, u "ENCLOSING_MARK"), (1, u "COMBINING_SPACING_MARK"), (1, u "DECIMAL_DIGIT_NUMBER"), (1, u "LETTER_NUMBER"), (1, u "OTHER_NUMBER"), (1, u "SPACE_SEPARATOR"), (1, u "LINE_SEPARATOR"), (1, u "PARAGRAPH_SEPARATOR"), (1, u "CONTROL"), (1, u "FORMAT"), (1, u "PRIVATE_USE"), (1, u "SURROGATE"), (1, u "DASH_PUNCTUATION"), (1, u "START_PUNCTUATION"), (1, u "END_PUNCTUATION"), (1, u "CONNECTOR_PUNCTUATION"), (1, u "OTHER_PUNCTUATION"), (1, u "MATH_SYMBOL"), (1, u "CURRENCY_SYMBOL"), (1, u "MODIFIER_SYMBOL"), (1, u "OTHER_SYMBOL"), (1, u "INITIAL_QUOTE_PUNCTUATION"), (1, u "FINAL_QUOTE_PUNCTUATION"), (1, u "ERROR"), (1, u "DIRECTIONALITY_UNDEFINED"), (0, u "DIRECTIONALITY_LEFT_TO_RIGHT"), (0, u "DIRECTIONALITY_RIGHT_TO_LEFT"), (0, u "DIRECTIONALITY_RIGHT_TO_LEFT_ARABIC"), (0, u "DIRECTIONALITY_EUROPEAN_NUMBER"), (0, u "DIRECTIONALITY_EUROPEAN_NUMBER_SEPARATOR"), (0, u "DIRECTIONALITY_EUROPEAN_NUMBER_TERMINATOR"), (0, u "DIRECTIONALITY_ARABIC_NUMBER"), (0, u "DIRECTIONALITY_COMMON_NUMBER_SEPARATOR"), (0, u "DIRECTIONALITY_NONSPACING_MARK"), (0, u "DIRECTIONALITY_BOUNDARY_NEUTRAL"), (0, u "DIRECTIONALITY_PARAGRAPH_SEPARATOR"), (0, u "DIRECTIONALITY_SEGMENT_SEPARATOR"), (0, u "DIRECTIONALITY_WHITESPACE"), (0, u "DIRECTIONALITY_OTHER_NEUTRALS"), (0, u "DIRECTIONALITY_LEFT_TO_RIGHT_EMBEDDING"), (0, u "DIRECTIONALITY_LEFT_TO_RIGHT_OVERRIDE"), (0, u "DIRECTIONALITY_RIGHT_TO_LEFT_EMBEDDING"), (0, u "DIRECTIONALITY_RIGHT_TO_LEFT_OVERRIDE"), (1, u "DIRECTIONALITY_POP_DIRECTIONAL_FORMAT"), (0, u "DIRECTIONALITY_LEFT_TO_RIGHT_ISOLATE"), (0, u "DIRECTIONALITY_RIGHT_TO_LEFT_ISOLATE"), (0, u "DIRECTIONALITY_FIRST_STRONG_ISOLATE"), (0, u "DIRECTIONALITY_POP_DIRECTIONAL_ISOLATE"), (0, u "MIN_HIGH_SURROGATE"), (0, u "MAX_HIGH_SURROGATE"), (1, u "MIN_LOW_SURROGATE"), (0, u "MAX_LOW_SURROGATE"), (1, u "MIN_SURROGATE"), (0, u "MAX_SURROGATE"), (0, u "MIN_SUPPLEMENTARY_CODE_POINT"), (0, u "MIN_CODE_POINT"), (0, u "MAX_CODE_POINT"), (1, u "serialVersionUID"), (0, u "J"), (2, u "SIZE"), (0, u "BYTES"), (24, u "isSurrogate"), (63, .class_ 596), (0, u "java/lang/Character$UnicodeScript"), (0, .class_ 598), (0, u "java/lang/Character$Subset")] 5

def k12c0 : Code := { maxStack := 2, maxLocals := 1, code := jdk_89_method_14_code, exceptionTable := #[], attributes := #[] }
def k12m0 : Method := { name := "isHighSurrogate", desc := "(C)Z", sig := { parameters := [.char], returnType := some .boolean }, accessFlags := 9, code := some k12c0 }
def k12c1 : Code := { maxStack := 2, maxLocals := 1, code := jdk_89_method_15_code, exceptionTable := #[], attributes := #[] }
def k12m1 : Method := { name := "isLowSurrogate", desc := "(C)Z", sig := { parameters := [.char], returnType := some .boolean }, accessFlags := 9, code := some k12c1 }
def k12c2 : Code := { maxStack := 2, maxLocals := 1, code := jdk_89_method_16_code, exceptionTable := #[], attributes := #[] }
def k12m2 : Method := { name := "isSurrogate", desc := "(C)Z", sig := { parameters := [.char], returnType := some .boolean }, accessFlags := 9, code := some k12c2 }
/-- java/lang/Character -/
def k12 : Class := { plain "java/lang/Character" (some 0) with
  accessFlags := 49
  interfaces := #[2, 3, 5]
  cf := some (fileOf pool12 1 #[.nestMembers #[48, 595, 307, 597]] #[{ accessFlags := 9, nameIndex := 80, descriptorIndex := 81, attributes := #[] }, { accessFlags := 9, nameIndex := 84, descriptorIndex := 81, attributes := #[] }, { accessFlags := 9, nameIndex := 531, descriptorIndex := 81, attributes := #[] }] 49 42 #[385, 387, 389] #[{ accessFlags := 25, nameIndex := 391, descriptorIndex := 392, attributes := #[] }, { accessFlags := 25, nameIndex := 395, descriptorIndex := 392, attributes := #[] }, { accessFlags := 25, nameIndex := 397, descriptorIndex := 22, attributes := #[] }, { accessFlags := 25, nameIndex := 399, descriptorIndex := 22, attributes := #[] }, { accessFlags := 25, nameIndex := 383, descriptorIndex := 384, attributes := #[] }, { accessFlags := 25, nameIndex := 403, descriptorIndex := 404, attributes := #[] }, { accessFlags := 25, nameIndex := 405, descriptorIndex := 404, attributes := #[] }, { accessFlags := 25, nameIndex := 407, descriptorIndex := 404, attributes := #[] }, { accessFlags := 25, nameIndex := 408, descriptorIndex := 404, attributes := #[] }, { accessFlags := 25, nameIndex := 410, descriptorIndex := 404, attributes := #[] }, { accessFlags := 25, nameIndex := 412, descriptorIndex := 404, attributes := #[] }, { accessFlags := 25, nameIndex := 414, descriptorIndex := 404, attributes := #[] }, { accessFlags := 25, nameIndex := 416, descriptorIndex := 404, attributes := #[] }, { accessFlags := 25, nameIndex := 418, descriptorIndex := 404, attributes := #[] }, { accessFlags := 25, nameIndex := 420, descriptorIndex := 404, attributes := #[] }, { accessFlags := 25, nameIndex := 422, descriptorIndex := 404, attributes := #[] }, { accessFlags := 25, nameIndex := 424, descriptorIndex := 404, attributes := #[] }, { accessFlags := 25, nameIndex := 426, descriptorIndex := 404, attributes := #[] }, { accessFlags := 25, nameIndex := 428, descriptorIndex := 404, attributes := #[] }, { accessFlags := 25, nameIndex := 430, descriptorIndex := 404, attributes := #[] }, { accessFlags := 25, nameIndex := 432, descriptorIndex := 404, attributes := #[] }, { accessFlags := 25, nameIndex := 434, descriptorIndex := 404, attributes := #[] }, { accessFlags := 25, nameIndex := 436, descriptorIndex := 404, attributes := #[] }, { accessFlags := 25, nameIndex := 438, descriptorIndex := 404, attributes := #[] }, { accessFlags := 25, nameIndex := 440, descriptorIndex := 404, attributes := #[] }, { accessFlags := 25, nameIndex := 442, descriptorIndex := 404, attributes := #[] }, { accessFlags := 25, nameIndex := 444, descriptorIndex := 404, attributes := #[] }, { accessFlags := 25, nameIndex := 446, descriptorIndex := 404, attributes := #[] }, { accessFlags := 25, nameIndex := 448, descriptorIndex := 404, attributes := #[] }, { accessFlags := 25, nameIndex := 450, descriptorIndex := 404, attributes := #[] }, { accessFlags := 25, nameIndex := 452, descriptorIndex := 404, attributes := #[] }, { accessFlags := 25, nameIndex := 454, descriptorIndex := 404, attributes := #[] }, { accessFlags := 25, nameIndex := 456, descriptorIndex := 404, attributes := #[] }, { accessFlags := 25, nameIndex := 458, descriptorIndex := 404, attributes := #[] }, { accessFlags := 25, nameIndex := 460, descriptorIndex := 404, attributes := #[] }, { accessFlags := 24, nameIndex := 462, descriptorIndex := 392, attributes := #[] }, { accessFlags := 25, nameIndex := 464, descriptorIndex := 404, attributes := #[] }, { accessFlags := 25, nameIndex := 465, descriptorIndex := 404, attributes := #[] }, { accessFlags := 25, nameIndex := 466, descriptorIndex := 404, attributes := #[] }, { accessFlags := 25, nameIndex := 467, descriptorIndex := 404, attributes := #[] }, { accessFlags := 25, nameIndex := 468, descriptorIndex := 404, attributes := #[] }, { accessFlags := 25, nameIndex := 469, descriptorIndex := 404, attributes := #[] }, { accessFlags := 25, nameIndex := 470, descriptorIndex := 404, attributes := #[] }, { accessFlags := 25, nameIndex := 471, descriptorIndex := 404, attributes := #[] }, { accessFlags := 25, nameIndex := 472, descriptorIndex := 404, attributes := #[] }, { accessFlags := 25, nameIndex := 473, descriptorIndex := 404, attributes := #[] }, { accessFlags := 25, nameIndex := 474, descriptorIndex := 404, attributes := #[] }, { accessFlags := 25, nameIndex := 475, descriptorIndex := 404, attributes := #[] }, { accessFlags := 25, nameIndex := 476, descriptorIndex := 404, attributes := #[] }, { accessFlags := 25, nameIndex := 477, descriptorIndex := 404, attributes := #[] }, { accessFlags := 25, nameIndex := 478, descriptorIndex := 404, attributes := #[] }, { accessFlags := 25, nameIndex := 479, descriptorIndex := 404, attributes := #[] }, { accessFlags := 25, nameIndex := 480, descriptorIndex := 404, attributes := #[] }, { accessFlags := 25, nameIndex := 481, descriptorIndex := 404, attributes := #[] }, { accessFlags := 25, nameIndex := 482, descriptorIndex := 404, attributes := #[] }, { accessFlags := 25, nameIndex := 484, descriptorIndex := 404, attributes := #[] }, { accessFlags := 25, nameIndex := 485, descriptorIndex := 404, attributes := #[] }, { accessFlags := 25, nameIndex := 486, descriptorIndex := 404, attributes := #[] }, { accessFlags := 25, nameIndex := 487, descriptorIndex := 404, attributes := #[] }, { accessFlags := 25, nameIndex := 488, descriptorIndex := 404, attributes := #[] }, { accessFlags := 25, nameIndex := 489, descriptorIndex := 22, attributes := #[] }, { accessFlags := 25, nameIndex := 490, descriptorIndex := 22, attributes := #[] }, { accessFlags := 25, nameIndex := 492, descriptorIndex := 22, attributes := #[] }, { accessFlags := 25, nameIndex := 493, descriptorIndex := 22, attributes := #[] }, { accessFlags := 25, nameIndex := 495, descriptorIndex := 22, attributes := #[] }, { accessFlags := 25, nameIndex := 496, descriptorIndex := 22, attributes := #[] }, { accessFlags := 25, nameIndex := 497, descriptorIndex := 392, attributes := #[] }, { accessFlags := 25, nameIndex := 498, descriptorIndex := 392, attributes := #[] }, { accessFlags := 25, nameIndex := 499, descriptorIndex := 392, attributes := #[] }, { accessFlags := 18, nameIndex := 21, descriptorIndex := 22, attributes := #[] }, { accessFlags := 26, nameIndex := 501, descriptorIndex := 502, attributes := #[] }, { accessFlags := 25, nameIndex := 505, descriptorIndex := 392, attributes := #[] }, { accessFlags := 25, nameIndex := 506, descriptorIndex := 392, attributes := #[] }, { accessFlags := 4120, nameIndex := 284, descriptorIndex := 285, attributes := #[] }])
  fields := #[{ name := "MIN_RADIX", type := .int, accessFlags := 25, slot := 0, constantValue := 0 }, { name := "MAX_RADIX", type := .int, accessFlags := 25, slot := 1, constantValue := 0 }, { name := "MIN_VALUE", type := .char, accessFlags := 25, slot := 2, constantValue := 0 }, { name := "MAX_VALUE", type := .char, accessFlags := 25, slot := 3, constantValue := 0 }, { name := "TYPE", type := (.object "java/lang/Class"), accessFlags := 25, slot := 4, constantValue := 0 }, { name := "UNASSIGNED", type := .byte, accessFlags := 25, slot := 5, constantValue := 0 }, { name := "UPPERCASE_LETTER", type := .byte, accessFlags := 25, slot := 6, constantValue := 0 }, { name := "LOWERCASE_LETTER", type := .byte, accessFlags := 25, slot := 7, constantValue := 0 }, { name := "TITLECASE_LETTER", type := .byte, accessFlags := 25, slot := 8, constantValue := 0 }, { name := "MODIFIER_LETTER", type := .byte, accessFlags := 25, slot := 9, constantValue := 0 }, { name := "OTHER_LETTER", type := .byte, accessFlags := 25, slot := 10, constantValue := 0 }, { name := "NON_SPACING_MARK", type := .byte, accessFlags := 25, slot := 11, constantValue := 0 }, { name := "ENCLOSING_MARK", type := .byte, accessFlags := 25, slot := 12, constantValue := 0 }, { name := "COMBINING_SPACING_MARK", type := .byte, accessFlags := 25, slot := 13, constantValue := 0 }, { name := "DECIMAL_DIGIT_NUMBER", type := .byte, accessFlags := 25, slot := 14, constantValue := 0 }, { name := "LETTER_NUMBER", type := .byte, accessFlags := 25, slot := 15, constantValue := 0 }, { name := "OTHER_NUMBER", type := .byte, accessFlags := 25, slot := 16, constantValue := 0 }, { name := "SPACE_SEPARATOR", type := .byte, accessFlags := 25, slot := 17, constantValue := 0 }, { name := "LINE_SEPARATOR", type := .byte, accessFlags := 25, slot := 18, constantValue := 0 }, { name := "PARAGRAPH_SEPARATOR", type := .byte, accessFlags := 25, slot := 19, constantValue := 0 }, { name := "CONTROL", type := .byte, accessFlags := 25, slot := 20, constantValue := 0 }, { name := "FORMAT", type := .byte, accessFlags := 25, slot := 21, constantValue := 0 }, { name := "PRIVATE_USE", type := .byte, accessFlags := 25, slot := 22, constantValue := 0 }, { name := "SURROGATE", type := .byte, accessFlags := 25, slot := 23, constantValue := 0 }, { name := "DASH_PUNCTUATION", type := .byte, accessFlags := 25, slot := 24, constantValue := 0 }, { name := "START_PUNCTUATION", type := .byte, accessFlags := 25, slot := 25, constantValue := 0 }, { name := "END_PUNCTUATION", type := .byte, accessFlags := 25, slot := 26, constantValue := 0 }, { name := "CONNECTOR_PUNCTUATION", type := .byte, accessFlags := 25, slot := 27, constantValue := 0 }, { name := "OTHER_PUNCTUATION", type := .byte, accessFlags := 25, slot := 28, constantValue := 0 }, { name := "MATH_SYMBOL", type := .byte, accessFlags := 25, slot := 29, constantValue := 0 }, { name := "CURRENCY_SYMBOL", type := .byte, accessFlags := 25, slot := 30, constantValue := 0 }, { name := "MODIFIER_SYMBOL", type := .byte, accessFlags := 25, slot := 31, constantValue := 0 }, { name := "OTHER_SYMBOL", type := .byte, accessFlags := 25, slot := 32, constantValue := 0 }, { name := "INITIAL_QUOTE_PUNCTUATION", type := .byte, accessFlags := 25, slot := 33, constantValue := 0 }, { name := "FINAL_QUOTE_PUNCTUATION", type := .byte, accessFlags := 25, slot := 34, constantValue := 0 }, { name := "ERROR", type := .int, accessFlags := 24, slot := 35, constantValue := 0 }, { name := "DIRECTIONALITY_UNDEFINED", type := .byte, accessFlags := 25, slot := 36, constantValue := 0 }, { name := "DIRECTIONALITY_LEFT_TO_RIGHT", type := .byte, accessFlags := 25, slot := 37, constantValue := 0 }, { name := "DIRECTIONALITY_RIGHT_TO_LEFT", type := .byte, accessFlags := 25, slot := 38, constantValue := 0 }, { name := "DIRECTIONALITY_RIGHT_TO_LEFT_ARABIC", type := .byte, accessFlags := 25, slot := 39, constantValue := 0 }, { name := "DIRECTIONALITY_EUROPEAN_NUMBER", type := .byte, accessFlags := 25, slot := 40, constantValue := 0 }, { name := "DIRECTIONALITY_EUROPEAN_NUMBER_SEPARATOR", type := .byte, accessFlags := 25, slot := 41, constantValue := 0 }, { name := "DIRECTIONALITY_EUROPEAN_NUMBER_TERMINATOR", type := .byte, accessFlags := 25, slot := 42, constantValue := 0 }, { name := "DIRECTIONALITY_ARABIC_NUMBER", type := .byte, accessFlags := 25, slot := 43, constantValue := 0 }, { name := "DIRECTIONALITY_COMMON_NUMBER_SEPARATOR", type := .byte, accessFlags := 25, slot := 44, constantValue := 0 }, { name := "DIRECTIONALITY_NONSPACING_MARK", type := .byte, accessFlags := 25, slot := 45, constantValue := 0 }, { name := "DIRECTIONALITY_BOUNDARY_NEUTRAL", type := .byte, accessFlags := 25, slot := 46, constantValue := 0 }, { name := "DIRECTIONALITY_PARAGRAPH_SEPARATOR", type := .byte, accessFlags := 25, slot := 47, constantValue := 0 }, { name := "DIRECTIONALITY_SEGMENT_SEPARATOR", type := .byte, accessFlags := 25, slot := 48, constantValue := 0 }, { name := "DIRECTIONALITY_WHITESPACE", type := .byte, accessFlags := 25, slot := 49, constantValue := 0 }, { name := "DIRECTIONALITY_OTHER_NEUTRALS", type := .byte, accessFlags := 25, slot := 50, constantValue := 0 }, { name := "DIRECTIONALITY_LEFT_TO_RIGHT_EMBEDDING", type := .byte, accessFlags := 25, slot := 51, constantValue := 0 }, { name := "DIRECTIONALITY_LEFT_TO_RIGHT_OVERRIDE", type := .byte, accessFlags := 25, slot := 52, constantValue := 0 }, { name := "DIRECTIONALITY_RIGHT_TO_LEFT_EMBEDDING", type := .byte, accessFlags := 25, slot := 53, constantValue := 0 }, { name := "DIRECTIONALITY_RIGHT_TO_LEFT_OVERRIDE", type := .byte, accessFlags := 25, slot := 54, constantValue := 0 }, { name := "DIRECTIONALITY_POP_DIRECTIONAL_FORMAT", type := .byte, accessFlags := 25, slot := 55, constantValue := 0 }, { name := "DIRECTIONALITY_LEFT_TO_RIGHT_ISOLATE", type := .byte, accessFlags := 25, slot := 56, constantValue := 0 }, { name := "DIRECTIONALITY_RIGHT_TO_LEFT_ISOLATE", type := .byte, accessFlags := 25, slot := 57, constantValue := 0 }, { name := "DIRECTIONALITY_FIRST_STRONG_ISOLATE", type := .byte, accessFlags := 25, slot := 58, constantValue := 0 }, { name := "DIRECTIONALITY_POP_DIRECTIONAL_ISOLATE", type := .byte, accessFlags := 25, slot := 59, constantValue := 0 }, { name := "MIN_HIGH_SURROGATE", type := .char, accessFlags := 25, slot := 60, constantValue := 0 }, { name := "MAX_HIGH_SURROGATE", type := .char, accessFlags := 25, slot := 61, constantValue := 0 }, { name := "MIN_LOW_SURROGATE", type := .char, accessFlags := 25, slot := 62, constantValue := 0 }, { name := "MAX_LOW_SURROGATE", type := .char, accessFlags := 25, slot := 63, constantValue := 0 }, { name := "MIN_SURROGATE", type := .char, accessFlags := 25, slot := 64, constantValue := 0 }, { name := "MAX_SURROGATE", type := .char, accessFlags := 25, slot := 65, constantValue := 0 }, { name := "MIN_SUPPLEMENTARY_CODE_POINT", type := .int, accessFlags := 25, slot := 66, constantValue := 0 }, { name := "MIN_CODE_POINT", type := .int, accessFlags := 25, slot := 67, constantValue := 0 }, { name := "MAX_CODE_POINT", type := .int, accessFlags := 25, slot := 68, constantValue := 0 }, { name := "value", type := .char, accessFlags := 18, slot := 0, constantValue := 0 }, { name := "serialVersionUID", type := .long, accessFlags := 26, slot := 69, constantValue := 0 }, { name := "SIZE", type := .int, accessFlags := 25, slot := 70, constantValue := 0 }, { name := "BYTES", type := .int, accessFlags := 25, slot := 71, constantValue := 0 }, { name := "$assertionsDisabled", type := .boolean, accessFlags := 4120, slot := 72, constantValue := 0 }]
  methods := #[k12m0, k12m1, k12m2]
  instanceTypes := #[.char]
  staticTypes := #[.int, .int, .char, .char, (.object "java/lang/Class"), .byte, .byte, .byte, .byte, .byte, .byte, .byte, .byte, .byte, .byte, .byte, .byte, .byte, .byte, .byte, .byte, .byte, .byte, .byte, .byte, .byte, .byte, .byte, .byte, .byte, .byte, .byte, .byte, .byte, .byte, .int, .byte, .byte, .byte, .byte, .byte, .byte, .byte, .byte, .byte, .byte, .byte, .byte, .byte, .byte, .byte, .byte, .byte, .byte, .byte, .byte, .byte, .byte, .byte, .byte, .char, .char, .char, .char, .char, .char, .int, .int, .int, .long, .int, .int, .boolean]
  resolved := Array.replicate 604 none
  statics := none }

def pool13 : Array CpInfo := pool [(9, u "<init>"), (6, .class_ 18), (1, u "java/lang/Object"), (0, u "()V"), (1, .class_ 23), (1, u "jdk/internal/util/ArraysSupport"), (0, u "LOG2_ARRAY_LONG_INDEX_SCALE"), (0, u "I"), (2, u "U"), (0, u "Ljdk/internal/misc/Unsafe;"), (8, u "BIG_ENDIAN"), (0, u "Z"), (8, u "LOG2_BYTE_BIT_SIZE"), (4, u "LOG2_ARRAY_INT_INDEX_SCALE"), (54, u "JLA"), (0, u "Ljdk/internal/access/JavaLangAccess;"), (11, u "LOG2_ARRAY_BOOLEAN_INDEX_SCALE"), (9, u "LOG2_ARRAY_BYTE_INDEX_SCALE"), (5, u "LOG2_ARRAY_CHAR_INDEX_SCALE"), (5, u "LOG2_ARRAY_SHORT_INDEX_SCALE"), (18, u "LOG2_ARRAY_FLOAT_INDEX_SCALE"), (24, u "LOG2_ARRAY_DOUBLE_INDEX_SCALE"), (89, u "T_BOOLEAN"), (2, u "T_CHAR"), (1, u "T_FLOAT"), (1, u "T_DOUBLE"), (1, u "T_BYTE"), (1, u "T_SHORT"), (1, u "T_INT"), (1, u "T_LONG"), (1, u "SOFT_MAX_ARRAY_LENGTH")] 83

def k13m0 : Method := { name := "<init>", desc := "()V", sig := { parameters := [], returnType := none }, accessFlags := 2, code := none }
/-- jdk/internal/util/ArraysSupport -/
def k13 : Class := { plain "jdk/internal/util/ArraysSupport" (some 0) with
  accessFlags := 33
  interfaces := #[]
  cf := some (fileOf pool13 21 #[] #[{ accessFlags := 2, nameIndex := 9, descriptorIndex := 19, attributes := #[] }] 33 16 #[] #[{ accessFlags := 24, nameIndex := 28, descriptorIndex := 29, attributes := #[] }, { accessFlags := 26, nameIndex := 38, descriptorIndex := 39, attributes := #[] }, { accessFlags := 25, nameIndex := 121, descriptorIndex := 25, attributes := #[] }, { accessFlags := 25, nameIndex := 131, descriptorIndex := 25, attributes := #[] }, { accessFlags := 25, nameIndex := 137, descriptorIndex := 25, attributes := #[] }, { accessFlags := 25, nameIndex := 143, descriptorIndex := 25, attributes := #[] }, { accessFlags := 25, nameIndex := 53, descriptorIndex := 25, attributes := #[] }, { accessFlags := 25, nameIndex := 24, descriptorIndex := 25, attributes := #[] }, { accessFlags := 25, nameIndex := 162, descriptorIndex := 25, attributes := #[] }, { accessFlags := 25, nameIndex := 187, descriptorIndex := 25, attributes := #[] }, { accessFlags := 26, nameIndex := 48, descriptorIndex := 25, attributes := #[] }, { accessFlags := 25, nameIndex := 277, descriptorIndex := 25, attributes := #[] }, { accessFlags := 25, nameIndex := 280, descriptorIndex := 25, attributes := #[] }, { accessFlags := 25, nameIndex := 282, descriptorIndex := 25, attributes := #[] }, { accessFlags := 25, nameIndex := 284, descriptorIndex := 25, attributes := #[] }, { accessFlags := 25, nameIndex := 286, descriptorIndex := 25, attributes := #[] }, { accessFlags := 25, nameIndex := 288, descriptorIndex := 25, attributes := #[] }, { accessFlags := 25, nameIndex := 290, descriptorIndex := 25, attributes := #[] }, { accessFlags := 25, nameIndex := 292, descriptorIndex := 25, attributes := #[] }, { accessFlags := 26, nameIndex := 108, descriptorIndex := 109, attributes := #[] }, { accessFlags := 25, nameIndex := 294, descriptorIndex := 25, attributes := #[] }])
  fields := #[{ name := "U", type := (.object "jdk/internal/misc/Unsafe"), accessFlags := 24, slot := 0, constantValue := 0 }, { name := "BIG_ENDIAN", type := .boolean, accessFlags := 26, slot := 1, constantValue := 0 }, { name := "LOG2_ARRAY_BOOLEAN_INDEX_SCALE", type := .int, accessFlags := 25, slot := 2, constantValue := 0 }, { name := "LOG2_ARRAY_BYTE_INDEX_SCALE", type := .int, accessFlags := 25, slot := 3, constantValue := 0 }, { name := "LOG2_ARRAY_CHAR_INDEX_SCALE", type := .int, accessFlags := 25, slot := 4, constantValue := 0 }, { name := "LOG2_ARRAY_SHORT_INDEX_SCALE", type := .int, accessFlags := 25, slot := 5, constantValue := 0 }, { name := "LOG2_ARRAY_INT_INDEX_SCALE", type := .int, accessFlags := 25, slot := 6, constantValue := 0 }, { name := "LOG2_ARRAY_LONG_INDEX_SCALE", type := .int, accessFlags := 25, slot := 7, constantValue := 0 }, { name := "LOG2_ARRAY_FLOAT_INDEX_SCALE", type := .int, accessFlags := 25, slot := 8, constantValue := 0 }, { name := "LOG2_ARRAY_DOUBLE_INDEX_SCALE", type := .int, accessFlags := 25, slot := 9, constantValue := 0 }, { name := "LOG2_BYTE_BIT_SIZE", type := .int, accessFlags := 26, slot := 10, constantValue := 0 }, { name := "T_BOOLEAN", type := .int, accessFlags := 25, slot := 11, constantValue := 0 }, { name := "T_CHAR", type := .int, accessFlags := 25, slot := 12, constantValue := 0 }, { name := "T_FLOAT", type := .int, accessFlags := 25, slot := 13, constantValue := 0 }, { name := "T_DOUBLE", type := .int, accessFlags := 25, slot := 14, constantValue := 0 }, { name := "T_BYTE", type := .int, accessFlags := 25, slot := 15, constantValue := 0 }, { name := "T_SHORT", type := .int, accessFlags := 25, slot := 16, constantValue := 0 }, { name := "T_INT", type := .int, accessFlags := 25, slot := 17, constantValue := 0 }, { name := "T_LONG", type := .int, accessFlags := 25, slot := 18, constantValue := 0 }, { name := "JLA", type := (.object "jdk/internal/access/JavaLangAccess"), accessFlags := 26, slot := 19, constantValue := 0 }, { name := "SOFT_MAX_ARRAY_LENGTH", type := .int, accessFlags := 25, slot := 20, constantValue := 0 }]
  methods := #[k13m0]
  instanceTypes := #[]
  staticTypes := #[(.object "jdk/internal/misc/Unsafe"), .boolean, .int, .int, .int, .int, .int, .int, .int, .int, .int, .int, .int, .int, .int, .int, .int, .int, .int, (.object "jdk/internal/access/JavaLangAccess"), .int]
  resolved := Array.replicate 378 none
  statics := none }

def pool14 : Array CpInfo := pool [(1, u "java/lang/Cloneable"), (0, .class_ 1), (0, u "java/lang/Object"), (0, .class_ 3)] 3

/-- java/lang/Cloneable -/
def k14 : Class := { plain "java/lang/Cloneable" (some 0) with
  accessFlags := 1537
  interfaces := #[]
  cf := some (fileOf pool14 2 #[] #[] 1537 4 #[] #[])
  fields := #[]
  methods := #[]
  instanceTypes := #[]
  staticTypes := #[]
  resolved := Array.replicate 8 none
  statics := none }

/-- the primitive byte -/
def k15 : Class := { plain "byte" none with kind := .primitive 'B', accessFlags := 0x411 }
/-- [B -/
def k16 : Class := { plain "[B" (some 0) with kind := .array 15 .byte, interfaces := #[14, 2], accessFlags := 1041 }

/-- the primitive char -/
def k17 : Class := { plain "char" none with kind := .primitive 'C', accessFlags := 0x411 }
/-- [C -/
def k18 : Class := { plain "[C" (some 0) with kind := .array 17 .char, interfaces := #[14, 2], accessFlags := 1041 }

/-- the primitive int -/
def k19 : Class := { plain "int" none with kind := .primitive 'I', accessFlags := 0x411 }
/-- [I -/
def k20 : Class := { plain "[I" (some 0) with kind := .array 19 .int, interfaces := #[14, 2], accessFlags := 1041 }

def heap : Heap := #[{ cls := 7, slots := #[.long 0, .int 1, .null, .int 0, .null, .int 0, .int 0], vm := .statics 7 },
  { cls := 9, slots := #[.int 0, .int 8, .int 0, .int 1], vm := .statics 9 },
  { cls := 11, slots := #[.null, .null, .null], vm := .statics 11 }]
def classes : Array Class := #[k0, k1, k2, k3, k4, k5, k6, k7, k8, k9, k10, k11, k12, k13, k14, k15, k16, k17, k18, k19, k20]
def interned : List (Array UInt16 × Addr) := []
def slotsUsed : Nat := 14
def theMethod : MethodId := ⟨1, 1⟩
def args0 : Array Value := #[.int 5, .int 7, .int 65, .int 66]
def aboutOver (below : List Frame) : State where
  vm := { classes := classes, interned := interned.toArray }
  heap := heap
  slotsUsed := slotsUsed
  threads := #[{ frames := .invoking theMethod args0 :: below }]
def below0 : List Frame := [.native { method := ⟨0, 0⟩, args := #[] }]
def about1 : State := aboutOver below0
def p0 : Program := .bare "" "" ""
def e0 : Env := launch0.env 0 0 0
theorem w_frames : about1.frames = Frame.invoking theMethod args0 :: below0 := rfl
set_option maxRecDepth 65536 in
theorem w_args : argsFit about1.vm theMethod args0 = true := by decide +kernel
set_option maxRecDepth 65536 in
theorem w_heap : heapFits about1 = true := by decide +kernel
set_option maxRecDepth 65536 in
theorem w_runnable : about1.curStatus? = some .runnable := by decide +kernel
set_option maxRecDepth 65536 in
theorem w_alone : about1.alone = true := by decide +kernel
set_option maxRecDepth 65536 in
theorem w_named : about1.methodNamed? x = some theMethod := by decide +kernel
set_option maxRecDepth 65536 in
theorem w_hears : about1.hears theMethod below0 = true := by decide +kernel
set_option maxRecDepth 65536 in
theorem w_ripe : about1.ripe theMethod args0 below0 = true := by decide +kernel
theorem w_running : about1.status = .running := rfl
set_option maxRecDepth 65536 in
theorem w_room : about1.hasRoom e0.platform room_1 = true :=
  launch0.hasRoom_least _ room_1 (by decide +kernel) (by decide +kernel) (by decide +kernel) (by decide +kernel) (by decide +kernel) (by decide +kernel)
theorem allAtoms_all (ts : List Jvm.Cond) (a : Array Jvm.Value) (st : Jvm.State) : (allAtoms ts).before a st = ts.all (fun c => c.before a st) := by
  induction ts with
  | nil => rfl
  | cons c t ih =>
    show (Jvm.Cond.and c (allAtoms t)).before a st = _
    rw [Jvm.Cond.before_and, ih, List.all_cons]
def words1 : List Jvm.Cond := Jvm.Cond.code x code maxLocals ret :: tables_1
/-- a 'code' word, met by the world's own term for the bytes: nothing is compared byte by byte -/
theorem code_word {y : MethodName} {bytes : ByteArray} {mx : Nat} {rt : Option FieldType} {a : Array Value} {s : State} {m : MethodId} {meth : Method} {c : Code} (h1 : s.methodNamed? y = some m) (h2 : s.vm.method? m = some meth) (h3 : meth.code = some c) (h4 : c.code = bytes)
    (h5 : (c.maxLocals == mx && c.exceptionTable.isEmpty && decide (c.maxStack ≤ mostOperands) && decide (meth.sig.returnType = rt) && !meth.locks && decide (parseMethodDescriptor y.desc = some meth.sig)) = true) : (Jvm.Cond.code y bytes mx rt).before a s = true := by
  simp only [Bool.and_eq_true, beq_iff_eq, Bool.not_eq_true', decide_eq_true_eq] at h5
  obtain ⟨⟨⟨⟨⟨g1, g2⟩, g3⟩, g4⟩, g5⟩, g6⟩ := h5
  simp [Cond.before, Cond.holds, Cond.value, h1, h2, h3, h4, g1, g2, g3, g4, g5, g6]
def isCode : Jvm.Cond → Bool
  | .code _ _ _ _ => true
  | _ => false
theorem all_split {L : List Jvm.Cond} {P : Jvm.Cond → Bool} (h1 : L.all (fun c => isCode c || P c) = true) (h2 : ∀ c ∈ L.filter isCode, P c = true) : L.all P = true := by
  refine List.all_eq_true.mpr fun c hc => ?_
  have h := List.all_eq_true.mp h1 c hc
  rcases Bool.eq_false_or_eq_true (isCode c) with hi | hi
  · exact h2 c (List.mem_filter.mpr ⟨hc, hi⟩)
  · simpa [hi] using h
set_option maxRecDepth 65536 in
theorem w_c0 : (Jvm.Cond.code x code maxLocals ret).before args0 about1 = true := code_word (m := ⟨1, 1⟩) (meth := k1m1) (c := k1c1) (by decide +kernel) rfl rfl rfl (by decide +kernel)
set_option maxRecDepth 65536 in
theorem w_c1 : (Jvm.Cond.code ({ cls := "com/example/rillet/rillet/transport/Utf8LengthPinLaw", name := "prefix", desc := "([CI)Ljava/lang/String;" } : Jvm.MethodName) method_6_code (2 : Nat) (Option.some (Jvm.ClassFile.FieldType.object "java/lang/String"))).before args0 about1 = true := code_word (m := ⟨1, 5⟩) (meth := k1m5) (c := k1c5) (by decide +kernel) rfl rfl rfl (by decide +kernel)
set_option maxRecDepth 65536 in
theorem w_c2 : (Jvm.Cond.code ({ cls := "java/lang/String", name := "<init>", desc := "([C)V" } : Jvm.MethodName) jdk_42_method_3_code (2 : Nat) (Option.none : Option Jvm.ClassFile.FieldType)).before args0 about1 = true := code_word (m := ⟨7, 1⟩) (meth := k7m1) (c := k7c1) (by decide +kernel) rfl rfl rfl (by decide +kernel)
set_option maxRecDepth 65536 in
theorem w_c3 : (Jvm.Cond.code ({ cls := "java/lang/String", name := "<init>", desc := "([CIILjava/lang/Void;)V" } : Jvm.MethodName) jdk_42_method_149_code (6 : Nat) (Option.none : Option Jvm.ClassFile.FieldType)).before args0 about1 = true := code_word (m := ⟨7, 4⟩) (meth := k7m4) (c := k7c4) (by decide +kernel) rfl rfl rfl (by decide +kernel)
set_option maxRecDepth 65536 in
theorem w_c4 : (Jvm.Cond.code ({ cls := "java/lang/Object", name := "<init>", desc := "()V" } : Jvm.MethodName) object_method_1_code (1 : Nat) (Option.none : Option Jvm.ClassFile.FieldType)).before args0 about1 = true := code_word (m := ⟨0, 0⟩) (meth := k0m0) (c := k0c0) (by decide +kernel) rfl rfl rfl (by decide +kernel)
set_option maxRecDepth 65536 in
theorem w_c5 : (Jvm.Cond.code ({ cls := "com/example/rillet/rillet/transport/Utf8", name := "length", desc := "(Ljava/lang/String;Ljava/lang/String;)J" } : Jvm.MethodName) prog_44_method_2_code (7 : Nat) (Option.some Jvm.ClassFile.FieldType.long)).before args0 about1 = true := code_word (m := ⟨8, 1⟩) (meth := k8m1) (c := k8c1) (by decide +kernel) rfl rfl rfl (by decide +kernel)
set_option maxRecDepth 65536 in
theorem w_c6 : (Jvm.Cond.code ({ cls := "java/lang/String", name := "length", desc := "()I" } : Jvm.MethodName) jdk_42_method_54_code (1 : Nat) (Option.some Jvm.ClassFile.FieldType.int)).before args0 about1 = true := code_word (m := ⟨7, 2⟩) (meth := k7m2) (c := k7c2) (by decide +kernel) rfl rfl rfl (by decide +kernel)
set_option maxRecDepth 65536 in
theorem w_c7 : (Jvm.Cond.code ({ cls := "java/lang/String", name := "coder", desc := "()B" } : Jvm.MethodName) jdk_42_method_152_code (1 : Nat) (Option.some Jvm.ClassFile.FieldType.byte)).before args0 about1 = true := code_word (m := ⟨7, 5⟩) (meth := k7m5) (c := k7c5) (by decide +kernel) rfl rfl rfl (by decide +kernel)
set_option maxRecDepth 65536 in
theorem w_c8 : (Jvm.Cond.code ({ cls := "com/example/rillet/rillet/transport/Utf8LengthPinLaw", name := "put", desc := "([CII)I" } : Jvm.MethodName) method_4_code (4 : Nat) (Option.some Jvm.ClassFile.FieldType.int)).before args0 about1 = true := code_word (m := ⟨1, 3⟩) (meth := k1m3) (c := k1c3) (by decide +kernel) rfl rfl rfl (by decide +kernel)
set_option maxRecDepth 65536 in
theorem w_c9 : (Jvm.Cond.code ({ cls := "com/example/rillet/rillet/transport/Utf8LengthPinLaw", name := "surr", desc := "(I)Z" } : Jvm.MethodName) method_3_code (2 : Nat) (Option.some Jvm.ClassFile.FieldType.boolean)).before args0 about1 = true := code_word (m := ⟨1, 2⟩) (meth := k1m2) (c := k1c2) (by decide +kernel) rfl rfl rfl (by decide +kernel)
set_option maxRecDepth 65536 in
theorem w_c10 : (Jvm.Cond.code ({ cls := "com/example/rillet/rillet/transport/Utf8LengthPinLaw", name := "weight", desc := "(I)J" } : Jvm.MethodName) method_5_code (2 : Nat) (Option.some Jvm.ClassFile.FieldType.long)).before args0 about1 = true := code_word (m := ⟨1, 4⟩) (meth := k1m4) (c := k1c4) (by decide +kernel) rfl rfl rfl (by decide +kernel)
set_option maxRecDepth 65536 in
theorem w_c11 : (Jvm.Cond.code ({ cls := "java/lang/StringUTF16", name := "compress", desc := "([CII)[B" } : Jvm.MethodName) jdk_52_method_16_code (6 : Nat) (Option.some (Jvm.ClassFile.FieldType.array Jvm.ClassFile.FieldType.byte))).before args0 about1 = true := code_word (m := ⟨9, 8⟩) (meth := k9m8) (c := k9c8) (by decide +kernel) rfl rfl rfl (by decide +kernel)
set_option maxRecDepth 65536 in
theorem w_c12 : (Jvm.Cond.code ({ cls := "java/lang/StringUTF16", name := "compress", desc := "([CI[BII)I" } : Jvm.MethodName) jdk_52_method_21_code (7 : Nat) (Option.some Jvm.ClassFile.FieldType.int)).before args0 about1 = true := code_word (m := ⟨9, 9⟩) (meth := k9m9) (c := k9c9) (by decide +kernel) rfl rfl rfl (by decide +kernel)
set_option maxRecDepth 65536 in
theorem w_c13 : (Jvm.Cond.code ({ cls := "java/lang/StringUTF16", name := "coderFromArrayLen", desc := "([BI)B" } : Jvm.MethodName) jdk_52_method_15_code (2 : Nat) (Option.some Jvm.ClassFile.FieldType.byte)).before args0 about1 = true := code_word (m := ⟨9, 7⟩) (meth := k9m7) (c := k9c7) (by decide +kernel) rfl rfl rfl (by decide +kernel)
set_option maxRecDepth 65536 in
theorem w_c14 : (Jvm.Cond.code ({ cls := "java/lang/String", name := "charAt", desc := "(I)C" } : Jvm.MethodName) jdk_42_method_56_code (2 : Nat) (Option.some Jvm.ClassFile.FieldType.char)).before args0 about1 = true := code_word (m := ⟨7, 3⟩) (meth := k7m3) (c := k7c3) (by decide +kernel) rfl rfl rfl (by decide +kernel)
set_option maxRecDepth 65536 in
theorem w_c15 : (Jvm.Cond.code ({ cls := "java/lang/String", name := "isLatin1", desc := "()Z" } : Jvm.MethodName) jdk_42_method_154_code (1 : Nat) (Option.some Jvm.ClassFile.FieldType.boolean)).before args0 about1 = true := code_word (m := ⟨7, 6⟩) (meth := k7m6) (c := k7c6) (by decide +kernel) rfl rfl rfl (by decide +kernel)
set_option maxRecDepth 65536 in
theorem w_c16 : (Jvm.Cond.code ({ cls := "java/lang/StringLatin1", name := "charAt", desc := "([BI)C" } : Jvm.MethodName) jdk_43_method_2_code (2 : Nat) (Option.some Jvm.ClassFile.FieldType.char)).before args0 about1 = true := code_word (m := ⟨10, 1⟩) (meth := k10m1) (c := k10c1) (by decide +kernel) rfl rfl rfl (by decide +kernel)
set_option maxRecDepth 65536 in
theorem w_c17 : (Jvm.Cond.code ({ cls := "java/lang/String", name := "checkIndex", desc := "(II)V" } : Jvm.MethodName) jdk_42_method_155_code (2 : Nat) (Option.none : Option Jvm.ClassFile.FieldType)).before args0 about1 = true := code_word (m := ⟨7, 7⟩) (meth := k7m7) (c := k7c7) (by decide +kernel) rfl rfl rfl (by decide +kernel)
set_option maxRecDepth 65536 in
theorem w_c18 : (Jvm.Cond.code ({ cls := "jdk/internal/util/Preconditions", name := "checkIndex", desc := "(IILjava/util/function/BiFunction;)I" } : Jvm.MethodName) jdk_41_method_11_code (3 : Nat) (Option.some Jvm.ClassFile.FieldType.int)).before args0 about1 = true := code_word (m := ⟨11, 1⟩) (meth := k11m1) (c := k11c1) (by decide +kernel) rfl rfl rfl (by decide +kernel)
set_option maxRecDepth 65536 in
theorem w_c19 : (Jvm.Cond.code ({ cls := "java/lang/StringUTF16", name := "toBytes", desc := "([CII)[B" } : Jvm.MethodName) jdk_52_method_14_code (5 : Nat) (Option.some (Jvm.ClassFile.FieldType.array Jvm.ClassFile.FieldType.byte))).before args0 about1 = true := code_word (m := ⟨9, 6⟩) (meth := k9m6) (c := k9c6) (by decide +kernel) rfl rfl rfl (by decide +kernel)
set_option maxRecDepth 65536 in
theorem w_c20 : (Jvm.Cond.code ({ cls := "java/lang/StringUTF16", name := "newBytesFor", desc := "(I)[B" } : Jvm.MethodName) jdk_52_method_2_code (1 : Nat) (Option.some (Jvm.ClassFile.FieldType.array Jvm.ClassFile.FieldType.byte))).before args0 about1 = true := code_word (m := ⟨9, 1⟩) (meth := k9m1) (c := k9c1) (by decide +kernel) rfl rfl rfl (by decide +kernel)
set_option maxRecDepth 65536 in
theorem w_c21 : (Jvm.Cond.code ({ cls := "java/lang/StringUTF16", name := "newBytesLength", desc := "(I)I" } : Jvm.MethodName) jdk_52_method_3_code (1 : Nat) (Option.some Jvm.ClassFile.FieldType.int)).before args0 about1 = true := code_word (m := ⟨9, 2⟩) (meth := k9m2) (c := k9c2) (by decide +kernel) rfl rfl rfl (by decide +kernel)
set_option maxRecDepth 65536 in
theorem w_c22 : (Jvm.Cond.code ({ cls := "java/lang/StringUTF16", name := "putChar", desc := "([BII)V" } : Jvm.MethodName) jdk_52_method_4_code (3 : Nat) (Option.none : Option Jvm.ClassFile.FieldType)).before args0 about1 = true := code_word (m := ⟨9, 3⟩) (meth := k9m3) (c := k9c3) (by decide +kernel) rfl rfl rfl (by decide +kernel)
set_option maxRecDepth 65536 in
theorem w_c23 : (Jvm.Cond.code ({ cls := "java/lang/StringUTF16", name := "getChar", desc := "([BI)C" } : Jvm.MethodName) jdk_52_method_5_code (2 : Nat) (Option.some Jvm.ClassFile.FieldType.char)).before args0 about1 = true := code_word (m := ⟨9, 4⟩) (meth := k9m4) (c := k9c4) (by decide +kernel) rfl rfl rfl (by decide +kernel)
set_option maxRecDepth 65536 in
theorem w_c24 : (Jvm.Cond.code ({ cls := "java/lang/StringUTF16", name := "charAt", desc := "([BI)C" } : Jvm.MethodName) jdk_52_method_83_code (2 : Nat) (Option.some Jvm.ClassFile.FieldType.char)).before args0 about1 = true := code_word (m := ⟨9, 10⟩) (meth := k9m10) (c := k9c10) (by decide +kernel) rfl rfl rfl (by decide +kernel)
set_option maxRecDepth 65536 in
theorem w_c25 : (Jvm.Cond.code ({ cls := "java/lang/StringUTF16", name := "checkIndex", desc := "(I[B)V" } : Jvm.MethodName) jdk_52_method_91_code (2 : Nat) (Option.none : Option Jvm.ClassFile.FieldType)).before args0 about1 = true := code_word (m := ⟨9, 11⟩) (meth := k9m11) (c := k9c11) (by decide +kernel) rfl rfl rfl (by decide +kernel)
set_option maxRecDepth 65536 in
theorem w_c26 : (Jvm.Cond.code ({ cls := "java/lang/StringUTF16", name := "length", desc := "([B)I" } : Jvm.MethodName) jdk_52_method_6_code (1 : Nat) (Option.some Jvm.ClassFile.FieldType.int)).before args0 about1 = true := code_word (m := ⟨9, 5⟩) (meth := k9m5) (c := k9c5) (by decide +kernel) rfl rfl rfl (by decide +kernel)
set_option maxRecDepth 65536 in
theorem w_c27 : (Jvm.Cond.code ({ cls := "java/lang/Character", name := "isSurrogate", desc := "(C)Z" } : Jvm.MethodName) jdk_89_method_16_code (1 : Nat) (Option.some Jvm.ClassFile.FieldType.boolean)).before args0 about1 = true := code_word (m := ⟨12, 2⟩) (meth := k12m2) (c := k12c2) (by decide +kernel) rfl rfl rfl (by decide +kernel)
set_option maxRecDepth 65536 in
theorem w_c28 : (Jvm.Cond.code ({ cls := "java/lang/Character", name := "isHighSurrogate", desc := "(C)Z" } : Jvm.MethodName) jdk_89_method_14_code (1 : Nat) (Option.some Jvm.ClassFile.FieldType.boolean)).before args0 about1 = true := code_word (m := ⟨12, 0⟩) (meth := k12m0) (c := k12c0) (by decide +kernel) rfl rfl rfl (by decide +kernel)
set_option maxRecDepth 65536 in
theorem w_c29 : (Jvm.Cond.code ({ cls := "java/lang/Character", name := "isLowSurrogate", desc := "(C)Z" } : Jvm.MethodName) jdk_89_method_15_code (1 : Nat) (Option.some Jvm.ClassFile.FieldType.boolean)).before args0 about1 = true := code_word (m := ⟨12, 1⟩) (meth := k12m1) (c := k12c1) (by decide +kernel) rfl rfl rfl (by decide +kernel)
def codes1 : List Jvm.Cond := [Jvm.Cond.code x code maxLocals ret, Jvm.Cond.code ({ cls := "com/example/rillet/rillet/transport/Utf8LengthPinLaw", name := "prefix", desc := "([CI)Ljava/lang/String;" } : Jvm.MethodName) method_6_code (2 : Nat) (Option.some (Jvm.ClassFile.FieldType.object "java/lang/String")), Jvm.Cond.code ({ cls := "java/lang/String", name := "<init>", desc := "([C)V" } : Jvm.MethodName) jdk_42_method_3_code (2 : Nat) (Option.none : Option Jvm.ClassFile.FieldType), Jvm.Cond.code ({ cls := "java/lang/String", name := "<init>", desc := "([CIILjava/lang/Void;)V" } : Jvm.MethodName) jdk_42_method_149_code (6 : Nat) (Option.none : Option Jvm.ClassFile.FieldType), Jvm.Cond.code ({ cls := "java/lang/Object", name := "<init>", desc := "()V" } : Jvm.MethodName) object_method_1_code (1 : Nat) (Option.none : Option Jvm.ClassFile.FieldType), Jvm.Cond.code ({ cls := "com/example/rillet/rillet/transport/Utf8", name := "length", desc := "(Ljava/lang/String;Ljava/lang/String;)J" } : Jvm.MethodName) prog_44_method_2_code (7 : Nat) (Option.some Jvm.ClassFile.FieldType.long), Jvm.Cond.code ({ cls := "java/lang/String", name := "length", desc := "()I" } : Jvm.MethodName) jdk_42_method_54_code (1 : Nat) (Option.some Jvm.ClassFile.FieldType.int), Jvm.Cond.code ({ cls := "java/lang/String", name := "coder", desc := "()B" } : Jvm.MethodName) jdk_42_method_152_code (1 : Nat) (Option.some Jvm.ClassFile.FieldType.byte), Jvm.Cond.code ({ cls := "com/example/rillet/rillet/transport/Utf8LengthPinLaw", name := "put", desc := "([CII)I" } : Jvm.MethodName) method_4_code (4 : Nat) (Option.some Jvm.ClassFile.FieldType.int), Jvm.Cond.code ({ cls := "com/example/rillet/rillet/transport/Utf8LengthPinLaw", name := "surr", desc := "(I)Z" } : Jvm.MethodName) method_3_code (2 : Nat) (Option.some Jvm.ClassFile.FieldType.boolean), Jvm.Cond.code ({ cls := "com/example/rillet/rillet/transport/Utf8LengthPinLaw", name := "weight", desc := "(I)J" } : Jvm.MethodName) method_5_code (2 : Nat) (Option.some Jvm.ClassFile.FieldType.long), Jvm.Cond.code ({ cls := "java/lang/StringUTF16", name := "compress", desc := "([CII)[B" } : Jvm.MethodName) jdk_52_method_16_code (6 : Nat) (Option.some (Jvm.ClassFile.FieldType.array Jvm.ClassFile.FieldType.byte)), Jvm.Cond.code ({ cls := "java/lang/StringUTF16", name := "compress", desc := "([CI[BII)I" } : Jvm.MethodName) jdk_52_method_21_code (7 : Nat) (Option.some Jvm.ClassFile.FieldType.int), Jvm.Cond.code ({ cls := "java/lang/StringUTF16", name := "coderFromArrayLen", desc := "([BI)B" } : Jvm.MethodName) jdk_52_method_15_code (2 : Nat) (Option.some Jvm.ClassFile.FieldType.byte), Jvm.Cond.code ({ cls := "java/lang/String", name := "charAt", desc := "(I)C" } : Jvm.MethodName) jdk_42_method_56_code (2 : Nat) (Option.some Jvm.ClassFile.FieldType.char), Jvm.Cond.code ({ cls := "java/lang/String", name := "isLatin1", desc := "()Z" } : Jvm.MethodName) jdk_42_method_154_code (1 : Nat) (Option.some Jvm.ClassFile.FieldType.boolean), Jvm.Cond.code ({ cls := "java/lang/StringLatin1", name := "charAt", desc := "([BI)C" } : Jvm.MethodName) jdk_43_method_2_code (2 : Nat) (Option.some Jvm.ClassFile.FieldType.char), Jvm.Cond.code ({ cls := "java/lang/String", name := "checkIndex", desc := "(II)V" } : Jvm.MethodName) jdk_42_method_155_code (2 : Nat) (Option.none : Option Jvm.ClassFile.FieldType), Jvm.Cond.code ({ cls := "jdk/internal/util/Preconditions", name := "checkIndex", desc := "(IILjava/util/function/BiFunction;)I" } : Jvm.MethodName) jdk_41_method_11_code (3 : Nat) (Option.some Jvm.ClassFile.FieldType.int), Jvm.Cond.code ({ cls := "java/lang/StringUTF16", name := "toBytes", desc := "([CII)[B" } : Jvm.MethodName) jdk_52_method_14_code (5 : Nat) (Option.some (Jvm.ClassFile.FieldType.array Jvm.ClassFile.FieldType.byte)), Jvm.Cond.code ({ cls := "java/lang/StringUTF16", name := "newBytesFor", desc := "(I)[B" } : Jvm.MethodName) jdk_52_method_2_code (1 : Nat) (Option.some (Jvm.ClassFile.FieldType.array Jvm.ClassFile.FieldType.byte)), Jvm.Cond.code ({ cls := "java/lang/StringUTF16", name := "newBytesLength", desc := "(I)I" } : Jvm.MethodName) jdk_52_method_3_code (1 : Nat) (Option.some Jvm.ClassFile.FieldType.int), Jvm.Cond.code ({ cls := "java/lang/StringUTF16", name := "putChar", desc := "([BII)V" } : Jvm.MethodName) jdk_52_method_4_code (3 : Nat) (Option.none : Option Jvm.ClassFile.FieldType), Jvm.Cond.code ({ cls := "java/lang/StringUTF16", name := "getChar", desc := "([BI)C" } : Jvm.MethodName) jdk_52_method_5_code (2 : Nat) (Option.some Jvm.ClassFile.FieldType.char), Jvm.Cond.code ({ cls := "java/lang/StringUTF16", name := "charAt", desc := "([BI)C" } : Jvm.MethodName) jdk_52_method_83_code (2 : Nat) (Option.some Jvm.ClassFile.FieldType.char), Jvm.Cond.code ({ cls := "java/lang/StringUTF16", name := "checkIndex", desc := "(I[B)V" } : Jvm.MethodName) jdk_52_method_91_code (2 : Nat) (Option.none : Option Jvm.ClassFile.FieldType), Jvm.Cond.code ({ cls := "java/lang/StringUTF16", name := "length", desc := "([B)I" } : Jvm.MethodName) jdk_52_method_6_code (1 : Nat) (Option.some Jvm.ClassFile.FieldType.int), Jvm.Cond.code ({ cls := "java/lang/Character", name := "isSurrogate", desc := "(C)Z" } : Jvm.MethodName) jdk_89_method_16_code (1 : Nat) (Option.some Jvm.ClassFile.FieldType.boolean), Jvm.Cond.code ({ cls := "java/lang/Character", name := "isHighSurrogate", desc := "(C)Z" } : Jvm.MethodName) jdk_89_method_14_code (1 : Nat) (Option.some Jvm.ClassFile.FieldType.boolean), Jvm.Cond.code ({ cls := "java/lang/Character", name := "isLowSurrogate", desc := "(C)Z" } : Jvm.MethodName) jdk_89_method_15_code (1 : Nat) (Option.some Jvm.ClassFile.FieldType.boolean)]
set_option maxRecDepth 65536 in
theorem codes_eq : words1.filter isCode = codes1 := rfl
theorem w_codes : ∀ c ∈ words1.filter isCode, c.before args0 about1 = true := by
  rw [codes_eq]
  intro c hc
  simp only [codes1, List.mem_cons, List.not_mem_nil, or_false] at hc
  rcases hc with rfl | rfl | rfl | rfl | rfl | rfl | rfl | rfl | rfl | rfl | rfl | rfl | rfl | rfl | rfl | rfl | rfl | rfl | rfl | rfl | rfl | rfl | rfl | rfl | rfl | rfl | rfl | rfl | rfl | rfl
  · exact w_c0
  · exact w_c1
  · exact w_c2
  · exact w_c3
  · exact w_c4
  · exact w_c5
  · exact w_c6
  · exact w_c7
  · exact w_c8
  · exact w_c9
  · exact w_c10
  · exact w_c11
  · exact w_c12
  · exact w_c13
  · exact w_c14
  · exact w_c15
  · exact w_c16
  · exact w_c17
  · exact w_c18
  · exact w_c19
  · exact w_c20
  · exact w_c21
  · exact w_c22
  · exact w_c23
  · exact w_c24
  · exact w_c25
  · exact w_c26
  · exact w_c27
  · exact w_c28
  · exact w_c29
set_option maxRecDepth 65536 in
theorem w_t1 : (words1.take 24).all (fun c => isCode c || c.before args0 about1) = true := by decide +kernel
set_option maxRecDepth 65536 in
theorem w_t2 : ((words1.drop 24).take 24).all (fun c => isCode c || c.before args0 about1) = true := by decide +kernel
set_option maxRecDepth 65536 in
theorem w_t3 : (((words1.drop 24).drop 24).take 24).all (fun c => isCode c || c.before args0 about1) = true := by decide +kernel
set_option maxRecDepth 65536 in
theorem w_t4 : ((((words1.drop 24).drop 24).drop 24).take 24).all (fun c => isCode c || c.before args0 about1) = true := by decide +kernel
set_option maxRecDepth 65536 in
theorem w_t5 : (((((words1.drop 24).drop 24).drop 24).drop 24).take 24).all (fun c => isCode c || c.before args0 about1) = true := by decide +kernel
set_option maxRecDepth 65536 in
theorem w_t6 : (((((words1.drop 24).drop 24).drop 24).drop 24).drop 24).all (fun c => isCode c || c.before args0 about1) = true := by decide +kernel
theorem w_tables : (allAtoms (Jvm.Cond.code x code maxLocals ret :: tables_1)).before args0 about1 = true := by
  rw [allAtoms_all]
  show words1.all (fun c => c.before args0 about1) = true
  refine all_split ?_ w_codes
  rw [← List.take_append_drop 24 words1, List.all_append, w_t1, ← List.take_append_drop 24 (words1.drop 24), List.all_append, w_t2, ← List.take_append_drop 24 ((words1.drop 24).drop 24), List.all_append, w_t3, ← List.take_append_drop 24 (((words1.drop 24).drop 24).drop 24), List.all_append, w_t4, ← List.take_append_drop 24 ((((words1.drop 24).drop 24).drop 24).drop 24), List.all_append, w_t5, w_t6]
  rfl
set_option maxRecDepth 65536 in
theorem w_rest : rest_1_c.before args0 about1 = true := by decide +kernel
set_option maxRecDepth 65536 in
theorem w_case : (Jvm.Cond.and given_1 narrow_1).before args0 about1 = true := by decide +kernel
set_option maxRecDepth 65536 in
theorem w_consts : constsHeld consts_1 about1 := Jvm.Lit.constsHeldB_iff.mp (by decide +kernel)
theorem w_applies : (headSpec (Jvm.Cond.code x code maxLocals ret :: tables_1) room_1).applies x e0.platform about1 = true :=
  (Spec.applies_iff w_frames).mpr ⟨w_running, w_runnable, w_alone, w_named, w_hears, w_ripe, w_room, w_tables⟩
theorem atStart : AtStart classFile x code maxLocals ret World_1 tables_1 room_1 Calls_1 rest_1 Pre_1 launch0 p0 e0 about1 theMethod args0 below0 :=
  ⟨lists_1, trivial, launch0.admits_env _ _ _, launch0.least_env, fairChoices_fair.cas, fairChoices_fair.clock, w_frames, w_args, w_heap, w_applies, ⟨w_consts, trivial⟩, w_rest, w_case⟩
end start1
theorem witness_1 : WitnessClaimed_1 := ⟨start1.p0, start1.e0, start1.about1, start1.theMethod, start1.args0, start1.below0, start1.atStart⟩
end Jvm.Pilot.@@N@@
