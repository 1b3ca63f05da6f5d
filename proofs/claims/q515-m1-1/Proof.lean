import JvmDerived
import JvmDerived.Pilot.@@N@@Statement
import JvmDerived.Pilot.@@N@@Code
set_option linter.unusedVariables false
set_option linter.unusedSimpArgs false
@@BLOCK:NumsL.lean.txt@@
namespace Jvm.Pilot.@@N@@
open Jvm Jvm.ClassFile Sem Op Lib Jvm.Free Jvm.Stand Jvm.LawKit Jvm.RoadKit Bundle Jvm.Pilot.@@N@@.Jvm.D
section OwnKit
variable {p : Program} {l : Launch} {e : Env} {R : Room} {s : State} {m : MethodId} {args : Array Value} {below : List Frame} {meth : Method} {c : Code} {n0 C N : Nat} {Q : Option Value → Heap → Prop} {h : Heap} {ce sl pc q : Nat} {Ls : Array Slot} {st : List Value} {Z : State} {a0 : Array Value}
/-- the walk that stands at pc, with these locals, this stack and this heap, comes to its end as Q says -/
def Go (p : Program) (l : Launch) (e : Env) (R : Room) (s : State) (m : MethodId) (args : Array Value) (below : List Frame) (meth : Method) (c : Code) (n0 C N : Nat) (Q : Option Value → Heap → Prop) (h : Heap) (ce sl pc : Nat) (Ls : Array Slot) (st : List Value) : Prop :=
  ∀ (T : State) (locs : List Loc), Stand p l e R s m args below meth c T locs ce sl → Fr n0 locs → T.heap = h →
    ∃ (s₂ : State) (v : Option Value) (L : List Loc), Steps p.tables e below (T.setTop (mkF m pc Ls st)) s₂ ∧ s₂.status = .running ∧ Ended s₂ below (.returned v) ∧ Q v s₂.heap ∧ Fr n0 L ∧ FrameEnd s (.returned v) s₂ L C N
/-- a method's contract, at given arguments and a given heap -/
abbrev Met (l : Launch) (Z : State) (y : MethodName) (bytes : ByteArray) (maxL : Nat) (rt : Option FieldType) (ws : List Cond) (rm : Room) (as : Array Value) (h0 : Heap) (n0 : Nat) (Q : Option Value → Heap → Prop) : Prop :=
  MetFree l y (head1 (Cond.code y bytes maxL rt :: ws) rm) (fun a U => a = as ∧ Z.Warmed39 U.vm ∧ U.heap = h0) (fun _ _ _ _ _ => True) (fun _ U o U' => ∃ v L, o = .returned v ∧ (Q v U'.heap ∧ Fr n0 L) ∧ FrameEnd U o U' L rm.cells rm.slots)
theorem Met.of {y : MethodName} {bytes : ByteArray} {maxL : Nat} {rt : Option FieldType} {ws : List Cond} {rm : Room} {as : Array Value} {h0 : Heap} {Ls0 : Array Slot} (hpl : plainFor y = true) (hent : argsToLocals as maxL = Ls0)
    (body : ∀ (p : Program) (e : Env) (s : State) (m : MethodId) (below : List Frame) (meth : Method) (c : Code), p.tables.exec = Jvm.exec → c.code = bytes → c.maxLocals = maxL → meth.sig.returnType = rt → meth.locks = false → s.vm.findClass y.cls = some m.cls → meth.name = y.name → Z.Warmed39 s.vm →
      Go p l e rm s m as below meth c n0 rm.cells rm.slots Q h0 0 0 0 Ls0 []) : Met l Z y bytes maxL rt ws rm as h0 n0 Q := by
  refine MetFree.of_bodySF hpl hisR ?_
  intro p e s m args below meth c s₁ Bd hml0 hP hK
  obtain ⟨rfl, hZ, hh⟩ := hP
  have e0 : s₁.heap = h0 := by rw [← hh, Bd.state]; rfl
  obtain ⟨s₂, v, L, S, r1, r2, hq, hf, fe⟩ := body p e s m below meth c Bd.exec Bd.bytes hml0 Bd.returns Bd.notSynchronized (findClass_of_methodNamed Bd.named) (name_of_methodNamed Bd.named Bd.method).1 hZ s₁ [] (Stand.of_body Bd) (Fr.nil _) e0
  have ef : entryFrame m args maxL = mkF m 0 Ls0 [] := by simp only [entryFrame, mkF, hent]
  exact ⟨s₂, _, castTop ef S, r1, r2, v, L, rfl, ⟨hq, hf⟩, fe⟩
theorem Go.mono {ce' sl' : Nat} (hc : ce ≤ ce') (hs : sl ≤ sl') (G : Go p l e R s m args below meth c n0 C N Q h ce' sl' pc Ls st) : Go p l e R s m args below meth c n0 C N Q h ce sl pc Ls st :=
  fun T locs X Nf eT => G T locs (X.more hc hs) Nf eT
theorem Go.step {q' : Nat} {Ls' : Array Slot} {st' : List Value} (H : ∀ (T : State) (locs : List Loc) (target : State), Stand p l e R s m args below meth c T locs ce sl → T.heap = h → Steps p.tables e below (T.setTop (mkF m q' Ls' st')) target → Steps p.tables e below (T.setTop (mkF m pc Ls st)) target)
    (G : Go p l e R s m args below meth c n0 C N Q h ce sl q' Ls' st') : Go p l e R s m args below meth c n0 C N Q h ce sl pc Ls st := fun T locs X Nf eT => by
  obtain ⟨s₂, v, L, S, r⟩ := G T locs X Nf eT
  exact ⟨s₂, v, L, H T locs s₂ X eT S, r⟩
theorem Go.law {ce' sl' q' : Nat} {Ls' : Array Slot} {st' : List Value} {h' : Heap} (H : ∀ (T : State) (locs : List Loc), Stand p l e R s m args below meth c T locs ce sl → T.heap = h → ∃ T', Stand p l e R s m args below meth c T' locs ce' sl' ∧ T'.heap = h' ∧ ∀ target, Steps p.tables e below (T'.setTop (mkF m q' Ls' st')) target → Steps p.tables e below (T.setTop (mkF m pc Ls st)) target)
    (G : Go p l e R s m args below meth c n0 C N Q h' ce' sl' q' Ls' st') : Go p l e R s m args below meth c n0 C N Q h ce sl pc Ls st := fun T locs X Nf eT => by
  obtain ⟨T', X', eT', hs⟩ := H T locs X eT
  obtain ⟨s₂, v, L, S, r⟩ := G T' locs X' Nf eT'
  exact ⟨s₂, v, L, hs _ S, r⟩
theorem Go.iloadN (hx : p.tables.exec = Jvm.exec) {k : Fin 4} {v : Int32} (hd : decode c.code pc = .ok (.iload_n k, 1)) (hl : Ls[k.val]? = some (.val (.int v))) (hq : q = pc + 1) (G : Go p l e R s m args below meth c n0 C N Q h ce sl q Ls (.int v :: st)) : Go p l e R s m args below meth c n0 C N Q h ce sl pc Ls (st) := by
  subst hq
  exact Go.step (fun T locs target X _ S => XS.iloadN X.here hx rfl hd hl S) G
theorem Go.iload (hx : p.tables.exec = Jvm.exec) {k : Nat} {v : Int32} (hd : decode c.code pc = .ok (.iload k, 2)) (hl : Ls[k]? = some (.val (.int v))) (hq : q = pc + 2) (G : Go p l e R s m args below meth c n0 C N Q h ce sl q Ls (.int v :: st)) : Go p l e R s m args below meth c n0 C N Q h ce sl pc Ls (st) := by
  subst hq
  exact Go.step (fun T locs target X _ S => XS.iload X.here hx rfl hd hl S) G
theorem Go.aloadN (hx : p.tables.exec = Jvm.exec) {k : Fin 4} {v : Value} (hd : decode c.code pc = .ok (.aload_n k, 1)) (hl : Ls[k.val]? = some (.val v)) (hv : v.isRef = true) (hq : q = pc + 1) (G : Go p l e R s m args below meth c n0 C N Q h ce sl q Ls (v :: st)) : Go p l e R s m args below meth c n0 C N Q h ce sl pc Ls (st) := by
  subst hq
  exact Go.step (fun T locs target X _ S => XS.aloadN X.here hx rfl hd hl hv S) G
theorem Go.aload (hx : p.tables.exec = Jvm.exec) {k : Nat} {v : Value} (hd : decode c.code pc = .ok (.aload k, 2)) (hl : Ls[k]? = some (.val v)) (hv : v.isRef = true) (hq : q = pc + 2) (G : Go p l e R s m args below meth c n0 C N Q h ce sl q Ls (v :: st)) : Go p l e R s m args below meth c n0 C N Q h ce sl pc Ls (st) := by
  subst hq
  exact Go.step (fun T locs target X _ S => XS.aload X.here hx rfl hd hl hv S) G
theorem Go.lloadN (hx : p.tables.exec = Jvm.exec) {k : Fin 4} {v : Int64} (hd : decode c.code pc = .ok (.lload_n k, 1)) (hl : Ls[k.val]? = some (.val (.long v))) (hq : q = pc + 1) (G : Go p l e R s m args below meth c n0 C N Q h ce sl q Ls (.long v :: st)) : Go p l e R s m args below meth c n0 C N Q h ce sl pc Ls (st) := by
  subst hq
  exact Go.step (fun T locs target X _ S => XT.lloadN X.here hx rfl hd hl S) G
theorem Go.lload (hx : p.tables.exec = Jvm.exec) {k : Nat} {v : Int64} (hd : decode c.code pc = .ok (.lload k, 2)) (hl : Ls[k]? = some (.val (.long v))) (hq : q = pc + 2) (G : Go p l e R s m args below meth c n0 C N Q h ce sl q Ls (.long v :: st)) : Go p l e R s m args below meth c n0 C N Q h ce sl pc Ls (st) := by
  subst hq
  exact Go.step (fun T locs target X _ S => XT.lload X.here hx rfl hd hl S) G
theorem Go.istoreN (hx : p.tables.exec = Jvm.exec) {k : Fin 4} {x : Int32} {l' : Array Slot} (hd : decode c.code pc = .ok (.istore_n k, 1)) (hl : storeLocals Ls k.val (.int x) = some l') (hq : q = pc + 1) (G : Go p l e R s m args below meth c n0 C N Q h ce sl q l' (st)) : Go p l e R s m args below meth c n0 C N Q h ce sl pc Ls (.int x :: st) := by
  subst hq
  exact Go.step (fun T locs target X _ S => XS.istoreN X.here hx rfl hd rfl hl S) G
theorem Go.istore (hx : p.tables.exec = Jvm.exec) {k : Nat} {x : Int32} {l' : Array Slot} (hd : decode c.code pc = .ok (.istore k, 2)) (hl : storeLocals Ls k (.int x) = some l') (hq : q = pc + 2) (G : Go p l e R s m args below meth c n0 C N Q h ce sl q l' (st)) : Go p l e R s m args below meth c n0 C N Q h ce sl pc Ls (.int x :: st) := by
  subst hq
  exact Go.step (fun T locs target X _ S => XS.istore X.here hx rfl hd rfl hl S) G
theorem Go.lstoreN (hx : p.tables.exec = Jvm.exec) {k : Fin 4} {x : Int64} {l' : Array Slot} (hd : decode c.code pc = .ok (.lstore_n k, 1)) (hl : storeLocals Ls k.val (.long x) = some l') (hq : q = pc + 1) (G : Go p l e R s m args below meth c n0 C N Q h ce sl q l' (st)) : Go p l e R s m args below meth c n0 C N Q h ce sl pc Ls (.long x :: st) := by
  subst hq
  exact Go.step (fun T locs target X _ S => XT.lstoreN X.here hx rfl hd rfl hl S) G
theorem Go.lstore (hx : p.tables.exec = Jvm.exec) {k : Nat} {x : Int64} {l' : Array Slot} (hd : decode c.code pc = .ok (.lstore k, 2)) (hl : storeLocals Ls k (.long x) = some l') (hq : q = pc + 2) (G : Go p l e R s m args below meth c n0 C N Q h ce sl q l' (st)) : Go p l e R s m args below meth c n0 C N Q h ce sl pc Ls (.long x :: st) := by
  subst hq
  exact Go.step (fun T locs target X _ S => XT.lstore X.here hx rfl hd rfl hl S) G
theorem Go.astoreN (hx : p.tables.exec = Jvm.exec) {k : Fin 4} {x : Value} {l' : Array Slot} (hd : decode c.code pc = .ok (.astore_n k, 1)) (hv : x.isRef = true) (hl : storeLocals Ls k.val x = some l') (hq : q = pc + 1) (G : Go p l e R s m args below meth c n0 C N Q h ce sl q l' (st)) : Go p l e R s m args below meth c n0 C N Q h ce sl pc Ls (x :: st) := by
  subst hq
  exact Go.step (fun T locs target X _ S => XS.astoreN X.here hx rfl hd rfl hv hl S) G
theorem Go.astore (hx : p.tables.exec = Jvm.exec) {k : Nat} {x : Value} {l' : Array Slot} (hd : decode c.code pc = .ok (.astore k, 2)) (hv : x.isRef = true) (hl : storeLocals Ls k x = some l') (hq : q = pc + 2) (G : Go p l e R s m args below meth c n0 C N Q h ce sl q l' (st)) : Go p l e R s m args below meth c n0 C N Q h ce sl pc Ls (x :: st) := by
  subst hq
  exact Go.step (fun T locs target X _ S => XS.astore X.here hx rfl hd rfl hv hl S) G
theorem Go.iinc (hx : p.tables.exec = Jvm.exec) {k : Nat} {cst : Int} {x : Int32} {l' : Array Slot} (hd : decode c.code pc = .ok (.iinc k cst, 3)) (hl : Ls[k]? = some (.val (.int x))) (hl' : storeLocals Ls k (.int (x + Int32.ofInt cst)) = some l') (hq : q = pc + 3) (G : Go p l e R s m args below meth c n0 C N Q h ce sl q l' (st)) : Go p l e R s m args below meth c n0 C N Q h ce sl pc Ls (st) := by
  subst hq
  exact Go.step (fun T locs target X _ S => XS.iinc X.here hx rfl hd hl hl' S) G
theorem Go.iconst (hx : p.tables.exec = Jvm.exec) {i : Int} {z : Int32} (hd : decode c.code pc = .ok (.iconst i, 1)) (hz : Int32.ofInt i = z) (hq : q = pc + 1) (G : Go p l e R s m args below meth c n0 C N Q h ce sl q Ls (.int z :: st)) : Go p l e R s m args below meth c n0 C N Q h ce sl pc Ls (st) := by
  subst hq
  exact Go.step (fun T locs target X _ S => XS.iconst X.here hx rfl hd (by rw [hz]; exact S)) G
theorem Go.bipush (hx : p.tables.exec = Jvm.exec) {i : Int} {z : Int32} (hd : decode c.code pc = .ok (.bipush i, 2)) (hz : (Int8.ofInt i).toInt32 = z) (hq : q = pc + 2) (G : Go p l e R s m args below meth c n0 C N Q h ce sl q Ls (.int z :: st)) : Go p l e R s m args below meth c n0 C N Q h ce sl pc Ls (st) := by
  subst hq
  exact Go.step (fun T locs target X _ S => XS.bipush X.here hx rfl hd (by rw [hz]; exact S)) G
theorem Go.sipush (hx : p.tables.exec = Jvm.exec) {i : Int} {z : Int32} (hd : decode c.code pc = .ok (.sipush i, 3)) (hz : (Int16.ofInt i).toInt32 = z) (hq : q = pc + 3) (G : Go p l e R s m args below meth c n0 C N Q h ce sl q Ls (.int z :: st)) : Go p l e R s m args below meth c n0 C N Q h ce sl pc Ls (st) := by
  subst hq
  exact Go.step (fun T locs target X _ S => XS.sipush X.here hx rfl hd (by rw [hz]; exact S)) G
theorem Go.aconstNull (hx : p.tables.exec = Jvm.exec)  (hd : decode c.code pc = .ok (.aconst_null, 1))  (hq : q = pc + 1) (G : Go p l e R s m args below meth c n0 C N Q h ce sl q Ls (.null :: st)) : Go p l e R s m args below meth c n0 C N Q h ce sl pc Ls (st) := by
  subst hq
  exact Go.step (fun T locs target X _ S => XS.aconstNull X.here hx rfl hd S) G
theorem Go.lconst (hx : p.tables.exec = Jvm.exec) {k : Fin 2} {z : Int64} (hd : decode c.code pc = .ok (.lconst k, 1)) (hz : Int64.ofNat k = z) (hq : q = pc + 1) (G : Go p l e R s m args below meth c n0 C N Q h ce sl q Ls (.long z :: st)) : Go p l e R s m args below meth c n0 C N Q h ce sl pc Ls (st) := by
  subst hq
  exact Go.step (fun T locs target X _ S => XT.lconst X.here hx rfl hd (by rw [hz]; exact S)) G
theorem Go.ldcInt (hx : p.tables.exec = Jvm.exec) (hZ : Z.Warmed39 s.vm) {own : String} {index : Nat} {v : Int32} (hown : s.vm.findClass own = some m.cls) (hw : (Cond.constant own index v).before a0 Z = true) (hd : decode c.code pc = .ok (.ldc index, 2)) (hq : q = pc + 2) (G : Go p l e R s m args below meth c n0 C N Q h ce sl q Ls (.int v :: st)) : Go p l e R s m args below meth c n0 C N Q h ce sl pc Ls st := by
  subst hq
  exact Go.step (fun T locs target X _ S => X.ldcInt hx hown (mvT hZ hw) (g := mkF m pc Ls st) rfl hd target S) G
theorem Go.ldc2Long (hx : p.tables.exec = Jvm.exec) (hZ : Z.Warmed39 s.vm) {own : String} {index : Nat} {v : Int64} (hown : s.vm.findClass own = some m.cls) (hw : (Cond.constantLong own index v).before a0 Z = true) (hd : decode c.code pc = .ok (.ldc2_w index, 3)) (hq : q = pc + 3) (G : Go p l e R s m args below meth c n0 C N Q h ce sl q Ls (.long v :: st)) : Go p l e R s m args below meth c n0 C N Q h ce sl pc Ls st := by
  subst hq
  exact Go.step (fun T locs target X _ S => X.ldc2Long hx hown (mvT hZ hw) (g := mkF m pc Ls st) rfl hd target S) G
theorem Go.iadd (hx : p.tables.exec = Jvm.exec) {x y : Int32} (hd : decode c.code pc = .ok (.iadd, 1))  (hq : q = pc + 1) (G : Go p l e R s m args below meth c n0 C N Q h ce sl q Ls (.int (x + y) :: st)) : Go p l e R s m args below meth c n0 C N Q h ce sl pc Ls (.int y :: .int x :: st) := by
  subst hq
  exact Go.step (fun T locs target X _ S => XS.iadd X.here hx rfl hd rfl S) G
theorem Go.isub (hx : p.tables.exec = Jvm.exec) {x y : Int32} (hd : decode c.code pc = .ok (.isub, 1))  (hq : q = pc + 1) (G : Go p l e R s m args below meth c n0 C N Q h ce sl q Ls (.int (x - y) :: st)) : Go p l e R s m args below meth c n0 C N Q h ce sl pc Ls (.int y :: .int x :: st) := by
  subst hq
  exact Go.step (fun T locs target X _ S => XS.isub X.here hx rfl hd rfl S) G
theorem Go.iand (hx : p.tables.exec = Jvm.exec) {x y : Int32} (hd : decode c.code pc = .ok (.iand, 1))  (hq : q = pc + 1) (G : Go p l e R s m args below meth c n0 C N Q h ce sl q Ls (.int (x &&& y) :: st)) : Go p l e R s m args below meth c n0 C N Q h ce sl pc Ls (.int y :: .int x :: st) := by
  subst hq
  exact Go.step (fun T locs target X _ S => XS.iand X.here hx rfl hd rfl S) G
theorem Go.imul (hx : p.tables.exec = Jvm.exec) {x y : Int32} (hd : decode c.code pc = .ok (.imul, 1))  (hq : q = pc + 1) (G : Go p l e R s m args below meth c n0 C N Q h ce sl q Ls (.int (x * y) :: st)) : Go p l e R s m args below meth c n0 C N Q h ce sl pc Ls (.int y :: .int x :: st) := by
  subst hq
  exact Go.step (fun T locs target X _ S => XS.imul X.here hx rfl hd rfl S) G
theorem Go.idiv (hx : p.tables.exec = Jvm.exec) {x y : Int32} (hd : decode c.code pc = .ok (.idiv, 1)) (hy : y ≠ 0) (hq : q = pc + 1) (G : Go p l e R s m args below meth c n0 C N Q h ce sl q Ls (.int (x / y) :: st)) : Go p l e R s m args below meth c n0 C N Q h ce sl pc Ls (.int y :: .int x :: st) := by
  subst hq
  exact Go.step (fun T locs target X _ S => XS.idiv X.here hx rfl hd rfl hy S) G
theorem Go.irem (hx : p.tables.exec = Jvm.exec) {x y : Int32} (hd : decode c.code pc = .ok (.irem, 1)) (hy : y ≠ 0) (hq : q = pc + 1) (G : Go p l e R s m args below meth c n0 C N Q h ce sl q Ls (.int (x % y) :: st)) : Go p l e R s m args below meth c n0 C N Q h ce sl pc Ls (.int y :: .int x :: st) := by
  subst hq
  exact Go.step (fun T locs target X _ S => iremM X hx rfl hd rfl hy S) G
theorem Go.ineg (hx : p.tables.exec = Jvm.exec) {x : Int32} (hd : decode c.code pc = .ok (.ineg, 1))  (hq : q = pc + 1) (G : Go p l e R s m args below meth c n0 C N Q h ce sl q Ls (.int (-x) :: st)) : Go p l e R s m args below meth c n0 C N Q h ce sl pc Ls (.int x :: st) := by
  subst hq
  exact Go.step (fun T locs target X _ S => XS.ineg X.here hx rfl hd rfl S) G
theorem Go.ixor (hx : p.tables.exec = Jvm.exec) {x y : Int32} (hd : decode c.code pc = .ok (.ixor, 1))  (hq : q = pc + 1) (G : Go p l e R s m args below meth c n0 C N Q h ce sl q Ls (.int (x ^^^ y) :: st)) : Go p l e R s m args below meth c n0 C N Q h ce sl pc Ls (.int y :: .int x :: st) := by
  subst hq
  exact Go.step (fun T locs target X _ S => XT.ixor X.here hx rfl hd rfl S) G
theorem Go.ior (hx : p.tables.exec = Jvm.exec) {x y : Int32} (hd : decode c.code pc = .ok (.ior, 1))  (hq : q = pc + 1) (G : Go p l e R s m args below meth c n0 C N Q h ce sl q Ls (.int (x ||| y) :: st)) : Go p l e R s m args below meth c n0 C N Q h ce sl pc Ls (.int y :: .int x :: st) := by
  subst hq
  exact Go.step (fun T locs target X _ S => XT.ior X.here hx rfl hd rfl S) G
theorem Go.ishl (hx : p.tables.exec = Jvm.exec) {x y : Int32} (hd : decode c.code pc = .ok (.ishl, 1))  (hq : q = pc + 1) (G : Go p l e R s m args below meth c n0 C N Q h ce sl q Ls (.int (x <<< (y &&& 31)) :: st)) : Go p l e R s m args below meth c n0 C N Q h ce sl pc Ls (.int y :: .int x :: st) := by
  subst hq
  exact Go.step (fun T locs target X _ S => XT.ishl X.here hx rfl hd rfl S) G
theorem Go.ishr (hx : p.tables.exec = Jvm.exec) {x y : Int32} (hd : decode c.code pc = .ok (.ishr, 1))  (hq : q = pc + 1) (G : Go p l e R s m args below meth c n0 C N Q h ce sl q Ls (.int (x >>> (y &&& 31)) :: st)) : Go p l e R s m args below meth c n0 C N Q h ce sl pc Ls (.int y :: .int x :: st) := by
  subst hq
  exact Go.step (fun T locs target X _ S => XT.ishr X.here hx rfl hd rfl S) G
theorem Go.iushr (hx : p.tables.exec = Jvm.exec) {x y : Int32} (hd : decode c.code pc = .ok (.iushr, 1))  (hq : q = pc + 1) (G : Go p l e R s m args below meth c n0 C N Q h ce sl q Ls (.int (XT.ushr x y) :: st)) : Go p l e R s m args below meth c n0 C N Q h ce sl pc Ls (.int y :: .int x :: st) := by
  subst hq
  exact Go.step (fun T locs target X _ S => XT.iushr X.here hx rfl hd rfl S) G
theorem Go.ladd (hx : p.tables.exec = Jvm.exec) {x y : Int64} (hd : decode c.code pc = .ok (.ladd, 1))  (hq : q = pc + 1) (G : Go p l e R s m args below meth c n0 C N Q h ce sl q Ls (.long (x + y) :: st)) : Go p l e R s m args below meth c n0 C N Q h ce sl pc Ls (.long y :: .long x :: st) := by
  subst hq
  exact Go.step (fun T locs target X _ S => XT.ladd X.here hx rfl hd rfl S) G
theorem Go.lsub (hx : p.tables.exec = Jvm.exec) {x y : Int64} (hd : decode c.code pc = .ok (.lsub, 1))  (hq : q = pc + 1) (G : Go p l e R s m args below meth c n0 C N Q h ce sl q Ls (.long (x - y) :: st)) : Go p l e R s m args below meth c n0 C N Q h ce sl pc Ls (.long y :: .long x :: st) := by
  subst hq
  exact Go.step (fun T locs target X _ S => XT.lsub X.here hx rfl hd rfl S) G
theorem Go.lmul (hx : p.tables.exec = Jvm.exec) {x y : Int64} (hd : decode c.code pc = .ok (.lmul, 1))  (hq : q = pc + 1) (G : Go p l e R s m args below meth c n0 C N Q h ce sl q Ls (.long (x * y) :: st)) : Go p l e R s m args below meth c n0 C N Q h ce sl pc Ls (.long y :: .long x :: st) := by
  subst hq
  exact Go.step (fun T locs target X _ S => XT.lmul X.here hx rfl hd rfl S) G
theorem Go.land (hx : p.tables.exec = Jvm.exec) {x y : Int64} (hd : decode c.code pc = .ok (.land, 1))  (hq : q = pc + 1) (G : Go p l e R s m args below meth c n0 C N Q h ce sl q Ls (.long (x &&& y) :: st)) : Go p l e R s m args below meth c n0 C N Q h ce sl pc Ls (.long y :: .long x :: st) := by
  subst hq
  exact Go.step (fun T locs target X _ S => XT.land X.here hx rfl hd rfl S) G
theorem Go.lor (hx : p.tables.exec = Jvm.exec) {x y : Int64} (hd : decode c.code pc = .ok (.lor, 1))  (hq : q = pc + 1) (G : Go p l e R s m args below meth c n0 C N Q h ce sl q Ls (.long (x ||| y) :: st)) : Go p l e R s m args below meth c n0 C N Q h ce sl pc Ls (.long y :: .long x :: st) := by
  subst hq
  exact Go.step (fun T locs target X _ S => XT.lor X.here hx rfl hd rfl S) G
theorem Go.lxor (hx : p.tables.exec = Jvm.exec) {x y : Int64} (hd : decode c.code pc = .ok (.lxor, 1))  (hq : q = pc + 1) (G : Go p l e R s m args below meth c n0 C N Q h ce sl q Ls (.long (x ^^^ y) :: st)) : Go p l e R s m args below meth c n0 C N Q h ce sl pc Ls (.long y :: .long x :: st) := by
  subst hq
  exact Go.step (fun T locs target X _ S => XT.lxor X.here hx rfl hd rfl S) G
theorem Go.lshl (hx : p.tables.exec = Jvm.exec) {x : Int64} {y : Int32} (hd : decode c.code pc = .ok (.lshl, 1))  (hq : q = pc + 1) (G : Go p l e R s m args below meth c n0 C N Q h ce sl q Ls (.long (x <<< (y.toInt64 &&& 63)) :: st)) : Go p l e R s m args below meth c n0 C N Q h ce sl pc Ls (.int y :: .long x :: st) := by
  subst hq
  exact Go.step (fun T locs target X _ S => XT.lshl X.here hx rfl hd rfl S) G
theorem Go.lshr (hx : p.tables.exec = Jvm.exec) {x : Int64} {y : Int32} (hd : decode c.code pc = .ok (.lshr, 1))  (hq : q = pc + 1) (G : Go p l e R s m args below meth c n0 C N Q h ce sl q Ls (.long (x >>> (y.toInt64 &&& 63)) :: st)) : Go p l e R s m args below meth c n0 C N Q h ce sl pc Ls (.int y :: .long x :: st) := by
  subst hq
  exact Go.step (fun T locs target X _ S => XT.lshr X.here hx rfl hd rfl S) G
theorem Go.lushr (hx : p.tables.exec = Jvm.exec) {x : Int64} {y : Int32} (hd : decode c.code pc = .ok (.lushr, 1))  (hq : q = pc + 1) (G : Go p l e R s m args below meth c n0 C N Q h ce sl q Ls (.long (XT.ushrL x y) :: st)) : Go p l e R s m args below meth c n0 C N Q h ce sl pc Ls (.int y :: .long x :: st) := by
  subst hq
  exact Go.step (fun T locs target X _ S => XT.lushr X.here hx rfl hd rfl S) G
theorem Go.lrem (hx : p.tables.exec = Jvm.exec) {x y : Int64} (hd : decode c.code pc = .ok (.lrem, 1)) (hy : y ≠ 0) (hq : q = pc + 1) (G : Go p l e R s m args below meth c n0 C N Q h ce sl q Ls (.long (x - (x / y) * y) :: st)) : Go p l e R s m args below meth c n0 C N Q h ce sl pc Ls (.long y :: .long x :: st) := by
  subst hq
  exact Go.step (fun T locs target X _ S => XT.lrem X.here hx rfl hd rfl hy S) G
theorem Go.ldiv (hx : p.tables.exec = Jvm.exec) {x y : Int64} (hd : decode c.code pc = .ok (.ldiv, 1)) (hy : y ≠ 0) (hq : q = pc + 1) (G : Go p l e R s m args below meth c n0 C N Q h ce sl q Ls (.long (x / y) :: st)) : Go p l e R s m args below meth c n0 C N Q h ce sl pc Ls (.long y :: .long x :: st) := by
  subst hq
  exact Go.step (fun T locs target X _ S => XT.ldiv X.here hx rfl hd rfl hy S) G
theorem Go.lneg (hx : p.tables.exec = Jvm.exec) {x : Int64} (hd : decode c.code pc = .ok (.lneg, 1))  (hq : q = pc + 1) (G : Go p l e R s m args below meth c n0 C N Q h ce sl q Ls (.long (-x) :: st)) : Go p l e R s m args below meth c n0 C N Q h ce sl pc Ls (.long x :: st) := by
  subst hq
  exact Go.step (fun T locs target X _ S => XT.lneg X.here hx rfl hd rfl S) G
theorem Go.lcmp (hx : p.tables.exec = Jvm.exec) {x y : Int64} (hd : decode c.code pc = .ok (.lcmp, 1))  (hq : q = pc + 1) (G : Go p l e R s m args below meth c n0 C N Q h ce sl q Ls (.int (XT.cmpL x y) :: st)) : Go p l e R s m args below meth c n0 C N Q h ce sl pc Ls (.long y :: .long x :: st) := by
  subst hq
  exact Go.step (fun T locs target X _ S => XT.lcmp X.here hx rfl hd rfl S) G
theorem Go.i2l (hx : p.tables.exec = Jvm.exec) {x : Int32} (hd : decode c.code pc = .ok (.i2l, 1))  (hq : q = pc + 1) (G : Go p l e R s m args below meth c n0 C N Q h ce sl q Ls (.long (x.toInt64) :: st)) : Go p l e R s m args below meth c n0 C N Q h ce sl pc Ls (.int x :: st) := by
  subst hq
  exact Go.step (fun T locs target X _ S => XT.i2l X.here hx rfl hd rfl S) G
theorem Go.l2i (hx : p.tables.exec = Jvm.exec) {x : Int64} (hd : decode c.code pc = .ok (.l2i, 1))  (hq : q = pc + 1) (G : Go p l e R s m args below meth c n0 C N Q h ce sl q Ls (.int (x.toInt32) :: st)) : Go p l e R s m args below meth c n0 C N Q h ce sl pc Ls (.long x :: st) := by
  subst hq
  exact Go.step (fun T locs target X _ S => XT.l2i X.here hx rfl hd rfl S) G
theorem Go.i2b (hx : p.tables.exec = Jvm.exec) {x : Int32} (hd : decode c.code pc = .ok (.i2b, 1))  (hq : q = pc + 1) (G : Go p l e R s m args below meth c n0 C N Q h ce sl q Ls (.int (x.toInt8.toInt32) :: st)) : Go p l e R s m args below meth c n0 C N Q h ce sl pc Ls (.int x :: st) := by
  subst hq
  exact Go.step (fun T locs target X _ S => XT.i2b X.here hx rfl hd rfl S) G
theorem Go.i2c (hx : p.tables.exec = Jvm.exec) {x : Int32} (hd : decode c.code pc = .ok (.i2c, 1))  (hq : q = pc + 1) (G : Go p l e R s m args below meth c n0 C N Q h ce sl q Ls (.int (x.toUInt32.toUInt16.toUInt32.toInt32) :: st)) : Go p l e R s m args below meth c n0 C N Q h ce sl pc Ls (.int x :: st) := by
  subst hq
  exact Go.step (fun T locs target X _ S => XT.i2c X.here hx rfl hd rfl S) G
theorem Go.i2s (hx : p.tables.exec = Jvm.exec) {x : Int32} (hd : decode c.code pc = .ok (.i2s, 1))  (hq : q = pc + 1) (G : Go p l e R s m args below meth c n0 C N Q h ce sl q Ls (.int (x.toInt16.toInt32) :: st)) : Go p l e R s m args below meth c n0 C N Q h ce sl pc Ls (.int x :: st) := by
  subst hq
  exact Go.step (fun T locs target X _ S => XT.i2s X.here hx rfl hd rfl S) G
theorem Go.dup (hx : p.tables.exec = Jvm.exec) {x : Value} (hd : decode c.code pc = .ok (.dup, 1)) (hc : x.category = 1) (hq : q = pc + 1) (G : Go p l e R s m args below meth c n0 C N Q h ce sl q Ls (x :: x :: st)) : Go p l e R s m args below meth c n0 C N Q h ce sl pc Ls (x :: st) := by
  subst hq
  exact Go.step (fun T locs target X _ S => XS.dup X.here hx rfl hd rfl hc S) G
theorem Go.pop (hx : p.tables.exec = Jvm.exec) {x : Value} (hd : decode c.code pc = .ok (.pop, 1)) (hc : x.category = 1) (hq : q = pc + 1) (G : Go p l e R s m args below meth c n0 C N Q h ce sl q Ls (st)) : Go p l e R s m args below meth c n0 C N Q h ce sl pc Ls (x :: st) := by
  subst hq
  exact Go.step (fun T locs target X _ S => XT.pop X.here hx rfl hd rfl hc S) G
theorem Go.dupX1 (hx : p.tables.exec = Jvm.exec) {x y : Value} (hd : decode c.code pc = .ok (.dup_x1, 1)) (hc : x.category = 1) (hc' : y.category = 1) (hq : q = pc + 1) (G : Go p l e R s m args below meth c n0 C N Q h ce sl q Ls (x :: y :: x :: st)) : Go p l e R s m args below meth c n0 C N Q h ce sl pc Ls (x :: y :: st) := by
  subst hq
  exact Go.step (fun T locs target X _ S => XT.dupX1 X.here hx rfl hd rfl hc hc' S) G
theorem Go.dup2 (hx : p.tables.exec = Jvm.exec) {x y : Value} (hd : decode c.code pc = .ok (.dup2, 1)) (hc : x.category = 1) (hc' : y.category = 1) (hq : q = pc + 1) (G : Go p l e R s m args below meth c n0 C N Q h ce sl q Ls (x :: y :: x :: y :: st)) : Go p l e R s m args below meth c n0 C N Q h ce sl pc Ls (x :: y :: st) := by
  subst hq
  exact Go.step (fun T locs target X _ S => XT.dup2 X.here hx rfl hd rfl hc hc' S) G
theorem Go.dup2L (hx : p.tables.exec = Jvm.exec) {x : Int64} (hd : decode c.code pc = .ok (.dup2, 1))  (hq : q = pc + 1) (G : Go p l e R s m args below meth c n0 C N Q h ce sl q Ls (.long x :: .long x :: st)) : Go p l e R s m args below meth c n0 C N Q h ce sl pc Ls (.long x :: st) := by
  subst hq
  exact Go.step (fun T locs target X _ S => XT.dup2L X.here hx rfl hd rfl S) G
theorem Go.goto (hx : p.tables.exec = Jvm.exec) {o : Int} (hd : decode c.code pc = .ok (.goto o, 3)) (ho : 0 ≤ (pc : Int) + o) (hq : ((pc : Int) + o).toNat = q) (G : Go p l e R s m args below meth c n0 C N Q h ce sl q Ls st) : Go p l e R s m args below meth c n0 C N Q h ce sl pc Ls st :=
  Go.step (fun T locs target X _ S => XS.goto X.here hx rfl rfl hd ho hq S) G
theorem Go.icmp_eq (hx : p.tables.exec = Jvm.exec) {x y : Int32} {o : Int} {t : Nat} (hd : decode c.code pc = .ok (.if_icmp .eq o, 3)) (ho : 0 ≤ (pc : Int) + o) (ht : ((pc : Int) + o).toNat = t) (hq : q = pc + 3) (Gt : x = y → Go p l e R s m args below meth c n0 C N Q h ce sl t Ls st) (Gf : ¬ x = y → Go p l e R s m args below meth c n0 C N Q h ce sl q Ls st) : Go p l e R s m args below meth c n0 C N Q h ce sl pc Ls (.int y :: .int x :: st) := by
  subst hq
  by_cases hc : x = y
  · exact Go.step (fun T locs target X _ S => XS.icmpYes X.here hx rfl rfl hd rfl (teq hc).1 ho ht S) (Gt hc)
  · exact Go.step (fun T locs target X _ S => XS.icmpNo X.here hx rfl hd rfl (feq hc).1 S) (Gf hc)
theorem Go.if_eq (hx : p.tables.exec = Jvm.exec) {x : Int32} {o : Int} {t : Nat} (hd : decode c.code pc = .ok (.ifCond .eq o, 3)) (ho : 0 ≤ (pc : Int) + o) (ht : ((pc : Int) + o).toNat = t) (hq : q = pc + 3) (Gt : x = 0 → Go p l e R s m args below meth c n0 C N Q h ce sl t Ls st) (Gf : ¬ x = 0 → Go p l e R s m args below meth c n0 C N Q h ce sl q Ls st) : Go p l e R s m args below meth c n0 C N Q h ce sl pc Ls (.int x :: st) := by
  subst hq
  by_cases hc : x = 0
  · exact Go.step (fun T locs target X _ S => XS.ifYes X.here hx rfl rfl hd rfl ((if0 _ _).trans (teq hc).1) ho ht S) (Gt hc)
  · exact Go.step (fun T locs target X _ S => XS.ifNo X.here hx rfl hd rfl ((if0 _ _).trans (feq hc).1) S) (Gf hc)
theorem Go.icmp_ne (hx : p.tables.exec = Jvm.exec) {x y : Int32} {o : Int} {t : Nat} (hd : decode c.code pc = .ok (.if_icmp .ne o, 3)) (ho : 0 ≤ (pc : Int) + o) (ht : ((pc : Int) + o).toNat = t) (hq : q = pc + 3) (Gt : ¬ x = y → Go p l e R s m args below meth c n0 C N Q h ce sl t Ls st) (Gf : x = y → Go p l e R s m args below meth c n0 C N Q h ce sl q Ls st) : Go p l e R s m args below meth c n0 C N Q h ce sl pc Ls (.int y :: .int x :: st) := by
  subst hq
  by_cases hc : x = y
  · exact Go.step (fun T locs target X _ S => XS.icmpNo X.here hx rfl hd rfl (teq hc).2 S) (Gf hc)
  · exact Go.step (fun T locs target X _ S => XS.icmpYes X.here hx rfl rfl hd rfl (feq hc).2 ho ht S) (Gt hc)
theorem Go.if_ne (hx : p.tables.exec = Jvm.exec) {x : Int32} {o : Int} {t : Nat} (hd : decode c.code pc = .ok (.ifCond .ne o, 3)) (ho : 0 ≤ (pc : Int) + o) (ht : ((pc : Int) + o).toNat = t) (hq : q = pc + 3) (Gt : ¬ x = 0 → Go p l e R s m args below meth c n0 C N Q h ce sl t Ls st) (Gf : x = 0 → Go p l e R s m args below meth c n0 C N Q h ce sl q Ls st) : Go p l e R s m args below meth c n0 C N Q h ce sl pc Ls (.int x :: st) := by
  subst hq
  by_cases hc : x = 0
  · exact Go.step (fun T locs target X _ S => XS.ifNo X.here hx rfl hd rfl ((if0 _ _).trans (teq hc).2) S) (Gf hc)
  · exact Go.step (fun T locs target X _ S => XS.ifYes X.here hx rfl rfl hd rfl ((if0 _ _).trans (feq hc).2) ho ht S) (Gt hc)
theorem Go.icmp_lt (hx : p.tables.exec = Jvm.exec) {x y : Int32} {o : Int} {t : Nat} (hd : decode c.code pc = .ok (.if_icmp .lt o, 3)) (ho : 0 ≤ (pc : Int) + o) (ht : ((pc : Int) + o).toNat = t) (hq : q = pc + 3) (Gt : x < y → Go p l e R s m args below meth c n0 C N Q h ce sl t Ls st) (Gf : ¬ x < y → Go p l e R s m args below meth c n0 C N Q h ce sl q Ls st) : Go p l e R s m args below meth c n0 C N Q h ce sl pc Ls (.int y :: .int x :: st) := by
  subst hq
  by_cases hc : x < y
  · exact Go.step (fun T locs target X _ S => XS.icmpYes X.here hx rfl rfl hd rfl (tlt hc).1 ho ht S) (Gt hc)
  · exact Go.step (fun T locs target X _ S => XS.icmpNo X.here hx rfl hd rfl (flt hc).1 S) (Gf hc)
theorem Go.if_lt (hx : p.tables.exec = Jvm.exec) {x : Int32} {o : Int} {t : Nat} (hd : decode c.code pc = .ok (.ifCond .lt o, 3)) (ho : 0 ≤ (pc : Int) + o) (ht : ((pc : Int) + o).toNat = t) (hq : q = pc + 3) (Gt : x < 0 → Go p l e R s m args below meth c n0 C N Q h ce sl t Ls st) (Gf : ¬ x < 0 → Go p l e R s m args below meth c n0 C N Q h ce sl q Ls st) : Go p l e R s m args below meth c n0 C N Q h ce sl pc Ls (.int x :: st) := by
  subst hq
  by_cases hc : x < 0
  · exact Go.step (fun T locs target X _ S => XS.ifYes X.here hx rfl rfl hd rfl ((if0 _ _).trans (tlt hc).1) ho ht S) (Gt hc)
  · exact Go.step (fun T locs target X _ S => XS.ifNo X.here hx rfl hd rfl ((if0 _ _).trans (flt hc).1) S) (Gf hc)
theorem Go.icmp_ge (hx : p.tables.exec = Jvm.exec) {x y : Int32} {o : Int} {t : Nat} (hd : decode c.code pc = .ok (.if_icmp .ge o, 3)) (ho : 0 ≤ (pc : Int) + o) (ht : ((pc : Int) + o).toNat = t) (hq : q = pc + 3) (Gt : ¬ x < y → Go p l e R s m args below meth c n0 C N Q h ce sl t Ls st) (Gf : x < y → Go p l e R s m args below meth c n0 C N Q h ce sl q Ls st) : Go p l e R s m args below meth c n0 C N Q h ce sl pc Ls (.int y :: .int x :: st) := by
  subst hq
  by_cases hc : x < y
  · exact Go.step (fun T locs target X _ S => XS.icmpNo X.here hx rfl hd rfl (tlt hc).2.1 S) (Gf hc)
  · exact Go.step (fun T locs target X _ S => XS.icmpYes X.here hx rfl rfl hd rfl (flt hc).2.1 ho ht S) (Gt hc)
theorem Go.if_ge (hx : p.tables.exec = Jvm.exec) {x : Int32} {o : Int} {t : Nat} (hd : decode c.code pc = .ok (.ifCond .ge o, 3)) (ho : 0 ≤ (pc : Int) + o) (ht : ((pc : Int) + o).toNat = t) (hq : q = pc + 3) (Gt : ¬ x < 0 → Go p l e R s m args below meth c n0 C N Q h ce sl t Ls st) (Gf : x < 0 → Go p l e R s m args below meth c n0 C N Q h ce sl q Ls st) : Go p l e R s m args below meth c n0 C N Q h ce sl pc Ls (.int x :: st) := by
  subst hq
  by_cases hc : x < 0
  · exact Go.step (fun T locs target X _ S => XS.ifNo X.here hx rfl hd rfl ((if0 _ _).trans (tlt hc).2.1) S) (Gf hc)
  · exact Go.step (fun T locs target X _ S => XS.ifYes X.here hx rfl rfl hd rfl ((if0 _ _).trans (flt hc).2.1) ho ht S) (Gt hc)
theorem Go.icmp_gt (hx : p.tables.exec = Jvm.exec) {x y : Int32} {o : Int} {t : Nat} (hd : decode c.code pc = .ok (.if_icmp .gt o, 3)) (ho : 0 ≤ (pc : Int) + o) (ht : ((pc : Int) + o).toNat = t) (hq : q = pc + 3) (Gt : y < x → Go p l e R s m args below meth c n0 C N Q h ce sl t Ls st) (Gf : ¬ y < x → Go p l e R s m args below meth c n0 C N Q h ce sl q Ls st) : Go p l e R s m args below meth c n0 C N Q h ce sl pc Ls (.int y :: .int x :: st) := by
  subst hq
  by_cases hc : y < x
  · exact Go.step (fun T locs target X _ S => XS.icmpYes X.here hx rfl rfl hd rfl (tlt hc).2.2.1 ho ht S) (Gt hc)
  · exact Go.step (fun T locs target X _ S => XS.icmpNo X.here hx rfl hd rfl (flt hc).2.2.1 S) (Gf hc)
theorem Go.if_gt (hx : p.tables.exec = Jvm.exec) {x : Int32} {o : Int} {t : Nat} (hd : decode c.code pc = .ok (.ifCond .gt o, 3)) (ho : 0 ≤ (pc : Int) + o) (ht : ((pc : Int) + o).toNat = t) (hq : q = pc + 3) (Gt : 0 < x → Go p l e R s m args below meth c n0 C N Q h ce sl t Ls st) (Gf : ¬ 0 < x → Go p l e R s m args below meth c n0 C N Q h ce sl q Ls st) : Go p l e R s m args below meth c n0 C N Q h ce sl pc Ls (.int x :: st) := by
  subst hq
  by_cases hc : 0 < x
  · exact Go.step (fun T locs target X _ S => XS.ifYes X.here hx rfl rfl hd rfl ((if0 _ _).trans (tlt hc).2.2.1) ho ht S) (Gt hc)
  · exact Go.step (fun T locs target X _ S => XS.ifNo X.here hx rfl hd rfl ((if0 _ _).trans (flt hc).2.2.1) S) (Gf hc)
theorem Go.icmp_le (hx : p.tables.exec = Jvm.exec) {x y : Int32} {o : Int} {t : Nat} (hd : decode c.code pc = .ok (.if_icmp .le o, 3)) (ho : 0 ≤ (pc : Int) + o) (ht : ((pc : Int) + o).toNat = t) (hq : q = pc + 3) (Gt : ¬ y < x → Go p l e R s m args below meth c n0 C N Q h ce sl t Ls st) (Gf : y < x → Go p l e R s m args below meth c n0 C N Q h ce sl q Ls st) : Go p l e R s m args below meth c n0 C N Q h ce sl pc Ls (.int y :: .int x :: st) := by
  subst hq
  by_cases hc : y < x
  · exact Go.step (fun T locs target X _ S => XS.icmpNo X.here hx rfl hd rfl (tlt hc).2.2.2 S) (Gf hc)
  · exact Go.step (fun T locs target X _ S => XS.icmpYes X.here hx rfl rfl hd rfl (flt hc).2.2.2 ho ht S) (Gt hc)
theorem Go.if_le (hx : p.tables.exec = Jvm.exec) {x : Int32} {o : Int} {t : Nat} (hd : decode c.code pc = .ok (.ifCond .le o, 3)) (ho : 0 ≤ (pc : Int) + o) (ht : ((pc : Int) + o).toNat = t) (hq : q = pc + 3) (Gt : ¬ 0 < x → Go p l e R s m args below meth c n0 C N Q h ce sl t Ls st) (Gf : 0 < x → Go p l e R s m args below meth c n0 C N Q h ce sl q Ls st) : Go p l e R s m args below meth c n0 C N Q h ce sl pc Ls (.int x :: st) := by
  subst hq
  by_cases hc : 0 < x
  · exact Go.step (fun T locs target X _ S => XS.ifNo X.here hx rfl hd rfl ((if0 _ _).trans (tlt hc).2.2.2) S) (Gf hc)
  · exact Go.step (fun T locs target X _ S => XS.ifYes X.here hx rfl rfl hd rfl ((if0 _ _).trans (flt hc).2.2.2) ho ht S) (Gt hc)
theorem Go.ifnullT (hx : p.tables.exec = Jvm.exec) {b : Addr} {o : Int} {t : Nat} (hd : decode c.code pc = .ok (.ifnull o, 3)) (ho : 0 ≤ (pc : Int) + o) (ht : ((pc : Int) + o).toNat = t) (G : Go p l e R s m args below meth c n0 C N Q h ce sl t Ls st) : Go p l e R s m args below meth c n0 C N Q h ce sl pc Ls (.null :: st) :=
  Go.step (fun T locs target X _ S => XS.ifnullYes X.here hx rfl rfl hd rfl ho ht S) G
theorem Go.ifnullF (hx : p.tables.exec = Jvm.exec) {b : Addr} {o : Int} (hd : decode c.code pc = .ok (.ifnull o, 3)) (hq : q = pc + 3) (G : Go p l e R s m args below meth c n0 C N Q h ce sl q Ls st) : Go p l e R s m args below meth c n0 C N Q h ce sl pc Ls (.ref b :: st) := by
  subst hq
  exact Go.step (fun T locs target X _ S => XS.ifnullNo X.here hx rfl hd rfl S) G
theorem Go.ifnonnullT (hx : p.tables.exec = Jvm.exec) {b : Addr} {o : Int} {t : Nat} (hd : decode c.code pc = .ok (.ifnonnull o, 3)) (ho : 0 ≤ (pc : Int) + o) (ht : ((pc : Int) + o).toNat = t) (G : Go p l e R s m args below meth c n0 C N Q h ce sl t Ls st) : Go p l e R s m args below meth c n0 C N Q h ce sl pc Ls (.ref b :: st) :=
  Go.step (fun T locs target X _ S => XT.ifnonnullYes X.here hx rfl rfl hd rfl ho ht S) G
theorem Go.ifnonnullF (hx : p.tables.exec = Jvm.exec) {b : Addr} {o : Int} (hd : decode c.code pc = .ok (.ifnonnull o, 3)) (hq : q = pc + 3) (G : Go p l e R s m args below meth c n0 C N Q h ce sl q Ls st) : Go p l e R s m args below meth c n0 C N Q h ce sl pc Ls (.null :: st) := by
  subst hq
  exact Go.step (fun T locs target X _ S => XT.ifnonnullNo X.here hx rfl hd rfl S) G
theorem Go.acmp_eq (hx : p.tables.exec = Jvm.exec) {x y : Value} {o : Int} {t : Nat} (hvx : x.isRef = true) (hvy : y.isRef = true) (hd : decode c.code pc = .ok (.if_acmp .eq o, 3)) (ho : 0 ≤ (pc : Int) + o) (ht : ((pc : Int) + o).toNat = t) (hq : q = pc + 3) (Gt : x = y → Go p l e R s m args below meth c n0 C N Q h ce sl t Ls st) (Gf : ¬ x = y → Go p l e R s m args below meth c n0 C N Q h ce sl q Ls st) : Go p l e R s m args below meth c n0 C N Q h ce sl pc Ls (y :: x :: st) := by
  subst hq
  by_cases hc : x = y
  · exact Go.step (fun T locs target X _ S => XT.acmpYes X.here hx rfl rfl hd rfl hvx hvy (by simp [XT.acmp, hc]) ho ht S) (Gt hc)
  · exact Go.step (fun T locs target X _ S => XT.acmpNo X.here hx rfl hd rfl hvx hvy (by simp [XT.acmp, hc]) S) (Gf hc)
theorem Go.acmp_ne (hx : p.tables.exec = Jvm.exec) {x y : Value} {o : Int} {t : Nat} (hvx : x.isRef = true) (hvy : y.isRef = true) (hd : decode c.code pc = .ok (.if_acmp .ne o, 3)) (ho : 0 ≤ (pc : Int) + o) (ht : ((pc : Int) + o).toNat = t) (hq : q = pc + 3) (Gt : ¬ x = y → Go p l e R s m args below meth c n0 C N Q h ce sl t Ls st) (Gf : x = y → Go p l e R s m args below meth c n0 C N Q h ce sl q Ls st) : Go p l e R s m args below meth c n0 C N Q h ce sl pc Ls (y :: x :: st) := by
  subst hq
  by_cases hc : x = y
  · exact Go.step (fun T locs target X _ S => XT.acmpNo X.here hx rfl hd rfl hvx hvy (by simp [XT.acmp, hc]) S) (Gf hc)
  · exact Go.step (fun T locs target X _ S => XT.acmpYes X.here hx rfl rfl hd rfl hvx hvy (by simp [XT.acmp, hc]) ho ht S) (Gt hc)
theorem Go.retV (hx : p.tables.exec = Jvm.exec) {wv : Value} {t : FieldType} {i : Instr} (hret : meth.sig.returnType = some t) (hlk : meth.locks = false) (hn : narrow t wv = wv)
    (hi : (i = .ireturn ∧ (t = .int ∨ t = .boolean ∨ t = .byte ∨ t = .char ∨ t = .short) ∧ ∃ z, wv = .int z) ∨ (i = .lreturn ∧ t = .long ∧ ∃ z, wv = .long z) ∨ (i = .dreturn ∧ t = .double ∧ ∃ z, wv = .double z) ∨ (i = .freturn ∧ t = .float ∧ ∃ z, wv = .float z) ∨ (i = .areturn ∧ t.isReference = true ∧ wv.isRef = true))
    (hd : decode c.code pc = .ok (i, 1)) (hc : ce ≤ C) (hs : sl ≤ N) (hQ : Q (some wv) h) : Go p l e R s m args below meth c n0 C N Q h ce sl pc Ls (wv :: st) := fun T locs X Nf eT => by
  obtain ⟨fs, hr, hrun, hended, hW, hsame⟩ := X.leave (v := some wv) (fun hh => by rw [hret] at hh; cases hh)
  refine ⟨_, _, _, retOut X hx hret hn hi hd hr, hrun, hended, ?_, Nf, ⟨_, rfl⟩, hW, hsame.mono hc hs⟩
  show Q _ T.heap
  rw [eT]; exact hQ
theorem Go.retI (hx : p.tables.exec = Jvm.exec) {z : Int32} (hret : meth.sig.returnType = some .int) (hlk : meth.locks = false) (hd : decode c.code pc = .ok (.ireturn, 1)) (hc : ce ≤ C) (hs : sl ≤ N) (hQ : Q (some (.int z)) h) : Go p l e R s m args below meth c n0 C N Q h ce sl pc Ls (.int z :: st) :=
  Go.retV hx hret hlk rfl (Or.inl ⟨rfl, Or.inl rfl, _, rfl⟩) hd hc hs hQ
theorem Go.retL (hx : p.tables.exec = Jvm.exec) {z : Int64} (hret : meth.sig.returnType = some .long) (hlk : meth.locks = false) (hd : decode c.code pc = .ok (.lreturn, 1)) (hc : ce ≤ C) (hs : sl ≤ N) (hQ : Q (some (.long z)) h) : Go p l e R s m args below meth c n0 C N Q h ce sl pc Ls (.long z :: st) :=
  Go.retV hx hret hlk rfl (Or.inr (Or.inl ⟨rfl, rfl, _, rfl⟩)) hd hc hs hQ
theorem Go.retA (hx : p.tables.exec = Jvm.exec) {wv : Value} {t : FieldType} (hret : meth.sig.returnType = some t) (ht : t.isReference = true) (hv : wv.isRef = true) (hlk : meth.locks = false) (hd : decode c.code pc = .ok (.areturn, 1)) (hc : ce ≤ C) (hs : sl ≤ N) (hQ : Q (some wv) h) : Go p l e R s m args below meth c n0 C N Q h ce sl pc Ls (wv :: st) :=
  Go.retV hx hret hlk (by cases wv <;> cases t <;> simp_all [Value.isRef, FieldType.isReference, narrow]) (Or.inr (Or.inr (Or.inr (Or.inr ⟨rfl, ht, hv⟩)))) hd hc hs hQ
theorem Go.retN (hx : p.tables.exec = Jvm.exec) {z : Int32} {t : FieldType} (hret : meth.sig.returnType = some t) (ht : t = .boolean ∨ t = .byte ∨ t = .char ∨ t = .short) (hlk : meth.locks = false) (hd : decode c.code pc = .ok (.ireturn, 1)) (hc : ce ≤ C) (hs : sl ≤ N) (hQ : Q (some (.int (nar t z))) h) : Go p l e R s m args below meth c n0 C N Q h ce sl pc Ls (.int z :: st) := fun T locs X Nf eT => by
  obtain ⟨fs, hr, hrun, hended, hW, hsame⟩ := X.leave (v := some (.int (nar t z))) (fun hh => by rw [hret] at hh; cases hh)
  refine ⟨_, _, _, Jvm.RoadKit.retN X hx hret ht hd hr, hrun, hended, ?_, Nf, ⟨_, rfl⟩, hW, hsame.mono hc hs⟩
  show Q _ T.heap
  rw [eT]; exact hQ
theorem Go.ret0 (hx : p.tables.exec = Jvm.exec) (hret : meth.sig.returnType = none) (hlk : meth.locks = false) (hd : decode c.code pc = .ok (.return_, 1)) (hc : ce ≤ C) (hs : sl ≤ N) (hQ : Q none h) : Go p l e R s m args below meth c n0 C N Q h ce sl pc Ls [] := fun T locs X Nf eT => by
  obtain ⟨fs, hr, hrun, hended, hW, hsame⟩ := X.leave (v := none) (fun _ => rfl)
  refine ⟨_, _, _, X.returnOut hx hret hd hr, hrun, hended, ?_, Nf, ⟨_, rfl⟩, hW, hsame.mono hc hs⟩
  show Q _ T.heap
  rw [eT]; exact hQ
theorem Go.getF (hx : p.tables.exec = Jvm.exec) (hZ : Z.Warmed39 s.vm) {own R0 O n d host : String} {index : Nat} (hown : s.vm.findClass own = some m.cls) (hw : (Cond.fieldLink own index R0 n d).before a0 Z = true ∨ (Cond.fieldLinkNest own index R0 n d host).before a0 Z = true) (via : Via Z R0 O n d) {a : Addr} {v : Value} (F : Fld Z h a O n d v) (hd : decode c.code pc = .ok (.getfield index, 3)) (hq : q = pc + 3) (G : Go p l e R s m args below meth c n0 C N Q h ce sl q Ls (v :: st)) : Go p l e R s m args below meth c n0 C N Q h ce sl pc Ls (.ref a :: st) := by
  subst hq
  exact Go.law (fun T locs X eT => Jvm.RoadKit.getF X hx hZ hown hw via eT F (g := mkF m pc Ls (.ref a :: st)) rfl rfl hd) G
theorem Go.getS (hx : p.tables.exec = Jvm.exec) (hZ : Z.Warmed39 s.vm) {own R0 O n d host : String} {index : Nat} (hown : s.vm.findClass own = some m.cls) (hw : (Cond.fieldLink own index R0 n d).before a0 Z = true ∨ (Cond.fieldLinkNest own index R0 n d host).before a0 Z = true) (via : Via Z R0 O n d) {v : Value} (F : Sta Z h O n d v) (hd : decode c.code pc = .ok (.getstatic index, 3)) (hq : q = pc + 3) (G : Go p l e R s m args below meth c n0 C N Q h ce sl q Ls (v :: st)) : Go p l e R s m args below meth c n0 C N Q h ce sl pc Ls st := by
  subst hq
  exact Go.law (fun T locs X eT => Jvm.RoadKit.getS2 (host := host) X hx hZ hown hw via eT F (g := mkF m pc Ls st) rfl hd) G
theorem Go.putF (hx : p.tables.exec = Jvm.exec) (hZ : Z.Warmed39 s.vm) {own R0 O n d host C' : String} {index kk : Nat} {ty : FieldType} (hown : s.vm.findClass own = some m.cls) (hw : (Cond.fieldLink own index R0 n d).before a0 Z = true ∨ (Cond.fieldLinkNest own index R0 n d host).before a0 Z = true) (via : Via Z R0 O n d) {a : Addr} {v old : Value} (F : Fld Z h a O n d old) (E : Exa Z h a C') (L : (Cond.lays C' O n d).before a0 Z = true ∨ ((Cond.laysFinal C' O n d).before a0 Z = true ∧ own = O ∧ meth.name = "<init>")) (wi : (Cond.instantiable C' kk).before a0 Z = true)
    (hty : parseFieldDescriptor d = some ty) (hn : narrow ty v = v) (hf : fits ty v = true) (ha : n0 ≤ a) (hd : decode c.code pc = .ok (.putfield index, 3)) (hq : q = pc + 3) (G : ∀ h', Wr h h' a (Jvm.RoadKit.slotOf Z O n d) v → Go p l e R s m args below meth c n0 C N Q h' ce sl q Ls st) : Go p l e R s m args below meth c n0 C N Q h ce sl pc Ls (v :: .ref a :: st) := fun T locs X Nf eT => by
  subst hq
  obtain ⟨T', h', X', eT', W, hs⟩ := Jvm.RoadKit.putF X hx hZ hown hw via eT F E L wi hty hn hf (g := mkF m pc Ls (v :: .ref a :: st)) rfl rfl hd
  obtain ⟨s₂, v', L', S, r⟩ := G h' W T' _ X' (Fr.snoc X' Nf ha) eT'
  exact ⟨s₂, v', L', hs _ S, r⟩
theorem Go.newO (hx : p.tables.exec = Jvm.exec) (hZ : Z.Warmed39 s.vm) {own C' : String} {index n ce' sl' : Nat} (hown : s.vm.findClass own = some m.cls) (w1 : (Cond.classLink own index C').before a0 Z = true) (wi : (Cond.instantiable C' n).before a0 Z = true) (wz : (Cond.initialized C').before a0 Z = true) (hd : decode c.code pc = .ok (.new index, 3)) (hq : q = pc + 3) (hce : ce + 1 = ce') (hsl : sl + n = sl') (hc : ce' ≤ R.cells) (hl : sl' ≤ R.slots)
    (G : ∀ (h' : Heap) (a : Addr), a = h.size → Ext h h' → Exa Z h' a C' → (∀ {O nm d : String} {ty : FieldType}, Laid Z a0 C' O nm d → parseFieldDescriptor d = some ty → Fld Z h' a O nm d (defaultValue ty)) → Go p l e R s m args below meth c n0 C N Q h' ce' sl' q Ls (.ref a :: st)) : Go p l e R s m args below meth c n0 C N Q h ce sl pc Ls st := fun T locs X Nf eT => by
  subst hq hce hsl
  obtain ⟨T', h', X', eT', E, A, D, -, hs⟩ := Jvm.RoadKit.newO X hx hZ hown w1 wi wz eT (g := mkF m pc Ls st) rfl hd hc hl
  obtain ⟨s₂, v', L', S, r⟩ := G h' _ rfl E A D T' _ X' Nf eT'
  exact ⟨s₂, v', L', hs _ S, r⟩
theorem Go.newP (hx : p.tables.exec = Jvm.exec) (hZ : Z.Warmed39 s.vm) {aty : ArrayType} {cap ce' sl' : Nat} (wa : (Cond.arrayClass (newarray.typeOf aty)).before a0 Z = true) {n : Int32} (hn : ¬ n < 0) (hcap : n.toNatClampNeg ≤ cap) (hd : decode c.code pc = .ok (.newarray aty, 2)) (hq : q = pc + 2) (hb : cap * 8 ≤ 536870912) (hce : ce + 1 = ce') (hsl : sl + cap = sl') (hc : ce' ≤ R.cells) (hl : sl' ≤ R.slots)
    (G : ∀ (h' : Heap) (a : Addr) (k : ClassId), a = h.size → Ext h h' → Arv Z h' a k (newarray.typeOf aty) n [] (defaultValue (newarray.typeOf aty)) → Go p l e R s m args below meth c n0 C N Q h' ce' sl' q Ls (.ref a :: st)) : Go p l e R s m args below meth c n0 C N Q h ce sl pc Ls (.int n :: st) := fun T locs X Nf eT => by
  subst hq hce hsl
  obtain ⟨T', h', k, X', eT', E, A, hs⟩ := Jvm.RoadKit.newP X hx hZ wa eT (g := mkF m pc Ls (.int n :: st)) rfl hd rfl hn hcap hb hc hl
  obtain ⟨s₂, v', L', S, r⟩ := G h' _ k rfl E (Arv.new A hn) T' _ X' Nf eT'
  exact ⟨s₂, v', L', hs _ S, r⟩
theorem Go.newR (hx : p.tables.exec = Jvm.exec) (hZ : Z.Warmed39 s.vm) {own C' : String} {index cap ce' sl' : Nat} (hown : s.vm.findClass own = some m.cls) (w1 : (Cond.classLink own index C').before a0 Z = true) (w2 : (Cond.arrayOver (.object C')).before a0 Z = true) {n : Int32} (hn : ¬ n < 0) (hcap : n.toNatClampNeg ≤ cap) (hd : decode c.code pc = .ok (.anewarray index, 3)) (hq : q = pc + 3) (hb : cap * 8 ≤ 536870912) (hce : ce + 1 = ce') (hsl : sl + cap = sl') (hc : ce' ≤ R.cells) (hl : sl' ≤ R.slots)
    (G : ∀ (h' : Heap) (a : Addr) (k : ClassId), a = h.size → Ext h h' → Arv Z h' a k (.object C') n [] .null → Ovr Z k C' → Go p l e R s m args below meth c n0 C N Q h' ce' sl' q Ls (.ref a :: st)) : Go p l e R s m args below meth c n0 C N Q h ce sl pc Ls (.int n :: st) := fun T locs X Nf eT => by
  subst hq hce hsl
  obtain ⟨T', h', k, X', eT', E, A, O, hs⟩ := Jvm.RoadKit.newR X hx hZ hown w1 w2 eT (g := mkF m pc Ls (.int n :: st)) rfl hd rfl hn hcap hb hc hl
  obtain ⟨s₂, v', L', S, r⟩ := G h' _ k rfl E (Arv.new A hn) O T' _ X' Nf eT'
  exact ⟨s₂, v', L', hs _ S, r⟩
theorem Go.initO (hx : p.tables.exec = Jvm.exec) (hZ : Z.Warmed39 s.vm) {own : String} {idx : Nat} (hown : s.vm.findClass own = some m.cls) (w1 : (Cond.methodLink own idx Lib.objectInit).before a0 Z = true) (w2 : (Cond.instanceMethod Lib.objectInit).before a0 Z = true) (w3 : (Cond.code Lib.objectInit ⟨#[0xb1]⟩ 1 none).before a0 Z = true) (hsize : Ls.size = c.maxLocals) {a : Addr} (hd : decode c.code pc = .ok (.invokespecial idx, 3)) (hq : q = pc + 3) (hf : 1 ≤ R.frames) (hl : (st.map fun v => v.category).sum + 12 ≤ R.locals) (G : Go p l e R s m args below meth c n0 C N Q h ce sl q Ls st) : Go p l e R s m args below meth c n0 C N Q h ce sl pc Ls (.ref a :: st) := by
  subst hq
  exact Go.law (fun T locs X eT => Jvm.RoadKit.initO X hx hZ hown w1 w2 w3 eT (g := mkF m pc Ls (.ref a :: st)) rfl hsize rfl hd hf (W := (st.map fun v => v.category).sum) (by show 2 * 0 + _ ≤ _; omega) hl) G
theorem Go.castY (hx : p.tables.exec = Jvm.exec) (hZ : Z.Warmed39 s.vm) {own K : String} {index : Nat} (hown : s.vm.findClass own = some m.cls) (w1 : (Cond.classLink own index K).before a0 Z = true) {a : Addr} (F : Ins Z h a K true) (hd : decode c.code pc = .ok (.checkcast index, 3)) (hq : q = pc + 3) (G : Go p l e R s m args below meth c n0 C N Q h ce sl q Ls (.ref a :: st)) : Go p l e R s m args below meth c n0 C N Q h ce sl pc Ls (.ref a :: st) := by
  subst hq
  exact Go.law (fun T locs X eT => Jvm.RoadKit.castY X hx hZ hown w1 eT F (g := mkF m pc Ls (.ref a :: st)) rfl rfl hd) G
theorem Go.instY (hx : p.tables.exec = Jvm.exec) (hZ : Z.Warmed39 s.vm) {own K : String} {index : Nat} (hown : s.vm.findClass own = some m.cls) (w1 : (Cond.classLink own index K).before a0 Z = true) {a : Addr} (F : Ins Z h a K true) (hd : decode c.code pc = .ok (.instanceof index, 3)) (hq : q = pc + 3) (G : Go p l e R s m args below meth c n0 C N Q h ce sl q Ls (.int 1 :: st)) : Go p l e R s m args below meth c n0 C N Q h ce sl pc Ls (.ref a :: st) := by
  subst hq
  exact Go.law (fun T locs X eT => Jvm.RoadKit.instY X hx hZ hown w1 eT F (g := mkF m pc Ls (.ref a :: st)) rfl rfl hd) G
theorem Go.alen (hx : p.tables.exec = Jvm.exec) (hZ : Z.Warmed39 s.vm) {a : Addr} {k : ClassId} {ty : FieldType} {n : Int32} {vs : List Value} {dv : Value} (A : Arv Z h a k ty n vs dv) (hd : decode c.code pc = .ok (.arraylength, 1)) (hq : q = pc + 1) (G : Go p l e R s m args below meth c n0 C N Q h ce sl q Ls (.int n :: st)) : Go p l e R s m args below meth c n0 C N Q h ce sl pc Ls (.ref a :: st) := by
  subst hq
  obtain ⟨cl, Ar, q1, S1, N1, H1, F1⟩ := A
  refine Go.step (fun T locs target X eT S => X.arraylength hx (by rw [eT]; exact Ar.1) (State.isArrayOf_alike hZ.alike Ar.2.1) (g := mkF m pc Ls (.ref a :: st)) rfl rfl hd target ?_) G
  rw [len_of S1 N1]; exact S
theorem Go.baload (hx : p.tables.exec = Jvm.exec) (hZ : Z.Warmed39 s.vm) {a : Addr} {k : ClassId} {n j : Int32} {vs : List Value} {dv v : Value} (A : Arv Z h a k .byte n vs dv) (hj : ¬ j < 0 ∧ j < n) (hv : vs.getD j.toNatClampNeg dv = v) (hd : decode c.code pc = .ok (.baload, 1)) (hq : q = pc + 1) (G : Go p l e R s m args below meth c n0 C N Q h ce sl q Ls (v :: st)) : Go p l e R s m args below meth c n0 C N Q h ce sl pc Ls (.int j :: .ref a :: st) := by
  subst hq
  obtain ⟨cl, Ar, q1, S1, N1, H1, F1⟩ := A
  exact Go.step (fun T locs target X eT S => X.baloadBytes hx (by rw [eT]; exact Ar.1) (State.isArrayOf_alike hZ.alike Ar.2.1) Ar.2.2 (inb_of S1 hj) (H1.at (inb_of S1 hj) hv) (g := mkF m pc Ls (.int j :: .ref a :: st)) rfl rfl hd target S) G
theorem Go.zaload (hx : p.tables.exec = Jvm.exec) (hZ : Z.Warmed39 s.vm) {a : Addr} {k : ClassId} {n j : Int32} {vs : List Value} {dv v : Value} (A : Arv Z h a k .boolean n vs dv) (hj : ¬ j < 0 ∧ j < n) (hv : vs.getD j.toNatClampNeg dv = v) (hd : decode c.code pc = .ok (.baload, 1)) (hq : q = pc + 1) (G : Go p l e R s m args below meth c n0 C N Q h ce sl q Ls (v :: st)) : Go p l e R s m args below meth c n0 C N Q h ce sl pc Ls (.int j :: .ref a :: st) := by
  subst hq
  obtain ⟨cl, Ar, q1, S1, N1, H1, F1⟩ := A
  exact Go.step (fun T locs target X eT S => X.baloadBooleans hx (by rw [eT]; exact Ar.1) (State.isArrayOf_alike hZ.alike Ar.2.1) Ar.2.2 (inb_of S1 hj) (H1.at (inb_of S1 hj) hv) (g := mkF m pc Ls (.int j :: .ref a :: st)) rfl rfl hd target S) G
theorem Go.caload (hx : p.tables.exec = Jvm.exec) (hZ : Z.Warmed39 s.vm) {a : Addr} {k : ClassId} {n j : Int32} {vs : List Value} {dv v : Value} (A : Arv Z h a k .char n vs dv) (hj : ¬ j < 0 ∧ j < n) (hv : vs.getD j.toNatClampNeg dv = v) (hd : decode c.code pc = .ok (.caload, 1)) (hq : q = pc + 1) (G : Go p l e R s m args below meth c n0 C N Q h ce sl q Ls (v :: st)) : Go p l e R s m args below meth c n0 C N Q h ce sl pc Ls (.int j :: .ref a :: st) := by
  subst hq
  obtain ⟨cl, Ar, q1, S1, N1, H1, F1⟩ := A
  exact Go.step (fun T locs target X eT S => X.caload hx (by rw [eT]; exact Ar.1) (State.isArrayOf_alike hZ.alike Ar.2.1) Ar.2.2 (inb_of S1 hj) (H1.at (inb_of S1 hj) hv) (g := mkF m pc Ls (.int j :: .ref a :: st)) rfl rfl hd target S) G
theorem Go.saload (hx : p.tables.exec = Jvm.exec) (hZ : Z.Warmed39 s.vm) {a : Addr} {k : ClassId} {n j : Int32} {vs : List Value} {dv v : Value} (A : Arv Z h a k .short n vs dv) (hj : ¬ j < 0 ∧ j < n) (hv : vs.getD j.toNatClampNeg dv = v) (hd : decode c.code pc = .ok (.saload, 1)) (hq : q = pc + 1) (G : Go p l e R s m args below meth c n0 C N Q h ce sl q Ls (v :: st)) : Go p l e R s m args below meth c n0 C N Q h ce sl pc Ls (.int j :: .ref a :: st) := by
  subst hq
  obtain ⟨cl, Ar, q1, S1, N1, H1, F1⟩ := A
  exact Go.step (fun T locs target X eT S => X.saload hx (by rw [eT]; exact Ar.1) (State.isArrayOf_alike hZ.alike Ar.2.1) Ar.2.2 (inb_of S1 hj) (H1.at (inb_of S1 hj) hv) (g := mkF m pc Ls (.int j :: .ref a :: st)) rfl rfl hd target S) G
theorem Go.iaload (hx : p.tables.exec = Jvm.exec) (hZ : Z.Warmed39 s.vm) {a : Addr} {k : ClassId} {n j : Int32} {vs : List Value} {dv v : Value} (A : Arv Z h a k .int n vs dv) (hj : ¬ j < 0 ∧ j < n) (hv : vs.getD j.toNatClampNeg dv = v) (hd : decode c.code pc = .ok (.iaload, 1)) (hq : q = pc + 1) (G : Go p l e R s m args below meth c n0 C N Q h ce sl q Ls (v :: st)) : Go p l e R s m args below meth c n0 C N Q h ce sl pc Ls (.int j :: .ref a :: st) := by
  subst hq
  obtain ⟨cl, Ar, q1, S1, N1, H1, F1⟩ := A
  exact Go.step (fun T locs target X eT S => X.iaload hx (by rw [eT]; exact Ar.1) (State.isArrayOf_alike hZ.alike Ar.2.1) Ar.2.2 (inb_of S1 hj) (H1.at (inb_of S1 hj) hv) (g := mkF m pc Ls (.int j :: .ref a :: st)) rfl rfl hd target S) G
theorem Go.laload (hx : p.tables.exec = Jvm.exec) (hZ : Z.Warmed39 s.vm) {a : Addr} {k : ClassId} {n j : Int32} {vs : List Value} {dv v : Value} (A : Arv Z h a k .long n vs dv) (hj : ¬ j < 0 ∧ j < n) (hv : vs.getD j.toNatClampNeg dv = v) (hd : decode c.code pc = .ok (.laload, 1)) (hq : q = pc + 1) (G : Go p l e R s m args below meth c n0 C N Q h ce sl q Ls (v :: st)) : Go p l e R s m args below meth c n0 C N Q h ce sl pc Ls (.int j :: .ref a :: st) := by
  subst hq
  obtain ⟨cl, Ar, q1, S1, N1, H1, F1⟩ := A
  exact Go.step (fun T locs target X eT S => X.laload hx (by rw [eT]; exact Ar.1) (State.isArrayOf_alike hZ.alike Ar.2.1) Ar.2.2 (inb_of S1 hj) (H1.at (inb_of S1 hj) hv) (g := mkF m pc Ls (.int j :: .ref a :: st)) rfl rfl hd target S) G
theorem Go.aaload (hx : p.tables.exec = Jvm.exec) (hZ : Z.Warmed39 s.vm) {a : Addr} {k : ClassId} {ty : FieldType} {n j : Int32} {vs : List Value} {dv v : Value} (A : Arv Z h a k ty n vs dv) (hty : ty.isReference = true) (hj : ¬ j < 0 ∧ j < n) (hv : vs.getD j.toNatClampNeg dv = v) (hd : decode c.code pc = .ok (.aaload, 1)) (hq : q = pc + 1) (G : Go p l e R s m args below meth c n0 C N Q h ce sl q Ls (v :: st)) : Go p l e R s m args below meth c n0 C N Q h ce sl pc Ls (.int j :: .ref a :: st) := by
  subst hq
  obtain ⟨cl, Ar, q1, S1, N1, H1, F1⟩ := A
  exact Go.step (fun T locs target X eT S => X.aaload hx (by rw [eT]; exact Ar.1) (State.isArrayOf_alike hZ.alike Ar.2.1) hty Ar.2.2 (inb_of S1 hj) (H1.at (inb_of S1 hj) hv) (g := mkF m pc Ls (.int j :: .ref a :: st)) rfl rfl hd target S) G
theorem Go.bastore (hx : p.tables.exec = Jvm.exec) (hZ : Z.Warmed39 s.vm) {a : Addr} {k : ClassId} {n j x : Int32} {vs : List Value} {dv : Value} (A : Arv Z h a k .byte n vs dv) (hj : ¬ j < 0 ∧ j < n) (i : Nat) (hi : j.toNatClampNeg = i) (hlen : i < vs.length) (ha : n0 ≤ a) (hd : decode c.code pc = .ok (.bastore, 1)) (hq : q = pc + 1)
    (G : ∀ h', Wr h h' a j.toNatClampNeg (.int (nar .byte x)) → Arv Z h' a k .byte n (vs.set i (.int (nar .byte x))) dv → Go p l e R s m args below meth c n0 C N Q h' ce sl q Ls st) : Go p l e R s m args below meth c n0 C N Q h ce sl pc Ls (.int x :: .int j :: .ref a :: st) := fun T locs X Nf eT => by
  subst hq
  obtain ⟨cl, Ar, q1, S1, N1, H1, F1⟩ := A
  obtain ⟨T', h', X', eT', W, hs⟩ := stB X hx hZ eT Ar (inb_of S1 hj) (g := mkF m pc Ls (.int x :: .int j :: .ref a :: st)) rfl rfl hd
  obtain ⟨s₂, v', L', S, r⟩ := G h' W (Arv.set Ar q1 S1 N1 H1 F1 (fits_nar_byte _) W i hi hlen) T' _ X' (Fr.snoc X' Nf ha) eT'
  exact ⟨s₂, v', L', hs _ S, r⟩
theorem Go.zastore (hx : p.tables.exec = Jvm.exec) (hZ : Z.Warmed39 s.vm) {a : Addr} {k : ClassId} {n j x : Int32} {vs : List Value} {dv : Value} (A : Arv Z h a k .boolean n vs dv) (hj : ¬ j < 0 ∧ j < n) (i : Nat) (hi : j.toNatClampNeg = i) (hlen : i < vs.length) (ha : n0 ≤ a) (hd : decode c.code pc = .ok (.bastore, 1)) (hq : q = pc + 1)
    (G : ∀ h', Wr h h' a j.toNatClampNeg (.int (nar .boolean x)) → Arv Z h' a k .boolean n (vs.set i (.int (nar .boolean x))) dv → Go p l e R s m args below meth c n0 C N Q h' ce sl q Ls st) : Go p l e R s m args below meth c n0 C N Q h ce sl pc Ls (.int x :: .int j :: .ref a :: st) := fun T locs X Nf eT => by
  subst hq
  obtain ⟨cl, Ar, q1, S1, N1, H1, F1⟩ := A
  obtain ⟨T', h', X', eT', W, hs⟩ := stZ X hx hZ eT Ar (inb_of S1 hj) (g := mkF m pc Ls (.int x :: .int j :: .ref a :: st)) rfl rfl hd
  obtain ⟨s₂, v', L', S, r⟩ := G h' W (Arv.set Ar q1 S1 N1 H1 F1 (fits_nar_bool _) W i hi hlen) T' _ X' (Fr.snoc X' Nf ha) eT'
  exact ⟨s₂, v', L', hs _ S, r⟩
theorem Go.castore (hx : p.tables.exec = Jvm.exec) (hZ : Z.Warmed39 s.vm) {a : Addr} {k : ClassId} {n j x : Int32} {vs : List Value} {dv : Value} (A : Arv Z h a k .char n vs dv) (hj : ¬ j < 0 ∧ j < n) (i : Nat) (hi : j.toNatClampNeg = i) (hlen : i < vs.length) (ha : n0 ≤ a) (hd : decode c.code pc = .ok (.castore, 1)) (hq : q = pc + 1)
    (G : ∀ h', Wr h h' a j.toNatClampNeg (.int (nar .char x)) → Arv Z h' a k .char n (vs.set i (.int (nar .char x))) dv → Go p l e R s m args below meth c n0 C N Q h' ce sl q Ls st) : Go p l e R s m args below meth c n0 C N Q h ce sl pc Ls (.int x :: .int j :: .ref a :: st) := fun T locs X Nf eT => by
  subst hq
  obtain ⟨cl, Ar, q1, S1, N1, H1, F1⟩ := A
  obtain ⟨T', h', X', eT', W, hs⟩ := stC X hx hZ eT Ar (inb_of S1 hj) (g := mkF m pc Ls (.int x :: .int j :: .ref a :: st)) rfl rfl hd
  obtain ⟨s₂, v', L', S, r⟩ := G h' W (Arv.set Ar q1 S1 N1 H1 F1 (fits_nar_char _) W i hi hlen) T' _ X' (Fr.snoc X' Nf ha) eT'
  exact ⟨s₂, v', L', hs _ S, r⟩
theorem Go.sastore (hx : p.tables.exec = Jvm.exec) (hZ : Z.Warmed39 s.vm) {a : Addr} {k : ClassId} {n j x : Int32} {vs : List Value} {dv : Value} (A : Arv Z h a k .short n vs dv) (hj : ¬ j < 0 ∧ j < n) (i : Nat) (hi : j.toNatClampNeg = i) (hlen : i < vs.length) (ha : n0 ≤ a) (hd : decode c.code pc = .ok (.sastore, 1)) (hq : q = pc + 1)
    (G : ∀ h', Wr h h' a j.toNatClampNeg (.int (nar .short x)) → Arv Z h' a k .short n (vs.set i (.int (nar .short x))) dv → Go p l e R s m args below meth c n0 C N Q h' ce sl q Ls st) : Go p l e R s m args below meth c n0 C N Q h ce sl pc Ls (.int x :: .int j :: .ref a :: st) := fun T locs X Nf eT => by
  subst hq
  obtain ⟨cl, Ar, q1, S1, N1, H1, F1⟩ := A
  obtain ⟨T', h', X', eT', W, hs⟩ := stS X hx hZ eT Ar (inb_of S1 hj) (g := mkF m pc Ls (.int x :: .int j :: .ref a :: st)) rfl rfl hd
  obtain ⟨s₂, v', L', S, r⟩ := G h' W (Arv.set Ar q1 S1 N1 H1 F1 (fits_nar_short _) W i hi hlen) T' _ X' (Fr.snoc X' Nf ha) eT'
  exact ⟨s₂, v', L', hs _ S, r⟩
theorem Go.iastore (hx : p.tables.exec = Jvm.exec) (hZ : Z.Warmed39 s.vm) {a : Addr} {k : ClassId} {n j x : Int32} {vs : List Value} {dv : Value} (A : Arv Z h a k .int n vs dv) (hj : ¬ j < 0 ∧ j < n) (i : Nat) (hi : j.toNatClampNeg = i) (hlen : i < vs.length) (ha : n0 ≤ a) (hd : decode c.code pc = .ok (.iastore, 1)) (hq : q = pc + 1)
    (G : ∀ h', Wr h h' a j.toNatClampNeg (.int x) → Arv Z h' a k .int n (vs.set i (.int x)) dv → Go p l e R s m args below meth c n0 C N Q h' ce sl q Ls st) : Go p l e R s m args below meth c n0 C N Q h ce sl pc Ls (.int x :: .int j :: .ref a :: st) := fun T locs X Nf eT => by
  subst hq
  obtain ⟨cl, Ar, q1, S1, N1, H1, F1⟩ := A
  obtain ⟨T', h', X', eT', W, hs⟩ := stI X hx hZ eT Ar (inb_of S1 hj) (g := mkF m pc Ls (.int x :: .int j :: .ref a :: st)) rfl rfl hd
  obtain ⟨s₂, v', L', S, r⟩ := G h' W (Arv.set Ar q1 S1 N1 H1 F1 (rfl) W i hi hlen) T' _ X' (Fr.snoc X' Nf ha) eT'
  exact ⟨s₂, v', L', hs _ S, r⟩
theorem Go.aastore (hx : p.tables.exec = Jvm.exec) (hZ : Z.Warmed39 s.vm) {a : Addr} {k : ClassId} {C' : String} {n j : Int32} {x : Value} {vs : List Value} {dv : Value} (A : Arv Z h a k (.object C') n vs dv) (F : Sto Z h a x) (hxr : x.isRef = true) (hj : ¬ j < 0 ∧ j < n) (i : Nat) (hi : j.toNatClampNeg = i) (hlen : i < vs.length) (ha : n0 ≤ a) (hd : decode c.code pc = .ok (.aastore, 1)) (hq : q = pc + 1)
    (G : ∀ h', Wr h h' a j.toNatClampNeg x → Arv Z h' a k (.object C') n (vs.set i x) dv → Go p l e R s m args below meth c n0 C N Q h' ce sl q Ls st) : Go p l e R s m args below meth c n0 C N Q h ce sl pc Ls (x :: .int j :: .ref a :: st) := fun T locs X Nf eT => by
  subst hq
  obtain ⟨cl, Ar, q1, S1, N1, H1, F1⟩ := A
  obtain ⟨T', h', X', eT', W, hs⟩ := stR X hx hZ eT Ar (inb_of S1 hj) rfl F (g := mkF m pc Ls (x :: .int j :: .ref a :: st)) rfl rfl hd
  obtain ⟨s₂, v', L', S, r⟩ := G h' W (Arv.set Ar q1 S1 N1 H1 F1 (by rcases ref_cases hxr with rfl | ⟨y, rfl⟩ <;> rfl) W i hi hlen) T' _ X' (Fr.snoc X' Nf ha) eT'
  exact ⟨s₂, v', L', hs _ S, r⟩
theorem Go.callS (hx : p.tables.exec = Jvm.exec) (hZ : Z.Warmed39 s.vm) {own : String} {index : Nat} {y : MethodName} {bytes : ByteArray} {maxL : Nat} {rt r' : Option FieldType} {ps : List FieldType} {rm : Room} {Qc : Option Value → Heap → Prop} {argsL rest : List Value} {ce' sl' : Nat} (hown : s.vm.findClass own = some m.cls) (w1 : (Cond.methodLink own index y).before a0 Z = true) (w2 : (Cond.static y).before a0 Z = true) (w3 : (Cond.initialized y.cls).before a0 Z = true) (w4 : (Cond.code y bytes maxL rt).before a0 Z = true) (hy : y.cls ≠ "java/lang/invoke/MethodHandle" ∧ y.cls ≠ "java/lang/invoke/VarHandle")
    (hM : Met l Z y bytes maxL rt [] rm argsL.toArray h n0 Qc) (hsize : Ls.size = c.maxLocals) (hpd : parseMethodDescriptor y.desc = some ⟨ps, r'⟩) (hlen : argsL.length = ps.length) (hst : st = argsL.reverse ++ rest) (hd : decode c.code pc = .ok (.invokestatic index, 3)) (hq : q = pc + 3) (hf : rm.frames + 1 ≤ R.frames) (hl : (rest.map fun v => v.category).sum + (maxL + 11) + rm.locals ≤ R.locals) (hce : ce + rm.cells = ce') (hsl : sl + rm.slots = sl') (hc : ce' ≤ R.cells) (hs : sl' ≤ R.slots)
    (G : ∀ (v : Option Value) (h' : Heap), Qc v h' → Go p l e R s m args below meth c n0 C N Q h' ce' sl' q Ls (v.toList ++ rest)) : Go p l e R s m args below meth c n0 C N Q h ce sl pc Ls st := fun T locs X Nf eT => by
  subst hq hce hsl
  obtain ⟨v, _, ⟨T', L', k', n'⟩, -, X', ⟨Lc, ⟨hQ, hF⟩, hl1, hl2, hl3⟩, hst'⟩ := Jvm.LawKit.callS X hx hown (mvT hZ w1) (mvT hZ w2) (mvT hZ w3) (mvT hZ w4) hy (backOf (W := (rest.map fun v => v.category).sum) (Q := fun v h' L => Qc v h' ∧ Fr n0 L) hM hZ w4 w3 hf hl) (g := mkF m pc Ls st) rfl hsize (argsL := argsL) (rest := rest) (lenOf hpd hlen) hst (by show 2 * 0 + _ ≤ _; omega) hd (fun _ _ => ⟨rfl, eT, hc, hs⟩)
  dsimp only [Pt.U, Pt.locs, Pt.cells, Pt.slots] at X' hl1 hl2 hl3 hst' hQ
  subst hl1 hl2 hl3
  obtain ⟨s₂, v', L'', S, r⟩ := G v _ hQ T' _ X' (Fr.app Nf hF) rfl
  exact ⟨s₂, v', L'', hst' _ S, r⟩
theorem Go.callI (hx : p.tables.exec = Jvm.exec) (hZ : Z.Warmed39 s.vm) {own : String} {index : Nat} {y : MethodName} {bytes : ByteArray} {maxL : Nat} {r' : Option FieldType} {ps : List FieldType} {rm : Room} {Qc : Option Value → Heap → Prop} {a : Addr} {argsL rest : List Value} {ce' sl' : Nat} (hown : s.vm.findClass own = some m.cls) (hnm : y.name = "<init>") (w1 : (Cond.methodLink own index y).before a0 Z = true) (w2 : (Cond.instanceMethod y).before a0 Z = true) (w3 : (Cond.initialized y.cls).before a0 Z = true) (w4 : (Cond.code y bytes maxL none).before a0 Z = true) (hy : y.cls ≠ "java/lang/invoke/MethodHandle" ∧ y.cls ≠ "java/lang/invoke/VarHandle")
    (hM : Met l Z y bytes maxL none [] rm (.ref a :: argsL).toArray h n0 Qc) (hsize : Ls.size = c.maxLocals) (hpd : parseMethodDescriptor y.desc = some ⟨ps, r'⟩) (hlen : argsL.length = ps.length) (hst : st = argsL.reverse ++ .ref a :: rest) (hd : decode c.code pc = .ok (.invokespecial index, 3)) (hq : q = pc + 3) (hf : rm.frames + 1 ≤ R.frames) (hl : (rest.map fun v => v.category).sum + (maxL + 11) + rm.locals ≤ R.locals) (hce : ce + rm.cells = ce') (hsl : sl + rm.slots = sl') (hc : ce' ≤ R.cells) (hs : sl' ≤ R.slots)
    (G : ∀ (v : Option Value) (h' : Heap), Qc v h' → Go p l e R s m args below meth c n0 C N Q h' ce' sl' q Ls (v.toList ++ rest)) : Go p l e R s m args below meth c n0 C N Q h ce sl pc Ls st := fun T locs X Nf eT => by
  subst hq hce hsl
  obtain ⟨v, _, ⟨T', L', k', n'⟩, -, X', ⟨Lc, ⟨hQ, hF⟩, hl1, hl2, hl3⟩, hst'⟩ := X.specialBack hx hnm hown (mvT hZ w1) (mvT hZ w2) (mvT hZ w4) hy (backOf (W := (rest.map fun v => v.category).sum) (Q := fun v h' L => Qc v h' ∧ Fr n0 L) hM hZ w4 w3 hf hl) (g := mkF m pc Ls st) rfl hsize (Steps.refl _) (a := a) (argsL := argsL) (rest := rest) (lenOf hpd hlen) hst (by show 2 * 0 + _ ≤ _; omega) hd (fun _ _ => ⟨rfl, eT, hc, hs⟩)
  dsimp only [Pt.U, Pt.locs, Pt.cells, Pt.slots] at X' hl1 hl2 hl3 hst' hQ
  subst hl1 hl2 hl3
  obtain ⟨s₂, v', L'', S, r⟩ := G v _ hQ T' _ X' (Fr.app Nf hF) rfl
  exact ⟨s₂, v', L'', hst'.trans S, r⟩
theorem Go.callV (hx : p.tables.exec = Jvm.exec) (hZ : Z.Warmed39 s.vm) {own C' : String} {index : Nat} {y z : MethodName} {bytes : ByteArray} {maxL : Nat} {rt r' : Option FieldType} {ps : List FieldType} {rm : Room} {Qc : Option Value → Heap → Prop} {a : Addr} {argsL rest : List Value} {ce' sl' : Nat} (hown : s.vm.findClass own = some m.cls) (w1 : (Cond.methodLink own index y).before a0 Z = true) (w2 : (Cond.declares y).before a0 Z = true) (hnf : NotFace s y) (w5 : (Cond.selects C' y z).before a0 Z = true) (w6 : (Cond.instanceMethod z).before a0 Z = true) (w3 : (Cond.initialized z.cls).before a0 Z = true) (w4 : (Cond.code z bytes maxL rt).before a0 Z = true) (hy : y.cls ≠ "java/lang/invoke/MethodHandle" ∧ y.cls ≠ "java/lang/invoke/VarHandle")
    (E : Exa Z h a C') (hM : Met l Z z bytes maxL rt [] rm (.ref a :: argsL).toArray h n0 Qc) (hsize : Ls.size = c.maxLocals) (hpd : parseMethodDescriptor y.desc = some ⟨ps, r'⟩) (hlen : argsL.length = ps.length) (hst : st = argsL.reverse ++ .ref a :: rest) (hd : decode c.code pc = .ok (.invokevirtual index, 3)) (hq : q = pc + 3) (hf : rm.frames + 1 ≤ R.frames) (hl : (rest.map fun v => v.category).sum + (maxL + 11) + rm.locals ≤ R.locals) (hce : ce + rm.cells = ce') (hsl : sl + rm.slots = sl') (hc : ce' ≤ R.cells) (hs : sl' ≤ R.slots)
    (G : ∀ (v : Option Value) (h' : Heap), Qc v h' → Go p l e R s m args below meth c n0 C N Q h' ce' sl' q Ls (v.toList ++ rest)) : Go p l e R s m args below meth c n0 C N Q h ce sl pc Ls st := fun T locs X Nf eT => by
  subst hq hce hsl
  obtain ⟨cB, kB, qa, qb, qc⟩ := isOf hZ eT E
  obtain ⟨v, _, ⟨T', L', k', n'⟩, -, X', ⟨Lc, ⟨hQ, hF⟩, hl1, hl2, hl3⟩, hst'⟩ := X.virtualBack hx hown (mvT hZ w1) (mvT hZ w2) hnf (mvT hZ w5) (mvT hZ w6) hy (backOf (W := (rest.map fun v => v.category).sum) (Q := fun v h' L => Qc v h' ∧ Fr n0 L) hM hZ w4 w3 hf hl) qa qc (g := mkF m pc Ls st) rfl hsize (Steps.refl _) (argsL := argsL) (rest := rest) (lenOf hpd hlen) hst (by show 2 * 0 + _ ≤ _; omega) hd (fun _ _ => ⟨rfl, eT, hc, hs⟩)
  dsimp only [Pt.U, Pt.locs, Pt.cells, Pt.slots] at X' hl1 hl2 hl3 hst' hQ
  subst hl1 hl2 hl3
  obtain ⟨s₂, v', L'', S, r⟩ := G v _ hQ T' _ X' (Fr.app Nf hF) rfl
  exact ⟨s₂, v', L'', hst'.trans S, r⟩
theorem Go.instNull (hx : p.tables.exec = Jvm.exec) {index : Nat} (hd : decode c.code pc = .ok (.instanceof index, 3)) (hq : q = pc + 3) (G : Go p l e R s m args below meth c n0 C N Q h ce sl q Ls (.int 0 :: st)) : Go p l e R s m args below meth c n0 C N Q h ce sl pc Ls (.null :: st) := by
  subst hq
  exact Go.step (fun T locs target X eT S => X.instanceofNull hx (g := mkF m pc Ls (.null :: st)) rfl rfl hd target S) G
theorem Go.castNull (hx : p.tables.exec = Jvm.exec) {index : Nat} (hd : decode c.code pc = .ok (.checkcast index, 3)) (hq : q = pc + 3) (G : Go p l e R s m args below meth c n0 C N Q h ce sl q Ls (.null :: st)) : Go p l e R s m args below meth c n0 C N Q h ce sl pc Ls (.null :: st) := by
  subst hq
  exact Go.step (fun T locs target X eT S => X.checkcastNull hx (g := mkF m pc Ls (.null :: st)) rfl rfl hd target S) G
theorem Go.instNo (hx : p.tables.exec = Jvm.exec) (hZ : Z.Warmed39 s.vm) {own K C' : String} {index : Nat} (hown : s.vm.findClass own = some m.cls) (w1 : (Cond.classLink own index K).before a0 Z = true) {a : Addr} (E : Exa Z h a C') (F : ∃ c t, Z.vm.findClass C' = some c ∧ Z.vm.findClass K = some t ∧ Z.vm.assignable c t = false) (hd : decode c.code pc = .ok (.instanceof index, 3)) (hq : q = pc + 3) (G : Go p l e R s m args below meth c n0 C N Q h ce sl q Ls (.int 0 :: st)) : Go p l e R s m args below meth c n0 C N Q h ce sl pc Ls (.ref a :: st) := by
  subst hq
  exact Go.law (fun T locs X eT => Jvm.RoadKit.instNo X hx hZ hown w1 eT E F (g := mkF m pc Ls (.ref a :: st)) rfl rfl hd) G
theorem Go.aaloadC (hx : p.tables.exec = Jvm.exec) (hZ : Z.Warmed39 s.vm) {a : Addr} {cl : Cell} {ty : FieldType} {j : Int32} {v : Value} (A : Arr Z h a cl ty) (hty : ty.isReference = true) (hj : ¬ (j < 0 ∨ cl.slots.size ≤ j.toNatClampNeg)) (hv : cl.slots[j.toNatClampNeg]? = some v) (hd : decode c.code pc = .ok (.aaload, 1)) (hq : q = pc + 1) (G : Go p l e R s m args below meth c n0 C N Q h ce sl q Ls (v :: st)) : Go p l e R s m args below meth c n0 C N Q h ce sl pc Ls (.int j :: .ref a :: st) := by
  subst hq
  exact Go.step (fun T locs target X eT S => X.aaload hx (by rw [eT]; exact A.1) (State.isArrayOf_alike hZ.alike A.2.1) hty A.2.2 hj hv (g := mkF m pc Ls (.int j :: .ref a :: st)) rfl rfl hd target S) G
theorem cat_ref {v : Value} (hv : v.isRef = true) : v.category = 1 := by rcases ref_cases hv with rfl | ⟨x, rfl⟩ <;> rfl
theorem nar_ref {v : Value} {t : FieldType} (hv : v.isRef = true) (ht : t.isReference = true) : narrow t v = v := by rcases ref_cases hv with rfl | ⟨x, rfl⟩ <;> cases t <;> rfl
theorem fits_of_ref {v : Value} {t : FieldType} (hv : v.isRef = true) (ht : t.isReference = true) : fits t v = true := by rcases ref_cases hv with rfl | ⟨x, rfl⟩ <;> cases t <;> first | rfl | cases ht
theorem cmpL_gt (x y : Int64) : (0 : Int32) < XT.cmpL x y ↔ y < x := by
  unfold XT.cmpL; split <;> (try split) <;> simp_all <;> decide
theorem cmpL_lt (x y : Int64) : XT.cmpL x y < (0 : Int32) ↔ x < y := by
  unfold XT.cmpL; split <;> (try split) <;> simp_all [Int64.lt_iff_toInt_lt, ← Int64.toInt_inj, Int32.lt_iff_toInt_lt] <;> omega
theorem cmpL_eq (x y : Int64) : XT.cmpL x y = (0 : Int32) ↔ x = y := by
  unfold XT.cmpL; split <;> (try split) <;> simp_all [Int64.lt_iff_toInt_lt, ← Int64.toInt_inj] <;> omega
theorem ns_root {K O : String} {kn : Nat} (w1 : (Cond.noSuperclass O).before a0 Z = true) (wk : (Cond.instantiable K kn).before a0 Z = true) (hn : O ≠ K) : NS Z O K := by
  obtain ⟨c, k, h1, h2, h3, -, -⟩ := Cond.noSuperclass_spec w1
  obtain ⟨t, kt, g1, -⟩ := Cond.instantiable_spec wk
  have ne := ids_ne h1 g1 hn
  refine ⟨c, t, h1, g1, fun fuel => ?_⟩
  cases fuel with
  | zero => rfl
  | succ f => simp [Vm.isSubclassAux, ne, h2, h3]
theorem ns_no {C' S K : String} {kn : Nat} (w1 : (Cond.superclass C' S).before a0 Z = true) (wk : (Cond.instantiable K kn).before a0 Z = true) (nn : NS Z C' K) (hn : C' ≠ K) : ∃ c t, Z.vm.findClass C' = some c ∧ Z.vm.findClass K = some t ∧ Z.vm.assignable c t = false := by
  obtain ⟨c, t, h0, g0, n3⟩ := nn
  obtain ⟨p, k, kp, h1, h2, h3, h4, h5, -, h7⟩ := Cond.superclass_spec h0 w1
  obtain ⟨t', kt, g1, g2, g5, g7, -⟩ := Cond.instantiable_spec wk
  cases g0.symm.trans g1
  have g8 : kt.isInterface = false := by rw [Bool.or_eq_false_iff] at g7; exact g7.1
  have ne := ids_ne h0 g0 hn
  refine ⟨c, t, h0, g0, ?_⟩
  show Z.vm.assignableAux (255 + 1) c t = false
  simp [Vm.assignableAux, ne, h2, g2, h5, g5, g8, Vm.isSubclass, n3]
end OwnKit
theorem rem7 (x : Int32) : (x &&& (2147483647 : Int32)) % (7 : Int32) = (0 : Int32) ∨ (x &&& (2147483647 : Int32)) % (7 : Int32) = (1 : Int32) ∨ (x &&& (2147483647 : Int32)) % (7 : Int32) = (2 : Int32) ∨ (x &&& (2147483647 : Int32)) % (7 : Int32) = (3 : Int32) ∨ (x &&& (2147483647 : Int32)) % (7 : Int32) = (4 : Int32) ∨ (x &&& (2147483647 : Int32)) % (7 : Int32) = (5 : Int32) ∨ (x &&& (2147483647 : Int32)) % (7 : Int32) = (6 : Int32) := by
  have e1 : (x &&& 2147483647).toInt = x.toInt % 2 ^ 31 := Jvm.Kit.i32_mask x 2147483647 (k := 31) (by decide) (by decide)
  have e2 := Jvm.Kit.i32_rem_nonneg (x := x &&& 2147483647) (y := 7) (by omega)
  have e3 : (7 : Int32).toInt = 7 := rfl
  rw [e3] at e2
  have f0 : (0 : Int32).toInt = 0 := rfl
  have f1 : (1 : Int32).toInt = 1 := rfl
  have f2 : (2 : Int32).toInt = 2 := rfl
  have f3 : (3 : Int32).toInt = 3 := rfl
  have f4 : (4 : Int32).toInt = 4 := rfl
  have f5 : (5 : Int32).toInt = 5 := rfl
  have f6 : (6 : Int32).toInt = 6 := rfl
  simp only [← Int32.toInt_inj]
  omega
theorem nar_nar (x : Int32) : nar .byte (nar .byte x) = nar .byte x := by simp [nar]
theorem d0_0 : decode method_2_code 0 = .ok (.iload_n 2, 1) := by decide +kernel
theorem d0_1 : decode method_2_code 1 = .ok (.iload_n 3, 1) := by decide +kernel
theorem d0_2 : decode method_2_code 2 = .ok (.ishr, 1) := by decide +kernel
theorem d0_3 : decode method_2_code 3 = .ok (.iconst 1, 1) := by decide +kernel
theorem d0_4 : decode method_2_code 4 = .ok (.iand, 1) := by decide +kernel
theorem d0_5 : decode method_2_code 5 = .ok (.ifCond .eq 6, 3) := by decide +kernel
theorem d0_8 : decode method_2_code 8 = .ok (.bipush 10, 2) := by decide +kernel
theorem d0_10 : decode method_2_code 10 = .ok (.ireturn, 1) := by decide +kernel
theorem d0_11 : decode method_2_code 11 = .ok (.lload_n 0, 1) := by decide +kernel
theorem d0_12 : decode method_2_code 12 = .ok (.bipush 8, 2) := by decide +kernel
theorem d0_14 : decode method_2_code 14 = .ok (.iload_n 3, 1) := by decide +kernel
theorem d0_15 : decode method_2_code 15 = .ok (.imul, 1) := by decide +kernel
theorem d0_16 : decode method_2_code 16 = .ok (.lushr, 1) := by decide +kernel
theorem d0_17 : decode method_2_code 17 = .ok (.l2i, 1) := by decide +kernel
theorem d0_18 : decode method_2_code 18 = .ok (.i2b, 1) := by decide +kernel
theorem d0_19 : decode method_2_code 19 = .ok (.ireturn, 1) := by decide +kernel
theorem pl_0 : plainFor (⟨"com/example/epithet/epithet/store/RecordFilesWholeLinesEndPinLaw", "at", "(JII)B"⟩ : MethodName) = true := plainFor_of_name (by first | (simp [plainName, overriddenIn]; done) | decide +kernel)
set_option maxRecDepth 65536 in
set_option maxHeartbeats 40000000 in
theorem rmAt (l : Launch) (Z : State) (a0 : Array Value) (hw : ∀ d ∈ tables_1, d.before a0 Z = true) (k : Int64) (nl i : Int32) (h0 : Heap) (n0 : Nat) (Z0 : n0 ≤ h0.size)  :
    Met l Z (⟨"com/example/epithet/epithet/store/RecordFilesWholeLinesEndPinLaw", "at", "(JII)B"⟩ : MethodName) method_2_code 4 (Option.some FieldType.byte) [] ({ frames := 0, cells := 0, slots := 0, locals := 0 } : Room) #[(.long k), (.int nl), (.int i)] h0 n0 (fun v h => ∃ z, v = some (.int z) ∧ nar .byte z = z ∧ h0 = h) := by
  refine Met.of (Ls0 := #[.val (.long k), .second, .val (.int nl), .val (.int i)]) pl_0 (by first | rfl | simp [argsToLocals, Value.category]) ?_
  intro p e s m below meth c hx hby hml hret hlk hown hnm hZ
  refine Go.iloadN (q := 1) hx (hb hby d0_0) rfl rfl ?_
  refine Go.iloadN (q := 2) hx (hb hby d0_1) rfl rfl ?_
  refine Go.ishr (q := 3) hx (hb hby d0_2) rfl ?_
  refine Go.iconst (q := 4) (z := (1 : Int32)) hx (hb hby d0_3) rfl rfl ?_
  refine Go.iand (q := 5) hx (hb hby d0_4) rfl ?_
  refine Go.if_eq (q := 8) (t := 11) hx (hb hby d0_5) (by decide) rfl rfl (fun hc5 => ?_) (fun hc5 => ?_)
  · skip
    refine Go.lloadN (q := 12) hx (hb hby d0_11) rfl rfl ?_
    refine Go.bipush (q := 14) (z := (8 : Int32)) hx (hb hby d0_12) rfl rfl ?_
    refine Go.iloadN (q := 15) hx (hb hby d0_14) rfl rfl ?_
    refine Go.imul (q := 16) hx (hb hby d0_15) rfl ?_
    refine Go.lushr (q := 17) hx (hb hby d0_16) rfl ?_
    refine Go.l2i (q := 18) hx (hb hby d0_17) rfl ?_
    refine Go.i2b (q := 19) hx (hb hby d0_18) rfl ?_
    refine Go.retN hx (t := .byte) hret (by simp) hlk (hb hby d0_19) (by decide) (by decide) ?_
    exact ⟨_, rfl, nar_nar _, rfl⟩
  · skip
    refine Go.bipush (q := 10) (z := (10 : Int32)) hx (hb hby d0_8) rfl rfl ?_
    refine Go.retN hx (t := .byte) hret (by simp) hlk (hb hby d0_10) (by decide) (by decide) ?_
    exact ⟨_, rfl, nar_nar _, rfl⟩
theorem d1_0 : decode prog_91_method_13_code 0 = .ok (.aload_n 0, 1) := by decide +kernel
theorem d1_1 : decode prog_91_method_13_code 1 = .ok (.arraylength, 1) := by decide +kernel
theorem d1_2 : decode prog_91_method_13_code 2 = .ok (.istore_n 1, 1) := by decide +kernel
theorem d1_3 : decode prog_91_method_13_code 3 = .ok (.iload_n 1, 1) := by decide +kernel
theorem d1_4 : decode prog_91_method_13_code 4 = .ok (.ifCond .le 19, 3) := by decide +kernel
theorem d1_7 : decode prog_91_method_13_code 7 = .ok (.aload_n 0, 1) := by decide +kernel
theorem d1_8 : decode prog_91_method_13_code 8 = .ok (.iload_n 1, 1) := by decide +kernel
theorem d1_9 : decode prog_91_method_13_code 9 = .ok (.iconst 1, 1) := by decide +kernel
theorem d1_10 : decode prog_91_method_13_code 10 = .ok (.isub, 1) := by decide +kernel
theorem d1_11 : decode prog_91_method_13_code 11 = .ok (.baload, 1) := by decide +kernel
theorem d1_12 : decode prog_91_method_13_code 12 = .ok (.bipush 10, 2) := by decide +kernel
theorem d1_14 : decode prog_91_method_13_code 14 = .ok (.if_icmp .eq 9, 3) := by decide +kernel
theorem d1_17 : decode prog_91_method_13_code 17 = .ok (.iinc 1 (-1), 3) := by decide +kernel
theorem d1_20 : decode prog_91_method_13_code 20 = .ok (.goto (-17), 3) := by decide +kernel
theorem d1_23 : decode prog_91_method_13_code 23 = .ok (.iload_n 1, 1) := by decide +kernel
theorem d1_24 : decode prog_91_method_13_code 24 = .ok (.i2l, 1) := by decide +kernel
theorem d1_25 : decode prog_91_method_13_code 25 = .ok (.lreturn, 1) := by decide +kernel
theorem pl_1 : plainFor (⟨"com/example/epithet/epithet/store/RecordFiles", "wholeLinesEnd", "([B)J"⟩ : MethodName) = true := plainFor_of_name (by first | (simp [plainName, overriddenIn]; done) | decide +kernel)
set_option maxRecDepth 65536 in
set_option maxHeartbeats 40000000 in
theorem rmW0 (l : Launch) (Z : State) (a0 : Array Value) (hw : ∀ d ∈ tables_1, d.before a0 Z = true) (a : Addr) (kc : ClassId)  (h0 : Heap) (n0 : Nat) (Z0 : n0 ≤ h0.size) (A : Arv Z h0 a kc .byte (0 : Int32) [] (.int (0 : Int32))) :
    Met l Z (⟨"com/example/epithet/epithet/store/RecordFiles", "wholeLinesEnd", "([B)J"⟩ : MethodName) prog_91_method_13_code 2 (Option.some FieldType.long) [] ({ frames := 0, cells := 0, slots := 0, locals := 0 } : Room) #[(.ref a)] h0 n0 (fun v h => v = some (.long ((0 : Int64))) ∧ h0 = h) := by
  refine Met.of (Ls0 := #[.val (.ref a), .unset]) pl_1 (by first | rfl | simp [argsToLocals, Value.category]) ?_
  intro p e s m below meth c hx hby hml hret hlk hown hnm hZ
  refine Go.aloadN (q := 1) hx (hb hby d1_0) rfl (by rfl) rfl ?_
  refine Go.alen (q := 2) hx hZ A (hb hby d1_1) rfl ?_
  refine Go.istoreN (q := 3) (l' := #[.val (.ref a), .val (.int (0 : Int32))]) hx (hb hby d1_2) rfl rfl ?_
  refine Go.iloadN (q := 4) hx (hb hby d1_3) rfl rfl ?_
  refine Go.if_le (q := 7) (t := 23) hx (hb hby d1_4) (by decide) rfl rfl (fun hc4 => ?_) (fun hc4 => absurd hc4 (by decide))
  refine Go.iloadN (q := 24) hx (hb hby d1_23) rfl rfl ?_
  refine Go.i2l (q := 25) hx (hb hby d1_24) rfl ?_
  refine Go.retL hx hret hlk (hb hby d1_25) (by decide) (by decide) ?_
  exact ⟨by rfl, rfl⟩
set_option maxRecDepth 65536 in
set_option maxHeartbeats 40000000 in
theorem rmW1 (l : Launch) (Z : State) (a0 : Array Value) (hw : ∀ d ∈ tables_1, d.before a0 Z = true) (a : Addr) (kc : ClassId) (z0 : Int32) (h0 : Heap) (n0 : Nat) (Z0 : n0 ≤ h0.size) (A : Arv Z h0 a kc .byte (1 : Int32) [.int z0] (.int (0 : Int32))) :
    Met l Z (⟨"com/example/epithet/epithet/store/RecordFiles", "wholeLinesEnd", "([B)J"⟩ : MethodName) prog_91_method_13_code 2 (Option.some FieldType.long) [] ({ frames := 0, cells := 0, slots := 0, locals := 0 } : Room) #[(.ref a)] h0 n0 (fun v h => v = some (.long (if z0 = (10 : Int32) then (1 : Int64) else (0 : Int64))) ∧ h0 = h) := by
  refine Met.of (Ls0 := #[.val (.ref a), .unset]) pl_1 (by first | rfl | simp [argsToLocals, Value.category]) ?_
  intro p e s m below meth c hx hby hml hret hlk hown hnm hZ
  refine Go.aloadN (q := 1) hx (hb hby d1_0) rfl (by rfl) rfl ?_
  refine Go.alen (q := 2) hx hZ A (hb hby d1_1) rfl ?_
  refine Go.istoreN (q := 3) (l' := #[.val (.ref a), .val (.int (1 : Int32))]) hx (hb hby d1_2) rfl rfl ?_
  refine Go.iloadN (q := 4) hx (hb hby d1_3) rfl rfl ?_
  refine Go.if_le (q := 7) (t := 23) hx (hb hby d1_4) (by decide) rfl rfl (fun hc4 => absurd hc4 (by decide)) (fun hc4 => ?_)
  refine Go.aloadN (q := 8) hx (hb hby d1_7) rfl (by rfl) rfl ?_
  refine Go.iloadN (q := 9) hx (hb hby d1_8) rfl rfl ?_
  refine Go.iconst (q := 10) (z := (1 : Int32)) hx (hb hby d1_9) rfl rfl ?_
  refine Go.isub (q := 11) hx (hb hby d1_10) rfl ?_
  refine Go.baload (q := 12) (v := (.int z0)) hx hZ A ⟨by decide, by decide⟩ rfl (hb hby d1_11) rfl ?_
  refine Go.bipush (q := 14) (z := (10 : Int32)) hx (hb hby d1_12) rfl rfl ?_
  refine Go.icmp_eq (q := 17) (t := 23) hx (hb hby d1_14) (by decide) rfl rfl (fun hc14 => ?_) (fun hc14 => ?_)
  · skip
    refine Go.iloadN (q := 24) hx (hb hby d1_23) rfl rfl ?_
    refine Go.i2l (q := 25) hx (hb hby d1_24) rfl ?_
    refine Go.retL hx hret hlk (hb hby d1_25) (by decide) (by decide) ?_
    exact ⟨by rw [if_pos hc14]; rfl, rfl⟩
  · skip
    refine Go.iinc (q := 20) (l' := #[.val (.ref a), .val (.int ((1 : Int32) + (-1 : Int32)))]) hx (hb hby d1_17) rfl rfl rfl ?_
    refine Go.goto (q := 3) hx (hb hby d1_20) (by decide) rfl ?_
    refine Go.iloadN (q := 4) hx (hb hby d1_3) rfl rfl ?_
    refine Go.if_le (q := 7) (t := 23) hx (hb hby d1_4) (by decide) rfl rfl (fun hc4_1 => ?_) (fun hc4_1 => absurd hc4_1 (by decide))
    refine Go.iloadN (q := 24) hx (hb hby d1_23) rfl rfl ?_
    refine Go.i2l (q := 25) hx (hb hby d1_24) rfl ?_
    refine Go.retL hx hret hlk (hb hby d1_25) (by decide) (by decide) ?_
    exact ⟨by rw [if_neg hc14]; rfl, rfl⟩
set_option maxRecDepth 65536 in
set_option maxHeartbeats 40000000 in
theorem rmW2 (l : Launch) (Z : State) (a0 : Array Value) (hw : ∀ d ∈ tables_1, d.before a0 Z = true) (a : Addr) (kc : ClassId) (z0 z1 : Int32) (h0 : Heap) (n0 : Nat) (Z0 : n0 ≤ h0.size) (A : Arv Z h0 a kc .byte (2 : Int32) [.int z0, .int z1] (.int (0 : Int32))) :
    Met l Z (⟨"com/example/epithet/epithet/store/RecordFiles", "wholeLinesEnd", "([B)J"⟩ : MethodName) prog_91_method_13_code 2 (Option.some FieldType.long) [] ({ frames := 0, cells := 0, slots := 0, locals := 0 } : Room) #[(.ref a)] h0 n0 (fun v h => v = some (.long (if z1 = (10 : Int32) then (2 : Int64) else if z0 = (10 : Int32) then (1 : Int64) else (0 : Int64))) ∧ h0 = h) := by
  refine Met.of (Ls0 := #[.val (.ref a), .unset]) pl_1 (by first | rfl | simp [argsToLocals, Value.category]) ?_
  intro p e s m below meth c hx hby hml hret hlk hown hnm hZ
  refine Go.aloadN (q := 1) hx (hb hby d1_0) rfl (by rfl) rfl ?_
  refine Go.alen (q := 2) hx hZ A (hb hby d1_1) rfl ?_
  refine Go.istoreN (q := 3) (l' := #[.val (.ref a), .val (.int (2 : Int32))]) hx (hb hby d1_2) rfl rfl ?_
  refine Go.iloadN (q := 4) hx (hb hby d1_3) rfl rfl ?_
  refine Go.if_le (q := 7) (t := 23) hx (hb hby d1_4) (by decide) rfl rfl (fun hc4 => absurd hc4 (by decide)) (fun hc4 => ?_)
  refine Go.aloadN (q := 8) hx (hb hby d1_7) rfl (by rfl) rfl ?_
  refine Go.iloadN (q := 9) hx (hb hby d1_8) rfl rfl ?_
  refine Go.iconst (q := 10) (z := (1 : Int32)) hx (hb hby d1_9) rfl rfl ?_
  refine Go.isub (q := 11) hx (hb hby d1_10) rfl ?_
  refine Go.baload (q := 12) (v := (.int z1)) hx hZ A ⟨by decide, by decide⟩ rfl (hb hby d1_11) rfl ?_
  refine Go.bipush (q := 14) (z := (10 : Int32)) hx (hb hby d1_12) rfl rfl ?_
  refine Go.icmp_eq (q := 17) (t := 23) hx (hb hby d1_14) (by decide) rfl rfl (fun hc14 => ?_) (fun hc14 => ?_)
  · skip
    refine Go.iloadN (q := 24) hx (hb hby d1_23) rfl rfl ?_
    refine Go.i2l (q := 25) hx (hb hby d1_24) rfl ?_
    refine Go.retL hx hret hlk (hb hby d1_25) (by decide) (by decide) ?_
    exact ⟨by rw [if_pos hc14]; rfl, rfl⟩
  · skip
    refine Go.iinc (q := 20) (l' := #[.val (.ref a), .val (.int ((2 : Int32) + (-1 : Int32)))]) hx (hb hby d1_17) rfl rfl rfl ?_
    refine Go.goto (q := 3) hx (hb hby d1_20) (by decide) rfl ?_
    refine Go.iloadN (q := 4) hx (hb hby d1_3) rfl rfl ?_
    refine Go.if_le (q := 7) (t := 23) hx (hb hby d1_4) (by decide) rfl rfl (fun hc4_1 => absurd hc4_1 (by decide)) (fun hc4_1 => ?_)
    refine Go.aloadN (q := 8) hx (hb hby d1_7) rfl (by rfl) rfl ?_
    refine Go.iloadN (q := 9) hx (hb hby d1_8) rfl rfl ?_
    refine Go.iconst (q := 10) (z := (1 : Int32)) hx (hb hby d1_9) rfl rfl ?_
    refine Go.isub (q := 11) hx (hb hby d1_10) rfl ?_
    refine Go.baload (q := 12) (v := (.int z0)) hx hZ A ⟨by decide, by decide⟩ rfl (hb hby d1_11) rfl ?_
    refine Go.bipush (q := 14) (z := (10 : Int32)) hx (hb hby d1_12) rfl rfl ?_
    refine Go.icmp_eq (q := 17) (t := 23) hx (hb hby d1_14) (by decide) rfl rfl (fun hc14_1 => ?_) (fun hc14_1 => ?_)
    · skip
      refine Go.iloadN (q := 24) hx (hb hby d1_23) rfl rfl ?_
      refine Go.i2l (q := 25) hx (hb hby d1_24) rfl ?_
      refine Go.retL hx hret hlk (hb hby d1_25) (by decide) (by decide) ?_
      exact ⟨by rw [if_neg hc14, if_pos hc14_1]; rfl, rfl⟩
    · skip
      refine Go.iinc (q := 20) (l' := #[.val (.ref a), .val (.int (((2 : Int32) + (-1 : Int32)) + (-1 : Int32)))]) hx (hb hby d1_17) rfl rfl rfl ?_
      refine Go.goto (q := 3) hx (hb hby d1_20) (by decide) rfl ?_
      refine Go.iloadN (q := 4) hx (hb hby d1_3) rfl rfl ?_
      refine Go.if_le (q := 7) (t := 23) hx (hb hby d1_4) (by decide) rfl rfl (fun hc4_2 => ?_) (fun hc4_2 => absurd hc4_2 (by decide))
      refine Go.iloadN (q := 24) hx (hb hby d1_23) rfl rfl ?_
      refine Go.i2l (q := 25) hx (hb hby d1_24) rfl ?_
      refine Go.retL hx hret hlk (hb hby d1_25) (by decide) (by decide) ?_
      exact ⟨by rw [if_neg hc14, if_neg hc14_1]; rfl, rfl⟩
set_option maxRecDepth 65536 in
set_option maxHeartbeats 40000000 in
theorem rmW3 (l : Launch) (Z : State) (a0 : Array Value) (hw : ∀ d ∈ tables_1, d.before a0 Z = true) (a : Addr) (kc : ClassId) (z0 z1 z2 : Int32) (h0 : Heap) (n0 : Nat) (Z0 : n0 ≤ h0.size) (A : Arv Z h0 a kc .byte (3 : Int32) [.int z0, .int z1, .int z2] (.int (0 : Int32))) :
    Met l Z (⟨"com/example/epithet/epithet/store/RecordFiles", "wholeLinesEnd", "([B)J"⟩ : MethodName) prog_91_method_13_code 2 (Option.some FieldType.long) [] ({ frames := 0, cells := 0, slots := 0, locals := 0 } : Room) #[(.ref a)] h0 n0 (fun v h => v = some (.long (if z2 = (10 : Int32) then (3 : Int64) else if z1 = (10 : Int32) then (2 : Int64) else if z0 = (10 : Int32) then (1 : Int64) else (0 : Int64))) ∧ h0 = h) := by
  refine Met.of (Ls0 := #[.val (.ref a), .unset]) pl_1 (by first | rfl | simp [argsToLocals, Value.category]) ?_
  intro p e s m below meth c hx hby hml hret hlk hown hnm hZ
  refine Go.aloadN (q := 1) hx (hb hby d1_0) rfl (by rfl) rfl ?_
  refine Go.alen (q := 2) hx hZ A (hb hby d1_1) rfl ?_
  refine Go.istoreN (q := 3) (l' := #[.val (.ref a), .val (.int (3 : Int32))]) hx (hb hby d1_2) rfl rfl ?_
  refine Go.iloadN (q := 4) hx (hb hby d1_3) rfl rfl ?_
  refine Go.if_le (q := 7) (t := 23) hx (hb hby d1_4) (by decide) rfl rfl (fun hc4 => absurd hc4 (by decide)) (fun hc4 => ?_)
  refine Go.aloadN (q := 8) hx (hb hby d1_7) rfl (by rfl) rfl ?_
  refine Go.iloadN (q := 9) hx (hb hby d1_8) rfl rfl ?_
  refine Go.iconst (q := 10) (z := (1 : Int32)) hx (hb hby d1_9) rfl rfl ?_
  refine Go.isub (q := 11) hx (hb hby d1_10) rfl ?_
  refine Go.baload (q := 12) (v := (.int z2)) hx hZ A ⟨by decide, by decide⟩ rfl (hb hby d1_11) rfl ?_
  refine Go.bipush (q := 14) (z := (10 : Int32)) hx (hb hby d1_12) rfl rfl ?_
  refine Go.icmp_eq (q := 17) (t := 23) hx (hb hby d1_14) (by decide) rfl rfl (fun hc14 => ?_) (fun hc14 => ?_)
  · skip
    refine Go.iloadN (q := 24) hx (hb hby d1_23) rfl rfl ?_
    refine Go.i2l (q := 25) hx (hb hby d1_24) rfl ?_
    refine Go.retL hx hret hlk (hb hby d1_25) (by decide) (by decide) ?_
    exact ⟨by rw [if_pos hc14]; rfl, rfl⟩
  · skip
    refine Go.iinc (q := 20) (l' := #[.val (.ref a), .val (.int ((3 : Int32) + (-1 : Int32)))]) hx (hb hby d1_17) rfl rfl rfl ?_
    refine Go.goto (q := 3) hx (hb hby d1_20) (by decide) rfl ?_
    refine Go.iloadN (q := 4) hx (hb hby d1_3) rfl rfl ?_
    refine Go.if_le (q := 7) (t := 23) hx (hb hby d1_4) (by decide) rfl rfl (fun hc4_1 => absurd hc4_1 (by decide)) (fun hc4_1 => ?_)
    refine Go.aloadN (q := 8) hx (hb hby d1_7) rfl (by rfl) rfl ?_
    refine Go.iloadN (q := 9) hx (hb hby d1_8) rfl rfl ?_
    refine Go.iconst (q := 10) (z := (1 : Int32)) hx (hb hby d1_9) rfl rfl ?_
    refine Go.isub (q := 11) hx (hb hby d1_10) rfl ?_
    refine Go.baload (q := 12) (v := (.int z1)) hx hZ A ⟨by decide, by decide⟩ rfl (hb hby d1_11) rfl ?_
    refine Go.bipush (q := 14) (z := (10 : Int32)) hx (hb hby d1_12) rfl rfl ?_
    refine Go.icmp_eq (q := 17) (t := 23) hx (hb hby d1_14) (by decide) rfl rfl (fun hc14_1 => ?_) (fun hc14_1 => ?_)
    · skip
      refine Go.iloadN (q := 24) hx (hb hby d1_23) rfl rfl ?_
      refine Go.i2l (q := 25) hx (hb hby d1_24) rfl ?_
      refine Go.retL hx hret hlk (hb hby d1_25) (by decide) (by decide) ?_
      exact ⟨by rw [if_neg hc14, if_pos hc14_1]; rfl, rfl⟩
    · skip
      refine Go.iinc (q := 20) (l' := #[.val (.ref a), .val (.int (((3 : Int32) + (-1 : Int32)) + (-1 : Int32)))]) hx (hb hby d1_17) rfl rfl rfl ?_
      refine Go.goto (q := 3) hx (hb hby d1_20) (by decide) rfl ?_
      refine Go.iloadN (q := 4) hx (hb hby d1_3) rfl rfl ?_
      refine Go.if_le (q := 7) (t := 23) hx (hb hby d1_4) (by decide) rfl rfl (fun hc4_2 => absurd hc4_2 (by decide)) (fun hc4_2 => ?_)
      refine Go.aloadN (q := 8) hx (hb hby d1_7) rfl (by rfl) rfl ?_
      refine Go.iloadN (q := 9) hx (hb hby d1_8) rfl rfl ?_
      refine Go.iconst (q := 10) (z := (1 : Int32)) hx (hb hby d1_9) rfl rfl ?_
      refine Go.isub (q := 11) hx (hb hby d1_10) rfl ?_
      refine Go.baload (q := 12) (v := (.int z0)) hx hZ A ⟨by decide, by decide⟩ rfl (hb hby d1_11) rfl ?_
      refine Go.bipush (q := 14) (z := (10 : Int32)) hx (hb hby d1_12) rfl rfl ?_
      refine Go.icmp_eq (q := 17) (t := 23) hx (hb hby d1_14) (by decide) rfl rfl (fun hc14_2 => ?_) (fun hc14_2 => ?_)
      · skip
        refine Go.iloadN (q := 24) hx (hb hby d1_23) rfl rfl ?_
        refine Go.i2l (q := 25) hx (hb hby d1_24) rfl ?_
        refine Go.retL hx hret hlk (hb hby d1_25) (by decide) (by decide) ?_
        exact ⟨by rw [if_neg hc14, if_neg hc14_1, if_pos hc14_2]; rfl, rfl⟩
      · skip
        refine Go.iinc (q := 20) (l' := #[.val (.ref a), .val (.int ((((3 : Int32) + (-1 : Int32)) + (-1 : Int32)) + (-1 : Int32)))]) hx (hb hby d1_17) rfl rfl rfl ?_
        refine Go.goto (q := 3) hx (hb hby d1_20) (by decide) rfl ?_
        refine Go.iloadN (q := 4) hx (hb hby d1_3) rfl rfl ?_
        refine Go.if_le (q := 7) (t := 23) hx (hb hby d1_4) (by decide) rfl rfl (fun hc4_3 => ?_) (fun hc4_3 => absurd hc4_3 (by decide))
        refine Go.iloadN (q := 24) hx (hb hby d1_23) rfl rfl ?_
        refine Go.i2l (q := 25) hx (hb hby d1_24) rfl ?_
        refine Go.retL hx hret hlk (hb hby d1_25) (by decide) (by decide) ?_
        exact ⟨by rw [if_neg hc14, if_neg hc14_1, if_neg hc14_2]; rfl, rfl⟩
set_option maxRecDepth 65536 in
set_option maxHeartbeats 40000000 in
theorem rmW4 (l : Launch) (Z : State) (a0 : Array Value) (hw : ∀ d ∈ tables_1, d.before a0 Z = true) (a : Addr) (kc : ClassId) (z0 z1 z2 z3 : Int32) (h0 : Heap) (n0 : Nat) (Z0 : n0 ≤ h0.size) (A : Arv Z h0 a kc .byte (4 : Int32) [.int z0, .int z1, .int z2, .int z3] (.int (0 : Int32))) :
    Met l Z (⟨"com/example/epithet/epithet/store/RecordFiles", "wholeLinesEnd", "([B)J"⟩ : MethodName) prog_91_method_13_code 2 (Option.some FieldType.long) [] ({ frames := 0, cells := 0, slots := 0, locals := 0 } : Room) #[(.ref a)] h0 n0 (fun v h => v = some (.long (if z3 = (10 : Int32) then (4 : Int64) else if z2 = (10 : Int32) then (3 : Int64) else if z1 = (10 : Int32) then (2 : Int64) else if z0 = (10 : Int32) then (1 : Int64) else (0 : Int64))) ∧ h0 = h) := by
  refine Met.of (Ls0 := #[.val (.ref a), .unset]) pl_1 (by first | rfl | simp [argsToLocals, Value.category]) ?_
  intro p e s m below meth c hx hby hml hret hlk hown hnm hZ
  refine Go.aloadN (q := 1) hx (hb hby d1_0) rfl (by rfl) rfl ?_
  refine Go.alen (q := 2) hx hZ A (hb hby d1_1) rfl ?_
  refine Go.istoreN (q := 3) (l' := #[.val (.ref a), .val (.int (4 : Int32))]) hx (hb hby d1_2) rfl rfl ?_
  refine Go.iloadN (q := 4) hx (hb hby d1_3) rfl rfl ?_
  refine Go.if_le (q := 7) (t := 23) hx (hb hby d1_4) (by decide) rfl rfl (fun hc4 => absurd hc4 (by decide)) (fun hc4 => ?_)
  refine Go.aloadN (q := 8) hx (hb hby d1_7) rfl (by rfl) rfl ?_
  refine Go.iloadN (q := 9) hx (hb hby d1_8) rfl rfl ?_
  refine Go.iconst (q := 10) (z := (1 : Int32)) hx (hb hby d1_9) rfl rfl ?_
  refine Go.isub (q := 11) hx (hb hby d1_10) rfl ?_
  refine Go.baload (q := 12) (v := (.int z3)) hx hZ A ⟨by decide, by decide⟩ rfl (hb hby d1_11) rfl ?_
  refine Go.bipush (q := 14) (z := (10 : Int32)) hx (hb hby d1_12) rfl rfl ?_
  refine Go.icmp_eq (q := 17) (t := 23) hx (hb hby d1_14) (by decide) rfl rfl (fun hc14 => ?_) (fun hc14 => ?_)
  · skip
    refine Go.iloadN (q := 24) hx (hb hby d1_23) rfl rfl ?_
    refine Go.i2l (q := 25) hx (hb hby d1_24) rfl ?_
    refine Go.retL hx hret hlk (hb hby d1_25) (by decide) (by decide) ?_
    exact ⟨by rw [if_pos hc14]; rfl, rfl⟩
  · skip
    refine Go.iinc (q := 20) (l' := #[.val (.ref a), .val (.int ((4 : Int32) + (-1 : Int32)))]) hx (hb hby d1_17) rfl rfl rfl ?_
    refine Go.goto (q := 3) hx (hb hby d1_20) (by decide) rfl ?_
    refine Go.iloadN (q := 4) hx (hb hby d1_3) rfl rfl ?_
    refine Go.if_le (q := 7) (t := 23) hx (hb hby d1_4) (by decide) rfl rfl (fun hc4_1 => absurd hc4_1 (by decide)) (fun hc4_1 => ?_)
    refine Go.aloadN (q := 8) hx (hb hby d1_7) rfl (by rfl) rfl ?_
    refine Go.iloadN (q := 9) hx (hb hby d1_8) rfl rfl ?_
    refine Go.iconst (q := 10) (z := (1 : Int32)) hx (hb hby d1_9) rfl rfl ?_
    refine Go.isub (q := 11) hx (hb hby d1_10) rfl ?_
    refine Go.baload (q := 12) (v := (.int z2)) hx hZ A ⟨by decide, by decide⟩ rfl (hb hby d1_11) rfl ?_
    refine Go.bipush (q := 14) (z := (10 : Int32)) hx (hb hby d1_12) rfl rfl ?_
    refine Go.icmp_eq (q := 17) (t := 23) hx (hb hby d1_14) (by decide) rfl rfl (fun hc14_1 => ?_) (fun hc14_1 => ?_)
    · skip
      refine Go.iloadN (q := 24) hx (hb hby d1_23) rfl rfl ?_
      refine Go.i2l (q := 25) hx (hb hby d1_24) rfl ?_
      refine Go.retL hx hret hlk (hb hby d1_25) (by decide) (by decide) ?_
      exact ⟨by rw [if_neg hc14, if_pos hc14_1]; rfl, rfl⟩
    · skip
      refine Go.iinc (q := 20) (l' := #[.val (.ref a), .val (.int (((4 : Int32) + (-1 : Int32)) + (-1 : Int32)))]) hx (hb hby d1_17) rfl rfl rfl ?_
      refine Go.goto (q := 3) hx (hb hby d1_20) (by decide) rfl ?_
      refine Go.iloadN (q := 4) hx (hb hby d1_3) rfl rfl ?_
      refine Go.if_le (q := 7) (t := 23) hx (hb hby d1_4) (by decide) rfl rfl (fun hc4_2 => absurd hc4_2 (by decide)) (fun hc4_2 => ?_)
      refine Go.aloadN (q := 8) hx (hb hby d1_7) rfl (by rfl) rfl ?_
      refine Go.iloadN (q := 9) hx (hb hby d1_8) rfl rfl ?_
      refine Go.iconst (q := 10) (z := (1 : Int32)) hx (hb hby d1_9) rfl rfl ?_
      refine Go.isub (q := 11) hx (hb hby d1_10) rfl ?_
      refine Go.baload (q := 12) (v := (.int z1)) hx hZ A ⟨by decide, by decide⟩ rfl (hb hby d1_11) rfl ?_
      refine Go.bipush (q := 14) (z := (10 : Int32)) hx (hb hby d1_12) rfl rfl ?_
      refine Go.icmp_eq (q := 17) (t := 23) hx (hb hby d1_14) (by decide) rfl rfl (fun hc14_2 => ?_) (fun hc14_2 => ?_)
      · skip
        refine Go.iloadN (q := 24) hx (hb hby d1_23) rfl rfl ?_
        refine Go.i2l (q := 25) hx (hb hby d1_24) rfl ?_
        refine Go.retL hx hret hlk (hb hby d1_25) (by decide) (by decide) ?_
        exact ⟨by rw [if_neg hc14, if_neg hc14_1, if_pos hc14_2]; rfl, rfl⟩
      · skip
        refine Go.iinc (q := 20) (l' := #[.val (.ref a), .val (.int ((((4 : Int32) + (-1 : Int32)) + (-1 : Int32)) + (-1 : Int32)))]) hx (hb hby d1_17) rfl rfl rfl ?_
        refine Go.goto (q := 3) hx (hb hby d1_20) (by decide) rfl ?_
        refine Go.iloadN (q := 4) hx (hb hby d1_3) rfl rfl ?_
        refine Go.if_le (q := 7) (t := 23) hx (hb hby d1_4) (by decide) rfl rfl (fun hc4_3 => absurd hc4_3 (by decide)) (fun hc4_3 => ?_)
        refine Go.aloadN (q := 8) hx (hb hby d1_7) rfl (by rfl) rfl ?_
        refine Go.iloadN (q := 9) hx (hb hby d1_8) rfl rfl ?_
        refine Go.iconst (q := 10) (z := (1 : Int32)) hx (hb hby d1_9) rfl rfl ?_
        refine Go.isub (q := 11) hx (hb hby d1_10) rfl ?_
        refine Go.baload (q := 12) (v := (.int z0)) hx hZ A ⟨by decide, by decide⟩ rfl (hb hby d1_11) rfl ?_
        refine Go.bipush (q := 14) (z := (10 : Int32)) hx (hb hby d1_12) rfl rfl ?_
        refine Go.icmp_eq (q := 17) (t := 23) hx (hb hby d1_14) (by decide) rfl rfl (fun hc14_3 => ?_) (fun hc14_3 => ?_)
        · skip
          refine Go.iloadN (q := 24) hx (hb hby d1_23) rfl rfl ?_
          refine Go.i2l (q := 25) hx (hb hby d1_24) rfl ?_
          refine Go.retL hx hret hlk (hb hby d1_25) (by decide) (by decide) ?_
          exact ⟨by rw [if_neg hc14, if_neg hc14_1, if_neg hc14_2, if_pos hc14_3]; rfl, rfl⟩
        · skip
          refine Go.iinc (q := 20) (l' := #[.val (.ref a), .val (.int (((((4 : Int32) + (-1 : Int32)) + (-1 : Int32)) + (-1 : Int32)) + (-1 : Int32)))]) hx (hb hby d1_17) rfl rfl rfl ?_
          refine Go.goto (q := 3) hx (hb hby d1_20) (by decide) rfl ?_
          refine Go.iloadN (q := 4) hx (hb hby d1_3) rfl rfl ?_
          refine Go.if_le (q := 7) (t := 23) hx (hb hby d1_4) (by decide) rfl rfl (fun hc4_4 => ?_) (fun hc4_4 => absurd hc4_4 (by decide))
          refine Go.iloadN (q := 24) hx (hb hby d1_23) rfl rfl ?_
          refine Go.i2l (q := 25) hx (hb hby d1_24) rfl ?_
          refine Go.retL hx hret hlk (hb hby d1_25) (by decide) (by decide) ?_
          exact ⟨by rw [if_neg hc14, if_neg hc14_1, if_neg hc14_2, if_neg hc14_3]; rfl, rfl⟩
set_option maxRecDepth 65536 in
set_option maxHeartbeats 40000000 in
theorem rmW5 (l : Launch) (Z : State) (a0 : Array Value) (hw : ∀ d ∈ tables_1, d.before a0 Z = true) (a : Addr) (kc : ClassId) (z0 z1 z2 z3 z4 : Int32) (h0 : Heap) (n0 : Nat) (Z0 : n0 ≤ h0.size) (A : Arv Z h0 a kc .byte (5 : Int32) [.int z0, .int z1, .int z2, .int z3, .int z4] (.int (0 : Int32))) :
    Met l Z (⟨"com/example/epithet/epithet/store/RecordFiles", "wholeLinesEnd", "([B)J"⟩ : MethodName) prog_91_method_13_code 2 (Option.some FieldType.long) [] ({ frames := 0, cells := 0, slots := 0, locals := 0 } : Room) #[(.ref a)] h0 n0 (fun v h => v = some (.long (if z4 = (10 : Int32) then (5 : Int64) else if z3 = (10 : Int32) then (4 : Int64) else if z2 = (10 : Int32) then (3 : Int64) else if z1 = (10 : Int32) then (2 : Int64) else if z0 = (10 : Int32) then (1 : Int64) else (0 : Int64))) ∧ h0 = h) := by
  refine Met.of (Ls0 := #[.val (.ref a), .unset]) pl_1 (by first | rfl | simp [argsToLocals, Value.category]) ?_
  intro p e s m below meth c hx hby hml hret hlk hown hnm hZ
  refine Go.aloadN (q := 1) hx (hb hby d1_0) rfl (by rfl) rfl ?_
  refine Go.alen (q := 2) hx hZ A (hb hby d1_1) rfl ?_
  refine Go.istoreN (q := 3) (l' := #[.val (.ref a), .val (.int (5 : Int32))]) hx (hb hby d1_2) rfl rfl ?_
  refine Go.iloadN (q := 4) hx (hb hby d1_3) rfl rfl ?_
  refine Go.if_le (q := 7) (t := 23) hx (hb hby d1_4) (by decide) rfl rfl (fun hc4 => absurd hc4 (by decide)) (fun hc4 => ?_)
  refine Go.aloadN (q := 8) hx (hb hby d1_7) rfl (by rfl) rfl ?_
  refine Go.iloadN (q := 9) hx (hb hby d1_8) rfl rfl ?_
  refine Go.iconst (q := 10) (z := (1 : Int32)) hx (hb hby d1_9) rfl rfl ?_
  refine Go.isub (q := 11) hx (hb hby d1_10) rfl ?_
  refine Go.baload (q := 12) (v := (.int z4)) hx hZ A ⟨by decide, by decide⟩ rfl (hb hby d1_11) rfl ?_
  refine Go.bipush (q := 14) (z := (10 : Int32)) hx (hb hby d1_12) rfl rfl ?_
  refine Go.icmp_eq (q := 17) (t := 23) hx (hb hby d1_14) (by decide) rfl rfl (fun hc14 => ?_) (fun hc14 => ?_)
  · skip
    refine Go.iloadN (q := 24) hx (hb hby d1_23) rfl rfl ?_
    refine Go.i2l (q := 25) hx (hb hby d1_24) rfl ?_
    refine Go.retL hx hret hlk (hb hby d1_25) (by decide) (by decide) ?_
    exact ⟨by rw [if_pos hc14]; rfl, rfl⟩
  · skip
    refine Go.iinc (q := 20) (l' := #[.val (.ref a), .val (.int ((5 : Int32) + (-1 : Int32)))]) hx (hb hby d1_17) rfl rfl rfl ?_
    refine Go.goto (q := 3) hx (hb hby d1_20) (by decide) rfl ?_
    refine Go.iloadN (q := 4) hx (hb hby d1_3) rfl rfl ?_
    refine Go.if_le (q := 7) (t := 23) hx (hb hby d1_4) (by decide) rfl rfl (fun hc4_1 => absurd hc4_1 (by decide)) (fun hc4_1 => ?_)
    refine Go.aloadN (q := 8) hx (hb hby d1_7) rfl (by rfl) rfl ?_
    refine Go.iloadN (q := 9) hx (hb hby d1_8) rfl rfl ?_
    refine Go.iconst (q := 10) (z := (1 : Int32)) hx (hb hby d1_9) rfl rfl ?_
    refine Go.isub (q := 11) hx (hb hby d1_10) rfl ?_
    refine Go.baload (q := 12) (v := (.int z3)) hx hZ A ⟨by decide, by decide⟩ rfl (hb hby d1_11) rfl ?_
    refine Go.bipush (q := 14) (z := (10 : Int32)) hx (hb hby d1_12) rfl rfl ?_
    refine Go.icmp_eq (q := 17) (t := 23) hx (hb hby d1_14) (by decide) rfl rfl (fun hc14_1 => ?_) (fun hc14_1 => ?_)
    · skip
      refine Go.iloadN (q := 24) hx (hb hby d1_23) rfl rfl ?_
      refine Go.i2l (q := 25) hx (hb hby d1_24) rfl ?_
      refine Go.retL hx hret hlk (hb hby d1_25) (by decide) (by decide) ?_
      exact ⟨by rw [if_neg hc14, if_pos hc14_1]; rfl, rfl⟩
    · skip
      refine Go.iinc (q := 20) (l' := #[.val (.ref a), .val (.int (((5 : Int32) + (-1 : Int32)) + (-1 : Int32)))]) hx (hb hby d1_17) rfl rfl rfl ?_
      refine Go.goto (q := 3) hx (hb hby d1_20) (by decide) rfl ?_
      refine Go.iloadN (q := 4) hx (hb hby d1_3) rfl rfl ?_
      refine Go.if_le (q := 7) (t := 23) hx (hb hby d1_4) (by decide) rfl rfl (fun hc4_2 => absurd hc4_2 (by decide)) (fun hc4_2 => ?_)
      refine Go.aloadN (q := 8) hx (hb hby d1_7) rfl (by rfl) rfl ?_
      refine Go.iloadN (q := 9) hx (hb hby d1_8) rfl rfl ?_
      refine Go.iconst (q := 10) (z := (1 : Int32)) hx (hb hby d1_9) rfl rfl ?_
      refine Go.isub (q := 11) hx (hb hby d1_10) rfl ?_
      refine Go.baload (q := 12) (v := (.int z2)) hx hZ A ⟨by decide, by decide⟩ rfl (hb hby d1_11) rfl ?_
      refine Go.bipush (q := 14) (z := (10 : Int32)) hx (hb hby d1_12) rfl rfl ?_
      refine Go.icmp_eq (q := 17) (t := 23) hx (hb hby d1_14) (by decide) rfl rfl (fun hc14_2 => ?_) (fun hc14_2 => ?_)
      · skip
        refine Go.iloadN (q := 24) hx (hb hby d1_23) rfl rfl ?_
        refine Go.i2l (q := 25) hx (hb hby d1_24) rfl ?_
        refine Go.retL hx hret hlk (hb hby d1_25) (by decide) (by decide) ?_
        exact ⟨by rw [if_neg hc14, if_neg hc14_1, if_pos hc14_2]; rfl, rfl⟩
      · skip
        refine Go.iinc (q := 20) (l' := #[.val (.ref a), .val (.int ((((5 : Int32) + (-1 : Int32)) + (-1 : Int32)) + (-1 : Int32)))]) hx (hb hby d1_17) rfl rfl rfl ?_
        refine Go.goto (q := 3) hx (hb hby d1_20) (by decide) rfl ?_
        refine Go.iloadN (q := 4) hx (hb hby d1_3) rfl rfl ?_
        refine Go.if_le (q := 7) (t := 23) hx (hb hby d1_4) (by decide) rfl rfl (fun hc4_3 => absurd hc4_3 (by decide)) (fun hc4_3 => ?_)
        refine Go.aloadN (q := 8) hx (hb hby d1_7) rfl (by rfl) rfl ?_
        refine Go.iloadN (q := 9) hx (hb hby d1_8) rfl rfl ?_
        refine Go.iconst (q := 10) (z := (1 : Int32)) hx (hb hby d1_9) rfl rfl ?_
        refine Go.isub (q := 11) hx (hb hby d1_10) rfl ?_
        refine Go.baload (q := 12) (v := (.int z1)) hx hZ A ⟨by decide, by decide⟩ rfl (hb hby d1_11) rfl ?_
        refine Go.bipush (q := 14) (z := (10 : Int32)) hx (hb hby d1_12) rfl rfl ?_
        refine Go.icmp_eq (q := 17) (t := 23) hx (hb hby d1_14) (by decide) rfl rfl (fun hc14_3 => ?_) (fun hc14_3 => ?_)
        · skip
          refine Go.iloadN (q := 24) hx (hb hby d1_23) rfl rfl ?_
          refine Go.i2l (q := 25) hx (hb hby d1_24) rfl ?_
          refine Go.retL hx hret hlk (hb hby d1_25) (by decide) (by decide) ?_
          exact ⟨by rw [if_neg hc14, if_neg hc14_1, if_neg hc14_2, if_pos hc14_3]; rfl, rfl⟩
        · skip
          refine Go.iinc (q := 20) (l' := #[.val (.ref a), .val (.int (((((5 : Int32) + (-1 : Int32)) + (-1 : Int32)) + (-1 : Int32)) + (-1 : Int32)))]) hx (hb hby d1_17) rfl rfl rfl ?_
          refine Go.goto (q := 3) hx (hb hby d1_20) (by decide) rfl ?_
          refine Go.iloadN (q := 4) hx (hb hby d1_3) rfl rfl ?_
          refine Go.if_le (q := 7) (t := 23) hx (hb hby d1_4) (by decide) rfl rfl (fun hc4_4 => absurd hc4_4 (by decide)) (fun hc4_4 => ?_)
          refine Go.aloadN (q := 8) hx (hb hby d1_7) rfl (by rfl) rfl ?_
          refine Go.iloadN (q := 9) hx (hb hby d1_8) rfl rfl ?_
          refine Go.iconst (q := 10) (z := (1 : Int32)) hx (hb hby d1_9) rfl rfl ?_
          refine Go.isub (q := 11) hx (hb hby d1_10) rfl ?_
          refine Go.baload (q := 12) (v := (.int z0)) hx hZ A ⟨by decide, by decide⟩ rfl (hb hby d1_11) rfl ?_
          refine Go.bipush (q := 14) (z := (10 : Int32)) hx (hb hby d1_12) rfl rfl ?_
          refine Go.icmp_eq (q := 17) (t := 23) hx (hb hby d1_14) (by decide) rfl rfl (fun hc14_4 => ?_) (fun hc14_4 => ?_)
          · skip
            refine Go.iloadN (q := 24) hx (hb hby d1_23) rfl rfl ?_
            refine Go.i2l (q := 25) hx (hb hby d1_24) rfl ?_
            refine Go.retL hx hret hlk (hb hby d1_25) (by decide) (by decide) ?_
            exact ⟨by rw [if_neg hc14, if_neg hc14_1, if_neg hc14_2, if_neg hc14_3, if_pos hc14_4]; rfl, rfl⟩
          · skip
            refine Go.iinc (q := 20) (l' := #[.val (.ref a), .val (.int ((((((5 : Int32) + (-1 : Int32)) + (-1 : Int32)) + (-1 : Int32)) + (-1 : Int32)) + (-1 : Int32)))]) hx (hb hby d1_17) rfl rfl rfl ?_
            refine Go.goto (q := 3) hx (hb hby d1_20) (by decide) rfl ?_
            refine Go.iloadN (q := 4) hx (hb hby d1_3) rfl rfl ?_
            refine Go.if_le (q := 7) (t := 23) hx (hb hby d1_4) (by decide) rfl rfl (fun hc4_5 => ?_) (fun hc4_5 => absurd hc4_5 (by decide))
            refine Go.iloadN (q := 24) hx (hb hby d1_23) rfl rfl ?_
            refine Go.i2l (q := 25) hx (hb hby d1_24) rfl ?_
            refine Go.retL hx hret hlk (hb hby d1_25) (by decide) (by decide) ?_
            exact ⟨by rw [if_neg hc14, if_neg hc14_1, if_neg hc14_2, if_neg hc14_3, if_neg hc14_4]; rfl, rfl⟩
set_option maxRecDepth 65536 in
set_option maxHeartbeats 40000000 in
theorem rmW6 (l : Launch) (Z : State) (a0 : Array Value) (hw : ∀ d ∈ tables_1, d.before a0 Z = true) (a : Addr) (kc : ClassId) (z0 z1 z2 z3 z4 z5 : Int32) (h0 : Heap) (n0 : Nat) (Z0 : n0 ≤ h0.size) (A : Arv Z h0 a kc .byte (6 : Int32) [.int z0, .int z1, .int z2, .int z3, .int z4, .int z5] (.int (0 : Int32))) :
    Met l Z (⟨"com/example/epithet/epithet/store/RecordFiles", "wholeLinesEnd", "([B)J"⟩ : MethodName) prog_91_method_13_code 2 (Option.some FieldType.long) [] ({ frames := 0, cells := 0, slots := 0, locals := 0 } : Room) #[(.ref a)] h0 n0 (fun v h => v = some (.long (if z5 = (10 : Int32) then (6 : Int64) else if z4 = (10 : Int32) then (5 : Int64) else if z3 = (10 : Int32) then (4 : Int64) else if z2 = (10 : Int32) then (3 : Int64) else if z1 = (10 : Int32) then (2 : Int64) else if z0 = (10 : Int32) then (1 : Int64) else (0 : Int64))) ∧ h0 = h) := by
  refine Met.of (Ls0 := #[.val (.ref a), .unset]) pl_1 (by first | rfl | simp [argsToLocals, Value.category]) ?_
  intro p e s m below meth c hx hby hml hret hlk hown hnm hZ
  refine Go.aloadN (q := 1) hx (hb hby d1_0) rfl (by rfl) rfl ?_
  refine Go.alen (q := 2) hx hZ A (hb hby d1_1) rfl ?_
  refine Go.istoreN (q := 3) (l' := #[.val (.ref a), .val (.int (6 : Int32))]) hx (hb hby d1_2) rfl rfl ?_
  refine Go.iloadN (q := 4) hx (hb hby d1_3) rfl rfl ?_
  refine Go.if_le (q := 7) (t := 23) hx (hb hby d1_4) (by decide) rfl rfl (fun hc4 => absurd hc4 (by decide)) (fun hc4 => ?_)
  refine Go.aloadN (q := 8) hx (hb hby d1_7) rfl (by rfl) rfl ?_
  refine Go.iloadN (q := 9) hx (hb hby d1_8) rfl rfl ?_
  refine Go.iconst (q := 10) (z := (1 : Int32)) hx (hb hby d1_9) rfl rfl ?_
  refine Go.isub (q := 11) hx (hb hby d1_10) rfl ?_
  refine Go.baload (q := 12) (v := (.int z5)) hx hZ A ⟨by decide, by decide⟩ rfl (hb hby d1_11) rfl ?_
  refine Go.bipush (q := 14) (z := (10 : Int32)) hx (hb hby d1_12) rfl rfl ?_
  refine Go.icmp_eq (q := 17) (t := 23) hx (hb hby d1_14) (by decide) rfl rfl (fun hc14 => ?_) (fun hc14 => ?_)
  · skip
    refine Go.iloadN (q := 24) hx (hb hby d1_23) rfl rfl ?_
    refine Go.i2l (q := 25) hx (hb hby d1_24) rfl ?_
    refine Go.retL hx hret hlk (hb hby d1_25) (by decide) (by decide) ?_
    exact ⟨by rw [if_pos hc14]; rfl, rfl⟩
  · skip
    refine Go.iinc (q := 20) (l' := #[.val (.ref a), .val (.int ((6 : Int32) + (-1 : Int32)))]) hx (hb hby d1_17) rfl rfl rfl ?_
    refine Go.goto (q := 3) hx (hb hby d1_20) (by decide) rfl ?_
    refine Go.iloadN (q := 4) hx (hb hby d1_3) rfl rfl ?_
    refine Go.if_le (q := 7) (t := 23) hx (hb hby d1_4) (by decide) rfl rfl (fun hc4_1 => absurd hc4_1 (by decide)) (fun hc4_1 => ?_)
    refine Go.aloadN (q := 8) hx (hb hby d1_7) rfl (by rfl) rfl ?_
    refine Go.iloadN (q := 9) hx (hb hby d1_8) rfl rfl ?_
    refine Go.iconst (q := 10) (z := (1 : Int32)) hx (hb hby d1_9) rfl rfl ?_
    refine Go.isub (q := 11) hx (hb hby d1_10) rfl ?_
    refine Go.baload (q := 12) (v := (.int z4)) hx hZ A ⟨by decide, by decide⟩ rfl (hb hby d1_11) rfl ?_
    refine Go.bipush (q := 14) (z := (10 : Int32)) hx (hb hby d1_12) rfl rfl ?_
    refine Go.icmp_eq (q := 17) (t := 23) hx (hb hby d1_14) (by decide) rfl rfl (fun hc14_1 => ?_) (fun hc14_1 => ?_)
    · skip
      refine Go.iloadN (q := 24) hx (hb hby d1_23) rfl rfl ?_
      refine Go.i2l (q := 25) hx (hb hby d1_24) rfl ?_
      refine Go.retL hx hret hlk (hb hby d1_25) (by decide) (by decide) ?_
      exact ⟨by rw [if_neg hc14, if_pos hc14_1]; rfl, rfl⟩
    · skip
      refine Go.iinc (q := 20) (l' := #[.val (.ref a), .val (.int (((6 : Int32) + (-1 : Int32)) + (-1 : Int32)))]) hx (hb hby d1_17) rfl rfl rfl ?_
      refine Go.goto (q := 3) hx (hb hby d1_20) (by decide) rfl ?_
      refine Go.iloadN (q := 4) hx (hb hby d1_3) rfl rfl ?_
      refine Go.if_le (q := 7) (t := 23) hx (hb hby d1_4) (by decide) rfl rfl (fun hc4_2 => absurd hc4_2 (by decide)) (fun hc4_2 => ?_)
      refine Go.aloadN (q := 8) hx (hb hby d1_7) rfl (by rfl) rfl ?_
      refine Go.iloadN (q := 9) hx (hb hby d1_8) rfl rfl ?_
      refine Go.iconst (q := 10) (z := (1 : Int32)) hx (hb hby d1_9) rfl rfl ?_
      refine Go.isub (q := 11) hx (hb hby d1_10) rfl ?_
      refine Go.baload (q := 12) (v := (.int z3)) hx hZ A ⟨by decide, by decide⟩ rfl (hb hby d1_11) rfl ?_
      refine Go.bipush (q := 14) (z := (10 : Int32)) hx (hb hby d1_12) rfl rfl ?_
      refine Go.icmp_eq (q := 17) (t := 23) hx (hb hby d1_14) (by decide) rfl rfl (fun hc14_2 => ?_) (fun hc14_2 => ?_)
      · skip
        refine Go.iloadN (q := 24) hx (hb hby d1_23) rfl rfl ?_
        refine Go.i2l (q := 25) hx (hb hby d1_24) rfl ?_
        refine Go.retL hx hret hlk (hb hby d1_25) (by decide) (by decide) ?_
        exact ⟨by rw [if_neg hc14, if_neg hc14_1, if_pos hc14_2]; rfl, rfl⟩
      · skip
        refine Go.iinc (q := 20) (l' := #[.val (.ref a), .val (.int ((((6 : Int32) + (-1 : Int32)) + (-1 : Int32)) + (-1 : Int32)))]) hx (hb hby d1_17) rfl rfl rfl ?_
        refine Go.goto (q := 3) hx (hb hby d1_20) (by decide) rfl ?_
        refine Go.iloadN (q := 4) hx (hb hby d1_3) rfl rfl ?_
        refine Go.if_le (q := 7) (t := 23) hx (hb hby d1_4) (by decide) rfl rfl (fun hc4_3 => absurd hc4_3 (by decide)) (fun hc4_3 => ?_)
        refine Go.aloadN (q := 8) hx (hb hby d1_7) rfl (by rfl) rfl ?_
        refine Go.iloadN (q := 9) hx (hb hby d1_8) rfl rfl ?_
        refine Go.iconst (q := 10) (z := (1 : Int32)) hx (hb hby d1_9) rfl rfl ?_
        refine Go.isub (q := 11) hx (hb hby d1_10) rfl ?_
        refine Go.baload (q := 12) (v := (.int z2)) hx hZ A ⟨by decide, by decide⟩ rfl (hb hby d1_11) rfl ?_
        refine Go.bipush (q := 14) (z := (10 : Int32)) hx (hb hby d1_12) rfl rfl ?_
        refine Go.icmp_eq (q := 17) (t := 23) hx (hb hby d1_14) (by decide) rfl rfl (fun hc14_3 => ?_) (fun hc14_3 => ?_)
        · skip
          refine Go.iloadN (q := 24) hx (hb hby d1_23) rfl rfl ?_
          refine Go.i2l (q := 25) hx (hb hby d1_24) rfl ?_
          refine Go.retL hx hret hlk (hb hby d1_25) (by decide) (by decide) ?_
          exact ⟨by rw [if_neg hc14, if_neg hc14_1, if_neg hc14_2, if_pos hc14_3]; rfl, rfl⟩
        · skip
          refine Go.iinc (q := 20) (l' := #[.val (.ref a), .val (.int (((((6 : Int32) + (-1 : Int32)) + (-1 : Int32)) + (-1 : Int32)) + (-1 : Int32)))]) hx (hb hby d1_17) rfl rfl rfl ?_
          refine Go.goto (q := 3) hx (hb hby d1_20) (by decide) rfl ?_
          refine Go.iloadN (q := 4) hx (hb hby d1_3) rfl rfl ?_
          refine Go.if_le (q := 7) (t := 23) hx (hb hby d1_4) (by decide) rfl rfl (fun hc4_4 => absurd hc4_4 (by decide)) (fun hc4_4 => ?_)
          refine Go.aloadN (q := 8) hx (hb hby d1_7) rfl (by rfl) rfl ?_
          refine Go.iloadN (q := 9) hx (hb hby d1_8) rfl rfl ?_
          refine Go.iconst (q := 10) (z := (1 : Int32)) hx (hb hby d1_9) rfl rfl ?_
          refine Go.isub (q := 11) hx (hb hby d1_10) rfl ?_
          refine Go.baload (q := 12) (v := (.int z1)) hx hZ A ⟨by decide, by decide⟩ rfl (hb hby d1_11) rfl ?_
          refine Go.bipush (q := 14) (z := (10 : Int32)) hx (hb hby d1_12) rfl rfl ?_
          refine Go.icmp_eq (q := 17) (t := 23) hx (hb hby d1_14) (by decide) rfl rfl (fun hc14_4 => ?_) (fun hc14_4 => ?_)
          · skip
            refine Go.iloadN (q := 24) hx (hb hby d1_23) rfl rfl ?_
            refine Go.i2l (q := 25) hx (hb hby d1_24) rfl ?_
            refine Go.retL hx hret hlk (hb hby d1_25) (by decide) (by decide) ?_
            exact ⟨by rw [if_neg hc14, if_neg hc14_1, if_neg hc14_2, if_neg hc14_3, if_pos hc14_4]; rfl, rfl⟩
          · skip
            refine Go.iinc (q := 20) (l' := #[.val (.ref a), .val (.int ((((((6 : Int32) + (-1 : Int32)) + (-1 : Int32)) + (-1 : Int32)) + (-1 : Int32)) + (-1 : Int32)))]) hx (hb hby d1_17) rfl rfl rfl ?_
            refine Go.goto (q := 3) hx (hb hby d1_20) (by decide) rfl ?_
            refine Go.iloadN (q := 4) hx (hb hby d1_3) rfl rfl ?_
            refine Go.if_le (q := 7) (t := 23) hx (hb hby d1_4) (by decide) rfl rfl (fun hc4_5 => absurd hc4_5 (by decide)) (fun hc4_5 => ?_)
            refine Go.aloadN (q := 8) hx (hb hby d1_7) rfl (by rfl) rfl ?_
            refine Go.iloadN (q := 9) hx (hb hby d1_8) rfl rfl ?_
            refine Go.iconst (q := 10) (z := (1 : Int32)) hx (hb hby d1_9) rfl rfl ?_
            refine Go.isub (q := 11) hx (hb hby d1_10) rfl ?_
            refine Go.baload (q := 12) (v := (.int z0)) hx hZ A ⟨by decide, by decide⟩ rfl (hb hby d1_11) rfl ?_
            refine Go.bipush (q := 14) (z := (10 : Int32)) hx (hb hby d1_12) rfl rfl ?_
            refine Go.icmp_eq (q := 17) (t := 23) hx (hb hby d1_14) (by decide) rfl rfl (fun hc14_5 => ?_) (fun hc14_5 => ?_)
            · skip
              refine Go.iloadN (q := 24) hx (hb hby d1_23) rfl rfl ?_
              refine Go.i2l (q := 25) hx (hb hby d1_24) rfl ?_
              refine Go.retL hx hret hlk (hb hby d1_25) (by decide) (by decide) ?_
              exact ⟨by rw [if_neg hc14, if_neg hc14_1, if_neg hc14_2, if_neg hc14_3, if_neg hc14_4, if_pos hc14_5]; rfl, rfl⟩
            · skip
              refine Go.iinc (q := 20) (l' := #[.val (.ref a), .val (.int (((((((6 : Int32) + (-1 : Int32)) + (-1 : Int32)) + (-1 : Int32)) + (-1 : Int32)) + (-1 : Int32)) + (-1 : Int32)))]) hx (hb hby d1_17) rfl rfl rfl ?_
              refine Go.goto (q := 3) hx (hb hby d1_20) (by decide) rfl ?_
              refine Go.iloadN (q := 4) hx (hb hby d1_3) rfl rfl ?_
              refine Go.if_le (q := 7) (t := 23) hx (hb hby d1_4) (by decide) rfl rfl (fun hc4_6 => ?_) (fun hc4_6 => absurd hc4_6 (by decide))
              refine Go.iloadN (q := 24) hx (hb hby d1_23) rfl rfl ?_
              refine Go.i2l (q := 25) hx (hb hby d1_24) rfl ?_
              refine Go.retL hx hret hlk (hb hby d1_25) (by decide) (by decide) ?_
              exact ⟨by rw [if_neg hc14, if_neg hc14_1, if_neg hc14_2, if_neg hc14_3, if_neg hc14_4, if_neg hc14_5]; rfl, rfl⟩
theorem pl_2 : plainFor (⟨"com/example/epithet/epithet/store/RecordFilesWholeLinesEndPinLaw", "law", "(IJI)Z"⟩ : MethodName) = true := plainFor_of_name (by first | (simp [plainName, overriddenIn]; done) | decide +kernel)
theorem pd_0 : parseMethodDescriptor "(JII)B" = some ⟨[.long, .int, .int], some .byte⟩ := by decide +kernel
theorem pd_1 : parseMethodDescriptor "([B)J" = some ⟨[(.array .byte)], some .long⟩ := by decide +kernel
set_option maxRecDepth 65536 in
set_option maxHeartbeats 40000000 in
theorem rm0 (l : Launch) (Z : State) (a0 : Array Value) (hw : ∀ d ∈ tables_1, d.before a0 Z = true) (p1 : Int32) (pb : Int64) (p3 : Int32) (h0 : Heap) (n0 : Nat) (Z0 : n0 ≤ h0.size)  :
    Met l Z x code maxLocals ret tables_1 room_1 #[(.int p1), (.long pb), (.int p3)] h0 n0 (fun v h => v = some (.int 1)) := by
  refine Met.of (Ls0 := #[.val (.int p1), .val (.long pb), .second, .val (.int p3), .unset, .unset, .unset, .unset, .unset, .unset, .unset, .unset, .unset, .unset]) pl_2 (by first | rfl | simp [argsToLocals, Value.category]) ?_
  intro p e s m below meth c hx hby hml hret hlk hown hnm hZ
  refine Go.iloadN (q := 1) hx (hb hby at_0) rfl rfl ?_
  refine Go.ldcInt (q := 3) hx hZ hown (hw _ (List.mem_of_getElem? (i := 0) rfl)) (hb hby at_1) rfl ?_
  refine Go.iand (q := 4) hx (hb hby at_3) rfl ?_
  refine Go.bipush (q := 6) (z := (7 : Int32)) hx (hb hby at_4) rfl rfl ?_
  refine Go.irem (q := 7) hx (hb hby at_6) (by decide) rfl ?_
  have hk1 : (p1 &&& (2147483647 : Int32)) % (7 : Int32) = (0 : Int32) ∨ (p1 &&& (2147483647 : Int32)) % (7 : Int32) = (1 : Int32) ∨ (p1 &&& (2147483647 : Int32)) % (7 : Int32) = (2 : Int32) ∨ (p1 &&& (2147483647 : Int32)) % (7 : Int32) = (3 : Int32) ∨ (p1 &&& (2147483647 : Int32)) % (7 : Int32) = (4 : Int32) ∨ (p1 &&& (2147483647 : Int32)) % (7 : Int32) = (5 : Int32) ∨ (p1 &&& (2147483647 : Int32)) % (7 : Int32) = (6 : Int32) := rem7 p1
  rcases hk1 with hk1 | hk1 | hk1 | hk1 | hk1 | hk1 | hk1
  · rw [hk1]
    refine Go.istore (q := 9) (l' := #[.val (.int p1), .val (.long pb), .second, .val (.int p3), .val (.int (0 : Int32)), .unset, .unset, .unset, .unset, .unset, .unset, .unset, .unset, .unset]) hx (hb hby at_7) rfl rfl ?_
    refine Go.lloadN (q := 10) hx (hb hby at_9) rfl rfl ?_
    refine Go.iloadN (q := 11) hx (hb hby at_10) rfl rfl ?_
    refine Go.iconst (q := 12) (z := (0 : Int32)) hx (hb hby at_11) rfl rfl ?_
    refine Go.callS (q := 15) hx hZ (argsL := [(.long pb), (.int p3), (.int (0 : Int32))]) (rest := []) hown (hw _ (List.mem_of_getElem? (i := 1) rfl)) (hw _ (List.mem_of_getElem? (i := 2) rfl)) (hw _ (List.mem_of_getElem? (i := 3) rfl)) (hw _ (List.mem_of_getElem? (i := 4) rfl)) (by decide) (rmAt l Z a0 hw pb p3 (0 : Int32) h0 n0 Z0) (by rw [hml]; rfl) pd_0 rfl rfl (hb hby at_12) rfl (by decide) (Nat.le_of_ble_eq_true rfl) (ce' := 0) (sl' := 0) rfl rfl (by decide) (by decide) (fun v2 h3 hQ4 => ?_)
    obtain ⟨b0, rfl, nb0, rfl⟩ := hQ4
    show Go _ _ _ _ _ _ _ _ _ _ _ _ _ _ _ 0 0 15 #[.val (.int p1), .val (.long pb), .second, .val (.int p3), .val (.int (0 : Int32)), .unset, .unset, .unset, .unset, .unset, .unset, .unset, .unset, .unset] [(.int b0)]
    refine Go.istore (q := 17) (l' := #[.val (.int p1), .val (.long pb), .second, .val (.int p3), .val (.int (0 : Int32)), .val (.int b0), .unset, .unset, .unset, .unset, .unset, .unset, .unset, .unset]) hx (hb hby at_15) rfl rfl ?_
    refine Go.lloadN (q := 18) hx (hb hby at_17) rfl rfl ?_
    refine Go.iloadN (q := 19) hx (hb hby at_18) rfl rfl ?_
    refine Go.iconst (q := 20) (z := (1 : Int32)) hx (hb hby at_19) rfl rfl ?_
    refine Go.callS (q := 23) hx hZ (argsL := [(.long pb), (.int p3), (.int (1 : Int32))]) (rest := []) hown (hw _ (List.mem_of_getElem? (i := 1) rfl)) (hw _ (List.mem_of_getElem? (i := 2) rfl)) (hw _ (List.mem_of_getElem? (i := 3) rfl)) (hw _ (List.mem_of_getElem? (i := 4) rfl)) (by decide) (rmAt l Z a0 hw pb p3 (1 : Int32) h0 n0 Z0) (by rw [hml]; rfl) pd_0 rfl rfl (hb hby at_20) rfl (by decide) (Nat.le_of_ble_eq_true rfl) (ce' := 0) (sl' := 0) rfl rfl (by decide) (by decide) (fun v5 h6 hQ7 => ?_)
    obtain ⟨b1, rfl, nb1, rfl⟩ := hQ7
    show Go _ _ _ _ _ _ _ _ _ _ _ _ _ _ _ 0 0 23 #[.val (.int p1), .val (.long pb), .second, .val (.int p3), .val (.int (0 : Int32)), .val (.int b0), .unset, .unset, .unset, .unset, .unset, .unset, .unset, .unset] [(.int b1)]
    refine Go.istore (q := 25) (l' := #[.val (.int p1), .val (.long pb), .second, .val (.int p3), .val (.int (0 : Int32)), .val (.int b0), .val (.int b1), .unset, .unset, .unset, .unset, .unset, .unset, .unset]) hx (hb hby at_23) rfl rfl ?_
    refine Go.lloadN (q := 26) hx (hb hby at_25) rfl rfl ?_
    refine Go.iloadN (q := 27) hx (hb hby at_26) rfl rfl ?_
    refine Go.iconst (q := 28) (z := (2 : Int32)) hx (hb hby at_27) rfl rfl ?_
    refine Go.callS (q := 31) hx hZ (argsL := [(.long pb), (.int p3), (.int (2 : Int32))]) (rest := []) hown (hw _ (List.mem_of_getElem? (i := 1) rfl)) (hw _ (List.mem_of_getElem? (i := 2) rfl)) (hw _ (List.mem_of_getElem? (i := 3) rfl)) (hw _ (List.mem_of_getElem? (i := 4) rfl)) (by decide) (rmAt l Z a0 hw pb p3 (2 : Int32) h0 n0 Z0) (by rw [hml]; rfl) pd_0 rfl rfl (hb hby at_28) rfl (by decide) (Nat.le_of_ble_eq_true rfl) (ce' := 0) (sl' := 0) rfl rfl (by decide) (by decide) (fun v8 h9 hQ10 => ?_)
    obtain ⟨b2, rfl, nb2, rfl⟩ := hQ10
    show Go _ _ _ _ _ _ _ _ _ _ _ _ _ _ _ 0 0 31 #[.val (.int p1), .val (.long pb), .second, .val (.int p3), .val (.int (0 : Int32)), .val (.int b0), .val (.int b1), .unset, .unset, .unset, .unset, .unset, .unset, .unset] [(.int b2)]
    refine Go.istore (q := 33) (l' := #[.val (.int p1), .val (.long pb), .second, .val (.int p3), .val (.int (0 : Int32)), .val (.int b0), .val (.int b1), .val (.int b2), .unset, .unset, .unset, .unset, .unset, .unset]) hx (hb hby at_31) rfl rfl ?_
    refine Go.lloadN (q := 34) hx (hb hby at_33) rfl rfl ?_
    refine Go.iloadN (q := 35) hx (hb hby at_34) rfl rfl ?_
    refine Go.iconst (q := 36) (z := (3 : Int32)) hx (hb hby at_35) rfl rfl ?_
    refine Go.callS (q := 39) hx hZ (argsL := [(.long pb), (.int p3), (.int (3 : Int32))]) (rest := []) hown (hw _ (List.mem_of_getElem? (i := 1) rfl)) (hw _ (List.mem_of_getElem? (i := 2) rfl)) (hw _ (List.mem_of_getElem? (i := 3) rfl)) (hw _ (List.mem_of_getElem? (i := 4) rfl)) (by decide) (rmAt l Z a0 hw pb p3 (3 : Int32) h0 n0 Z0) (by rw [hml]; rfl) pd_0 rfl rfl (hb hby at_36) rfl (by decide) (Nat.le_of_ble_eq_true rfl) (ce' := 0) (sl' := 0) rfl rfl (by decide) (by decide) (fun v11 h12 hQ13 => ?_)
    obtain ⟨b3, rfl, nb3, rfl⟩ := hQ13
    show Go _ _ _ _ _ _ _ _ _ _ _ _ _ _ _ 0 0 39 #[.val (.int p1), .val (.long pb), .second, .val (.int p3), .val (.int (0 : Int32)), .val (.int b0), .val (.int b1), .val (.int b2), .unset, .unset, .unset, .unset, .unset, .unset] [(.int b3)]
    refine Go.istore (q := 41) (l' := #[.val (.int p1), .val (.long pb), .second, .val (.int p3), .val (.int (0 : Int32)), .val (.int b0), .val (.int b1), .val (.int b2), .val (.int b3), .unset, .unset, .unset, .unset, .unset]) hx (hb hby at_39) rfl rfl ?_
    refine Go.lloadN (q := 42) hx (hb hby at_41) rfl rfl ?_
    refine Go.iloadN (q := 43) hx (hb hby at_42) rfl rfl ?_
    refine Go.iconst (q := 44) (z := (4 : Int32)) hx (hb hby at_43) rfl rfl ?_
    refine Go.callS (q := 47) hx hZ (argsL := [(.long pb), (.int p3), (.int (4 : Int32))]) (rest := []) hown (hw _ (List.mem_of_getElem? (i := 1) rfl)) (hw _ (List.mem_of_getElem? (i := 2) rfl)) (hw _ (List.mem_of_getElem? (i := 3) rfl)) (hw _ (List.mem_of_getElem? (i := 4) rfl)) (by decide) (rmAt l Z a0 hw pb p3 (4 : Int32) h0 n0 Z0) (by rw [hml]; rfl) pd_0 rfl rfl (hb hby at_44) rfl (by decide) (Nat.le_of_ble_eq_true rfl) (ce' := 0) (sl' := 0) rfl rfl (by decide) (by decide) (fun v14 h15 hQ16 => ?_)
    obtain ⟨b4, rfl, nb4, rfl⟩ := hQ16
    show Go _ _ _ _ _ _ _ _ _ _ _ _ _ _ _ 0 0 47 #[.val (.int p1), .val (.long pb), .second, .val (.int p3), .val (.int (0 : Int32)), .val (.int b0), .val (.int b1), .val (.int b2), .val (.int b3), .unset, .unset, .unset, .unset, .unset] [(.int b4)]
    refine Go.istore (q := 49) (l' := #[.val (.int p1), .val (.long pb), .second, .val (.int p3), .val (.int (0 : Int32)), .val (.int b0), .val (.int b1), .val (.int b2), .val (.int b3), .val (.int b4), .unset, .unset, .unset, .unset]) hx (hb hby at_47) rfl rfl ?_
    refine Go.lloadN (q := 50) hx (hb hby at_49) rfl rfl ?_
    refine Go.iloadN (q := 51) hx (hb hby at_50) rfl rfl ?_
    refine Go.iconst (q := 52) (z := (5 : Int32)) hx (hb hby at_51) rfl rfl ?_
    refine Go.callS (q := 55) hx hZ (argsL := [(.long pb), (.int p3), (.int (5 : Int32))]) (rest := []) hown (hw _ (List.mem_of_getElem? (i := 1) rfl)) (hw _ (List.mem_of_getElem? (i := 2) rfl)) (hw _ (List.mem_of_getElem? (i := 3) rfl)) (hw _ (List.mem_of_getElem? (i := 4) rfl)) (by decide) (rmAt l Z a0 hw pb p3 (5 : Int32) h0 n0 Z0) (by rw [hml]; rfl) pd_0 rfl rfl (hb hby at_52) rfl (by decide) (Nat.le_of_ble_eq_true rfl) (ce' := 0) (sl' := 0) rfl rfl (by decide) (by decide) (fun v17 h18 hQ19 => ?_)
    obtain ⟨b5, rfl, nb5, rfl⟩ := hQ19
    show Go _ _ _ _ _ _ _ _ _ _ _ _ _ _ _ 0 0 55 #[.val (.int p1), .val (.long pb), .second, .val (.int p3), .val (.int (0 : Int32)), .val (.int b0), .val (.int b1), .val (.int b2), .val (.int b3), .val (.int b4), .unset, .unset, .unset, .unset] [(.int b5)]
    refine Go.istore (q := 57) (l' := #[.val (.int p1), .val (.long pb), .second, .val (.int p3), .val (.int (0 : Int32)), .val (.int b0), .val (.int b1), .val (.int b2), .val (.int b3), .val (.int b4), .val (.int b5), .unset, .unset, .unset]) hx (hb hby at_55) rfl rfl ?_
    refine Go.iload (q := 59) hx (hb hby at_57) rfl rfl ?_
    refine Go.newP (q := 61) (cap := 0) hx hZ (hw _ (List.mem_of_getElem? (i := 5) rfl)) (by decide) (by decide) (hb hby at_59) rfl (by decide) (ce' := 1) (sl' := 0) rfl rfl (by decide) (by decide) (fun h20 a21 k22 g23 E24 A25 => ?_)
    have gz26 : n0 ≤ a21 := by rw [g23]; exact Z0
    have V27 : Arv Z h20 a21 k22 .byte (0 : Int32) [] (.int (0 : Int32)) := A25.pad (pad_rep [] (.int (0 : Int32)) 0)
    refine Go.astore (q := 63) (l' := #[.val (.int p1), .val (.long pb), .second, .val (.int p3), .val (.int (0 : Int32)), .val (.int b0), .val (.int b1), .val (.int b2), .val (.int b3), .val (.int b4), .val (.int b5), .val (.ref a21), .unset, .unset]) hx (hb hby at_61) (by rfl) rfl rfl ?_
    refine Go.iload (q := 65) hx (hb hby at_63) rfl rfl ?_
    refine Go.if_le (q := 68) (t := 74) hx (hb hby at_65) (by decide) rfl rfl (fun hc65 => ?_) (fun hc65 => absurd hc65 (by decide))
    refine Go.iload (q := 76) hx (hb hby at_74) rfl rfl ?_
    refine Go.iconst (q := 77) (z := (1 : Int32)) hx (hb hby at_76) rfl rfl ?_
    refine Go.icmp_le (q := 80) (t := 86) hx (hb hby at_77) (by decide) rfl rfl (fun hc77 => ?_) (fun hc77 => absurd hc77 (by decide))
    refine Go.iload (q := 88) hx (hb hby at_86) rfl rfl ?_
    refine Go.iconst (q := 89) (z := (2 : Int32)) hx (hb hby at_88) rfl rfl ?_
    refine Go.icmp_le (q := 92) (t := 98) hx (hb hby at_89) (by decide) rfl rfl (fun hc89 => ?_) (fun hc89 => absurd hc89 (by decide))
    refine Go.iload (q := 100) hx (hb hby at_98) rfl rfl ?_
    refine Go.iconst (q := 101) (z := (3 : Int32)) hx (hb hby at_100) rfl rfl ?_
    refine Go.icmp_le (q := 104) (t := 110) hx (hb hby at_101) (by decide) rfl rfl (fun hc101 => ?_) (fun hc101 => absurd hc101 (by decide))
    refine Go.iload (q := 112) hx (hb hby at_110) rfl rfl ?_
    refine Go.iconst (q := 113) (z := (4 : Int32)) hx (hb hby at_112) rfl rfl ?_
    refine Go.icmp_le (q := 116) (t := 122) hx (hb hby at_113) (by decide) rfl rfl (fun hc113 => ?_) (fun hc113 => absurd hc113 (by decide))
    refine Go.iload (q := 124) hx (hb hby at_122) rfl rfl ?_
    refine Go.iconst (q := 125) (z := (5 : Int32)) hx (hb hby at_124) rfl rfl ?_
    refine Go.icmp_le (q := 128) (t := 134) hx (hb hby at_125) (by decide) rfl rfl (fun hc125 => ?_) (fun hc125 => absurd hc125 (by decide))
    refine Go.iload (q := 136) hx (hb hby at_134) rfl rfl ?_
    refine Go.iconst (q := 137) (z := (5 : Int32)) hx (hb hby at_136) rfl rfl ?_
    refine Go.icmp_le (q := 140) (t := 155) hx (hb hby at_137) (by decide) rfl rfl (fun hc137 => ?_) (fun hc137 => absurd hc137 (by decide))
    refine Go.iload (q := 157) hx (hb hby at_155) rfl rfl ?_
    refine Go.iconst (q := 158) (z := (4 : Int32)) hx (hb hby at_157) rfl rfl ?_
    refine Go.icmp_le (q := 161) (t := 176) hx (hb hby at_158) (by decide) rfl rfl (fun hc158 => ?_) (fun hc158 => absurd hc158 (by decide))
    refine Go.iload (q := 178) hx (hb hby at_176) rfl rfl ?_
    refine Go.iconst (q := 179) (z := (3 : Int32)) hx (hb hby at_178) rfl rfl ?_
    refine Go.icmp_le (q := 182) (t := 197) hx (hb hby at_179) (by decide) rfl rfl (fun hc179 => ?_) (fun hc179 => absurd hc179 (by decide))
    refine Go.iload (q := 199) hx (hb hby at_197) rfl rfl ?_
    refine Go.iconst (q := 200) (z := (2 : Int32)) hx (hb hby at_199) rfl rfl ?_
    refine Go.icmp_le (q := 203) (t := 218) hx (hb hby at_200) (by decide) rfl rfl (fun hc200 => ?_) (fun hc200 => absurd hc200 (by decide))
    refine Go.iload (q := 220) hx (hb hby at_218) rfl rfl ?_
    refine Go.iconst (q := 221) (z := (1 : Int32)) hx (hb hby at_220) rfl rfl ?_
    refine Go.icmp_le (q := 224) (t := 239) hx (hb hby at_221) (by decide) rfl rfl (fun hc221 => ?_) (fun hc221 => absurd hc221 (by decide))
    refine Go.iload (q := 241) hx (hb hby at_239) rfl rfl ?_
    refine Go.if_le (q := 244) (t := 257) hx (hb hby at_241) (by decide) rfl rfl (fun hc241 => ?_) (fun hc241 => absurd hc241 (by decide))
    refine Go.lconst (q := 258) (z := (0 : Int64)) hx (hb hby at_257) rfl rfl ?_
    refine Go.lstore (q := 260) (l' := #[.val (.int p1), .val (.long pb), .second, .val (.int p3), .val (.int (0 : Int32)), .val (.int b0), .val (.int b1), .val (.int b2), .val (.int b3), .val (.int b4), .val (.int b5), .val (.ref a21), .val (.long (0 : Int64)), .second]) hx (hb hby at_258) rfl rfl ?_
    refine Go.aload (q := 262) hx (hb hby at_260) rfl (by rfl) rfl ?_
    refine Go.callS (q := 265) hx hZ (argsL := [(.ref a21)]) (rest := []) hown (hw _ (List.mem_of_getElem? (i := 6) rfl)) (hw _ (List.mem_of_getElem? (i := 7) rfl)) (hw _ (List.mem_of_getElem? (i := 8) rfl)) (hw _ (List.mem_of_getElem? (i := 9) rfl)) (by decide) (rmW0 l Z a0 hw a21 k22  h20 n0 (Nat.le_trans Z0 E24.1) V27) (by rw [hml]; rfl) pd_1 rfl rfl (hb hby at_262) rfl (by decide) (Nat.le_of_ble_eq_true rfl) (ce' := 1) (sl' := 0) rfl rfl (by decide) (by decide) (fun v28 h29 hQ30 => ?_)
    obtain ⟨rfl, rfl⟩ := hQ30
    show Go _ _ _ _ _ _ _ _ _ _ _ _ _ _ _ 1 0 265 #[.val (.int p1), .val (.long pb), .second, .val (.int p3), .val (.int (0 : Int32)), .val (.int b0), .val (.int b1), .val (.int b2), .val (.int b3), .val (.int b4), .val (.int b5), .val (.ref a21), .val (.long (0 : Int64)), .second] [(.long ((0 : Int64)))]
    refine Go.lload (q := 267) hx (hb hby at_265) rfl rfl ?_
    refine Go.lcmp (q := 268) hx (hb hby at_267) rfl ?_
    refine Go.if_ne (q := 271) (t := 275) hx (hb hby at_268) (by decide) rfl rfl (fun hc268 => absurd ((cmpL_eq _ _).mpr (by rfl)) hc268) (fun hc268 => ?_)
    refine Go.iconst (q := 272) (z := (1 : Int32)) hx (hb hby at_271) rfl rfl ?_
    refine Go.goto (q := 276) hx (hb hby at_272) (by decide) rfl ?_
    refine Go.retN hx (t := .boolean) hret (by simp) hlk (hb hby at_276) (by decide) (by decide) ?_
    rfl
  · rw [hk1]
    refine Go.istore (q := 9) (l' := #[.val (.int p1), .val (.long pb), .second, .val (.int p3), .val (.int (1 : Int32)), .unset, .unset, .unset, .unset, .unset, .unset, .unset, .unset, .unset]) hx (hb hby at_7) rfl rfl ?_
    refine Go.lloadN (q := 10) hx (hb hby at_9) rfl rfl ?_
    refine Go.iloadN (q := 11) hx (hb hby at_10) rfl rfl ?_
    refine Go.iconst (q := 12) (z := (0 : Int32)) hx (hb hby at_11) rfl rfl ?_
    refine Go.callS (q := 15) hx hZ (argsL := [(.long pb), (.int p3), (.int (0 : Int32))]) (rest := []) hown (hw _ (List.mem_of_getElem? (i := 1) rfl)) (hw _ (List.mem_of_getElem? (i := 2) rfl)) (hw _ (List.mem_of_getElem? (i := 3) rfl)) (hw _ (List.mem_of_getElem? (i := 4) rfl)) (by decide) (rmAt l Z a0 hw pb p3 (0 : Int32) h0 n0 Z0) (by rw [hml]; rfl) pd_0 rfl rfl (hb hby at_12) rfl (by decide) (Nat.le_of_ble_eq_true rfl) (ce' := 0) (sl' := 0) rfl rfl (by decide) (by decide) (fun v31 h32 hQ33 => ?_)
    obtain ⟨b0, rfl, nb0, rfl⟩ := hQ33
    show Go _ _ _ _ _ _ _ _ _ _ _ _ _ _ _ 0 0 15 #[.val (.int p1), .val (.long pb), .second, .val (.int p3), .val (.int (1 : Int32)), .unset, .unset, .unset, .unset, .unset, .unset, .unset, .unset, .unset] [(.int b0)]
    refine Go.istore (q := 17) (l' := #[.val (.int p1), .val (.long pb), .second, .val (.int p3), .val (.int (1 : Int32)), .val (.int b0), .unset, .unset, .unset, .unset, .unset, .unset, .unset, .unset]) hx (hb hby at_15) rfl rfl ?_
    refine Go.lloadN (q := 18) hx (hb hby at_17) rfl rfl ?_
    refine Go.iloadN (q := 19) hx (hb hby at_18) rfl rfl ?_
    refine Go.iconst (q := 20) (z := (1 : Int32)) hx (hb hby at_19) rfl rfl ?_
    refine Go.callS (q := 23) hx hZ (argsL := [(.long pb), (.int p3), (.int (1 : Int32))]) (rest := []) hown (hw _ (List.mem_of_getElem? (i := 1) rfl)) (hw _ (List.mem_of_getElem? (i := 2) rfl)) (hw _ (List.mem_of_getElem? (i := 3) rfl)) (hw _ (List.mem_of_getElem? (i := 4) rfl)) (by decide) (rmAt l Z a0 hw pb p3 (1 : Int32) h0 n0 Z0) (by rw [hml]; rfl) pd_0 rfl rfl (hb hby at_20) rfl (by decide) (Nat.le_of_ble_eq_true rfl) (ce' := 0) (sl' := 0) rfl rfl (by decide) (by decide) (fun v34 h35 hQ36 => ?_)
    obtain ⟨b1, rfl, nb1, rfl⟩ := hQ36
    show Go _ _ _ _ _ _ _ _ _ _ _ _ _ _ _ 0 0 23 #[.val (.int p1), .val (.long pb), .second, .val (.int p3), .val (.int (1 : Int32)), .val (.int b0), .unset, .unset, .unset, .unset, .unset, .unset, .unset, .unset] [(.int b1)]
    refine Go.istore (q := 25) (l' := #[.val (.int p1), .val (.long pb), .second, .val (.int p3), .val (.int (1 : Int32)), .val (.int b0), .val (.int b1), .unset, .unset, .unset, .unset, .unset, .unset, .unset]) hx (hb hby at_23) rfl rfl ?_
    refine Go.lloadN (q := 26) hx (hb hby at_25) rfl rfl ?_
    refine Go.iloadN (q := 27) hx (hb hby at_26) rfl rfl ?_
    refine Go.iconst (q := 28) (z := (2 : Int32)) hx (hb hby at_27) rfl rfl ?_
    refine Go.callS (q := 31) hx hZ (argsL := [(.long pb), (.int p3), (.int (2 : Int32))]) (rest := []) hown (hw _ (List.mem_of_getElem? (i := 1) rfl)) (hw _ (List.mem_of_getElem? (i := 2) rfl)) (hw _ (List.mem_of_getElem? (i := 3) rfl)) (hw _ (List.mem_of_getElem? (i := 4) rfl)) (by decide) (rmAt l Z a0 hw pb p3 (2 : Int32) h0 n0 Z0) (by rw [hml]; rfl) pd_0 rfl rfl (hb hby at_28) rfl (by decide) (Nat.le_of_ble_eq_true rfl) (ce' := 0) (sl' := 0) rfl rfl (by decide) (by decide) (fun v37 h38 hQ39 => ?_)
    obtain ⟨b2, rfl, nb2, rfl⟩ := hQ39
    show Go _ _ _ _ _ _ _ _ _ _ _ _ _ _ _ 0 0 31 #[.val (.int p1), .val (.long pb), .second, .val (.int p3), .val (.int (1 : Int32)), .val (.int b0), .val (.int b1), .unset, .unset, .unset, .unset, .unset, .unset, .unset] [(.int b2)]
    refine Go.istore (q := 33) (l' := #[.val (.int p1), .val (.long pb), .second, .val (.int p3), .val (.int (1 : Int32)), .val (.int b0), .val (.int b1), .val (.int b2), .unset, .unset, .unset, .unset, .unset, .unset]) hx (hb hby at_31) rfl rfl ?_
    refine Go.lloadN (q := 34) hx (hb hby at_33) rfl rfl ?_
    refine Go.iloadN (q := 35) hx (hb hby at_34) rfl rfl ?_
    refine Go.iconst (q := 36) (z := (3 : Int32)) hx (hb hby at_35) rfl rfl ?_
    refine Go.callS (q := 39) hx hZ (argsL := [(.long pb), (.int p3), (.int (3 : Int32))]) (rest := []) hown (hw _ (List.mem_of_getElem? (i := 1) rfl)) (hw _ (List.mem_of_getElem? (i := 2) rfl)) (hw _ (List.mem_of_getElem? (i := 3) rfl)) (hw _ (List.mem_of_getElem? (i := 4) rfl)) (by decide) (rmAt l Z a0 hw pb p3 (3 : Int32) h0 n0 Z0) (by rw [hml]; rfl) pd_0 rfl rfl (hb hby at_36) rfl (by decide) (Nat.le_of_ble_eq_true rfl) (ce' := 0) (sl' := 0) rfl rfl (by decide) (by decide) (fun v40 h41 hQ42 => ?_)
    obtain ⟨b3, rfl, nb3, rfl⟩ := hQ42
    show Go _ _ _ _ _ _ _ _ _ _ _ _ _ _ _ 0 0 39 #[.val (.int p1), .val (.long pb), .second, .val (.int p3), .val (.int (1 : Int32)), .val (.int b0), .val (.int b1), .val (.int b2), .unset, .unset, .unset, .unset, .unset, .unset] [(.int b3)]
    refine Go.istore (q := 41) (l' := #[.val (.int p1), .val (.long pb), .second, .val (.int p3), .val (.int (1 : Int32)), .val (.int b0), .val (.int b1), .val (.int b2), .val (.int b3), .unset, .unset, .unset, .unset, .unset]) hx (hb hby at_39) rfl rfl ?_
    refine Go.lloadN (q := 42) hx (hb hby at_41) rfl rfl ?_
    refine Go.iloadN (q := 43) hx (hb hby at_42) rfl rfl ?_
    refine Go.iconst (q := 44) (z := (4 : Int32)) hx (hb hby at_43) rfl rfl ?_
    refine Go.callS (q := 47) hx hZ (argsL := [(.long pb), (.int p3), (.int (4 : Int32))]) (rest := []) hown (hw _ (List.mem_of_getElem? (i := 1) rfl)) (hw _ (List.mem_of_getElem? (i := 2) rfl)) (hw _ (List.mem_of_getElem? (i := 3) rfl)) (hw _ (List.mem_of_getElem? (i := 4) rfl)) (by decide) (rmAt l Z a0 hw pb p3 (4 : Int32) h0 n0 Z0) (by rw [hml]; rfl) pd_0 rfl rfl (hb hby at_44) rfl (by decide) (Nat.le_of_ble_eq_true rfl) (ce' := 0) (sl' := 0) rfl rfl (by decide) (by decide) (fun v43 h44 hQ45 => ?_)
    obtain ⟨b4, rfl, nb4, rfl⟩ := hQ45
    show Go _ _ _ _ _ _ _ _ _ _ _ _ _ _ _ 0 0 47 #[.val (.int p1), .val (.long pb), .second, .val (.int p3), .val (.int (1 : Int32)), .val (.int b0), .val (.int b1), .val (.int b2), .val (.int b3), .unset, .unset, .unset, .unset, .unset] [(.int b4)]
    refine Go.istore (q := 49) (l' := #[.val (.int p1), .val (.long pb), .second, .val (.int p3), .val (.int (1 : Int32)), .val (.int b0), .val (.int b1), .val (.int b2), .val (.int b3), .val (.int b4), .unset, .unset, .unset, .unset]) hx (hb hby at_47) rfl rfl ?_
    refine Go.lloadN (q := 50) hx (hb hby at_49) rfl rfl ?_
    refine Go.iloadN (q := 51) hx (hb hby at_50) rfl rfl ?_
    refine Go.iconst (q := 52) (z := (5 : Int32)) hx (hb hby at_51) rfl rfl ?_
    refine Go.callS (q := 55) hx hZ (argsL := [(.long pb), (.int p3), (.int (5 : Int32))]) (rest := []) hown (hw _ (List.mem_of_getElem? (i := 1) rfl)) (hw _ (List.mem_of_getElem? (i := 2) rfl)) (hw _ (List.mem_of_getElem? (i := 3) rfl)) (hw _ (List.mem_of_getElem? (i := 4) rfl)) (by decide) (rmAt l Z a0 hw pb p3 (5 : Int32) h0 n0 Z0) (by rw [hml]; rfl) pd_0 rfl rfl (hb hby at_52) rfl (by decide) (Nat.le_of_ble_eq_true rfl) (ce' := 0) (sl' := 0) rfl rfl (by decide) (by decide) (fun v46 h47 hQ48 => ?_)
    obtain ⟨b5, rfl, nb5, rfl⟩ := hQ48
    show Go _ _ _ _ _ _ _ _ _ _ _ _ _ _ _ 0 0 55 #[.val (.int p1), .val (.long pb), .second, .val (.int p3), .val (.int (1 : Int32)), .val (.int b0), .val (.int b1), .val (.int b2), .val (.int b3), .val (.int b4), .unset, .unset, .unset, .unset] [(.int b5)]
    refine Go.istore (q := 57) (l' := #[.val (.int p1), .val (.long pb), .second, .val (.int p3), .val (.int (1 : Int32)), .val (.int b0), .val (.int b1), .val (.int b2), .val (.int b3), .val (.int b4), .val (.int b5), .unset, .unset, .unset]) hx (hb hby at_55) rfl rfl ?_
    refine Go.iload (q := 59) hx (hb hby at_57) rfl rfl ?_
    refine Go.newP (q := 61) (cap := 1) hx hZ (hw _ (List.mem_of_getElem? (i := 5) rfl)) (by decide) (by decide) (hb hby at_59) rfl (by decide) (ce' := 1) (sl' := 1) rfl rfl (by decide) (by decide) (fun h49 a50 k51 g52 E53 A54 => ?_)
    have gz55 : n0 ≤ a50 := by rw [g52]; exact Z0
    have V56 : Arv Z h49 a50 k51 .byte (1 : Int32) [(.int (0 : Int32))] (.int (0 : Int32)) := A54.pad (pad_rep [] (.int (0 : Int32)) 1)
    refine Go.astore (q := 63) (l' := #[.val (.int p1), .val (.long pb), .second, .val (.int p3), .val (.int (1 : Int32)), .val (.int b0), .val (.int b1), .val (.int b2), .val (.int b3), .val (.int b4), .val (.int b5), .val (.ref a50), .unset, .unset]) hx (hb hby at_61) (by rfl) rfl rfl ?_
    refine Go.iload (q := 65) hx (hb hby at_63) rfl rfl ?_
    refine Go.if_le (q := 68) (t := 74) hx (hb hby at_65) (by decide) rfl rfl (fun hc65 => absurd hc65 (by decide)) (fun hc65 => ?_)
    refine Go.aload (q := 70) hx (hb hby at_68) rfl (by rfl) rfl ?_
    refine Go.iconst (q := 71) (z := (0 : Int32)) hx (hb hby at_70) rfl rfl ?_
    refine Go.iload (q := 73) hx (hb hby at_71) rfl rfl ?_
    refine Go.bastore (q := 74) hx hZ V56 ⟨by decide, by decide⟩ 0 rfl (Nat.le_of_ble_eq_true rfl) gz55 (hb hby at_73) rfl (fun h57 W58 V59 => ?_)
    refine Go.iload (q := 76) hx (hb hby at_74) rfl rfl ?_
    refine Go.iconst (q := 77) (z := (1 : Int32)) hx (hb hby at_76) rfl rfl ?_
    refine Go.icmp_le (q := 80) (t := 86) hx (hb hby at_77) (by decide) rfl rfl (fun hc77 => ?_) (fun hc77 => absurd hc77 (by decide))
    refine Go.iload (q := 88) hx (hb hby at_86) rfl rfl ?_
    refine Go.iconst (q := 89) (z := (2 : Int32)) hx (hb hby at_88) rfl rfl ?_
    refine Go.icmp_le (q := 92) (t := 98) hx (hb hby at_89) (by decide) rfl rfl (fun hc89 => ?_) (fun hc89 => absurd hc89 (by decide))
    refine Go.iload (q := 100) hx (hb hby at_98) rfl rfl ?_
    refine Go.iconst (q := 101) (z := (3 : Int32)) hx (hb hby at_100) rfl rfl ?_
    refine Go.icmp_le (q := 104) (t := 110) hx (hb hby at_101) (by decide) rfl rfl (fun hc101 => ?_) (fun hc101 => absurd hc101 (by decide))
    refine Go.iload (q := 112) hx (hb hby at_110) rfl rfl ?_
    refine Go.iconst (q := 113) (z := (4 : Int32)) hx (hb hby at_112) rfl rfl ?_
    refine Go.icmp_le (q := 116) (t := 122) hx (hb hby at_113) (by decide) rfl rfl (fun hc113 => ?_) (fun hc113 => absurd hc113 (by decide))
    refine Go.iload (q := 124) hx (hb hby at_122) rfl rfl ?_
    refine Go.iconst (q := 125) (z := (5 : Int32)) hx (hb hby at_124) rfl rfl ?_
    refine Go.icmp_le (q := 128) (t := 134) hx (hb hby at_125) (by decide) rfl rfl (fun hc125 => ?_) (fun hc125 => absurd hc125 (by decide))
    refine Go.iload (q := 136) hx (hb hby at_134) rfl rfl ?_
    refine Go.iconst (q := 137) (z := (5 : Int32)) hx (hb hby at_136) rfl rfl ?_
    refine Go.icmp_le (q := 140) (t := 155) hx (hb hby at_137) (by decide) rfl rfl (fun hc137 => ?_) (fun hc137 => absurd hc137 (by decide))
    refine Go.iload (q := 157) hx (hb hby at_155) rfl rfl ?_
    refine Go.iconst (q := 158) (z := (4 : Int32)) hx (hb hby at_157) rfl rfl ?_
    refine Go.icmp_le (q := 161) (t := 176) hx (hb hby at_158) (by decide) rfl rfl (fun hc158 => ?_) (fun hc158 => absurd hc158 (by decide))
    refine Go.iload (q := 178) hx (hb hby at_176) rfl rfl ?_
    refine Go.iconst (q := 179) (z := (3 : Int32)) hx (hb hby at_178) rfl rfl ?_
    refine Go.icmp_le (q := 182) (t := 197) hx (hb hby at_179) (by decide) rfl rfl (fun hc179 => ?_) (fun hc179 => absurd hc179 (by decide))
    refine Go.iload (q := 199) hx (hb hby at_197) rfl rfl ?_
    refine Go.iconst (q := 200) (z := (2 : Int32)) hx (hb hby at_199) rfl rfl ?_
    refine Go.icmp_le (q := 203) (t := 218) hx (hb hby at_200) (by decide) rfl rfl (fun hc200 => ?_) (fun hc200 => absurd hc200 (by decide))
    refine Go.iload (q := 220) hx (hb hby at_218) rfl rfl ?_
    refine Go.iconst (q := 221) (z := (1 : Int32)) hx (hb hby at_220) rfl rfl ?_
    refine Go.icmp_le (q := 224) (t := 239) hx (hb hby at_221) (by decide) rfl rfl (fun hc221 => ?_) (fun hc221 => absurd hc221 (by decide))
    refine Go.iload (q := 241) hx (hb hby at_239) rfl rfl ?_
    refine Go.if_le (q := 244) (t := 257) hx (hb hby at_241) (by decide) rfl rfl (fun hc241 => absurd hc241 (by decide)) (fun hc241 => ?_)
    refine Go.iload (q := 246) hx (hb hby at_244) rfl rfl ?_
    refine Go.bipush (q := 248) (z := (10 : Int32)) hx (hb hby at_246) rfl rfl ?_
    refine Go.icmp_ne (q := 251) (t := 257) hx (hb hby at_248) (by decide) rfl rfl (fun hc248 => ?_) (fun hc248 => ?_)
    · skip
      refine Go.lconst (q := 258) (z := (0 : Int64)) hx (hb hby at_257) rfl rfl ?_
      refine Go.lstore (q := 260) (l' := #[.val (.int p1), .val (.long pb), .second, .val (.int p3), .val (.int (1 : Int32)), .val (.int b0), .val (.int b1), .val (.int b2), .val (.int b3), .val (.int b4), .val (.int b5), .val (.ref a50), .val (.long (0 : Int64)), .second]) hx (hb hby at_258) rfl rfl ?_
      refine Go.aload (q := 262) hx (hb hby at_260) rfl (by rfl) rfl ?_
      refine Go.callS (q := 265) hx hZ (argsL := [(.ref a50)]) (rest := []) hown (hw _ (List.mem_of_getElem? (i := 6) rfl)) (hw _ (List.mem_of_getElem? (i := 7) rfl)) (hw _ (List.mem_of_getElem? (i := 8) rfl)) (hw _ (List.mem_of_getElem? (i := 9) rfl)) (by decide) (rmW1 l Z a0 hw a50 k51 (nar .byte b0) h57 n0 (Nat.le_trans (Nat.le_trans Z0 E53.1) (Keep.of_wr W58).1) V59) (by rw [hml]; rfl) pd_1 rfl rfl (hb hby at_262) rfl (by decide) (Nat.le_of_ble_eq_true rfl) (ce' := 1) (sl' := 1) rfl rfl (by decide) (by decide) (fun v60 h61 hQ62 => ?_)
      obtain ⟨rfl, rfl⟩ := hQ62
      simp only [nb0]
      show Go _ _ _ _ _ _ _ _ _ _ _ _ _ _ _ 1 1 265 #[.val (.int p1), .val (.long pb), .second, .val (.int p3), .val (.int (1 : Int32)), .val (.int b0), .val (.int b1), .val (.int b2), .val (.int b3), .val (.int b4), .val (.int b5), .val (.ref a50), .val (.long (0 : Int64)), .second] [(.long (if b0 = (10 : Int32) then (1 : Int64) else (0 : Int64)))]
      refine Go.lload (q := 267) hx (hb hby at_265) rfl rfl ?_
      refine Go.lcmp (q := 268) hx (hb hby at_267) rfl ?_
      refine Go.if_ne (q := 271) (t := 275) hx (hb hby at_268) (by decide) rfl rfl (fun hc268 => absurd ((cmpL_eq _ _).mpr (by rw [if_neg hc248])) hc268) (fun hc268 => ?_)
      refine Go.iconst (q := 272) (z := (1 : Int32)) hx (hb hby at_271) rfl rfl ?_
      refine Go.goto (q := 276) hx (hb hby at_272) (by decide) rfl ?_
      refine Go.retN hx (t := .boolean) hret (by simp) hlk (hb hby at_276) (by decide) (by decide) ?_
      rfl
    · skip
      refine Go.lconst (q := 252) (z := (1 : Int64)) hx (hb hby at_251) rfl rfl ?_
      refine Go.lstore (q := 254) (l' := #[.val (.int p1), .val (.long pb), .second, .val (.int p3), .val (.int (1 : Int32)), .val (.int b0), .val (.int b1), .val (.int b2), .val (.int b3), .val (.int b4), .val (.int b5), .val (.ref a50), .val (.long (1 : Int64)), .second]) hx (hb hby at_252) rfl rfl ?_
      refine Go.goto (q := 260) hx (hb hby at_254) (by decide) rfl ?_
      refine Go.aload (q := 262) hx (hb hby at_260) rfl (by rfl) rfl ?_
      refine Go.callS (q := 265) hx hZ (argsL := [(.ref a50)]) (rest := []) hown (hw _ (List.mem_of_getElem? (i := 6) rfl)) (hw _ (List.mem_of_getElem? (i := 7) rfl)) (hw _ (List.mem_of_getElem? (i := 8) rfl)) (hw _ (List.mem_of_getElem? (i := 9) rfl)) (by decide) (rmW1 l Z a0 hw a50 k51 (nar .byte b0) h57 n0 (Nat.le_trans (Nat.le_trans Z0 E53.1) (Keep.of_wr W58).1) V59) (by rw [hml]; rfl) pd_1 rfl rfl (hb hby at_262) rfl (by decide) (Nat.le_of_ble_eq_true rfl) (ce' := 1) (sl' := 1) rfl rfl (by decide) (by decide) (fun v63 h64 hQ65 => ?_)
      obtain ⟨rfl, rfl⟩ := hQ65
      simp only [nb0]
      show Go _ _ _ _ _ _ _ _ _ _ _ _ _ _ _ 1 1 265 #[.val (.int p1), .val (.long pb), .second, .val (.int p3), .val (.int (1 : Int32)), .val (.int b0), .val (.int b1), .val (.int b2), .val (.int b3), .val (.int b4), .val (.int b5), .val (.ref a50), .val (.long (1 : Int64)), .second] [(.long (if b0 = (10 : Int32) then (1 : Int64) else (0 : Int64)))]
      refine Go.lload (q := 267) hx (hb hby at_265) rfl rfl ?_
      refine Go.lcmp (q := 268) hx (hb hby at_267) rfl ?_
      refine Go.if_ne (q := 271) (t := 275) hx (hb hby at_268) (by decide) rfl rfl (fun hc268 => absurd ((cmpL_eq _ _).mpr (by rw [if_pos hc248])) hc268) (fun hc268 => ?_)
      refine Go.iconst (q := 272) (z := (1 : Int32)) hx (hb hby at_271) rfl rfl ?_
      refine Go.goto (q := 276) hx (hb hby at_272) (by decide) rfl ?_
      refine Go.retN hx (t := .boolean) hret (by simp) hlk (hb hby at_276) (by decide) (by decide) ?_
      rfl
  · rw [hk1]
    refine Go.istore (q := 9) (l' := #[.val (.int p1), .val (.long pb), .second, .val (.int p3), .val (.int (2 : Int32)), .unset, .unset, .unset, .unset, .unset, .unset, .unset, .unset, .unset]) hx (hb hby at_7) rfl rfl ?_
    refine Go.lloadN (q := 10) hx (hb hby at_9) rfl rfl ?_
    refine Go.iloadN (q := 11) hx (hb hby at_10) rfl rfl ?_
    refine Go.iconst (q := 12) (z := (0 : Int32)) hx (hb hby at_11) rfl rfl ?_
    refine Go.callS (q := 15) hx hZ (argsL := [(.long pb), (.int p3), (.int (0 : Int32))]) (rest := []) hown (hw _ (List.mem_of_getElem? (i := 1) rfl)) (hw _ (List.mem_of_getElem? (i := 2) rfl)) (hw _ (List.mem_of_getElem? (i := 3) rfl)) (hw _ (List.mem_of_getElem? (i := 4) rfl)) (by decide) (rmAt l Z a0 hw pb p3 (0 : Int32) h0 n0 Z0) (by rw [hml]; rfl) pd_0 rfl rfl (hb hby at_12) rfl (by decide) (Nat.le_of_ble_eq_true rfl) (ce' := 0) (sl' := 0) rfl rfl (by decide) (by decide) (fun v66 h67 hQ68 => ?_)
    obtain ⟨b0, rfl, nb0, rfl⟩ := hQ68
    show Go _ _ _ _ _ _ _ _ _ _ _ _ _ _ _ 0 0 15 #[.val (.int p1), .val (.long pb), .second, .val (.int p3), .val (.int (2 : Int32)), .unset, .unset, .unset, .unset, .unset, .unset, .unset, .unset, .unset] [(.int b0)]
    refine Go.istore (q := 17) (l' := #[.val (.int p1), .val (.long pb), .second, .val (.int p3), .val (.int (2 : Int32)), .val (.int b0), .unset, .unset, .unset, .unset, .unset, .unset, .unset, .unset]) hx (hb hby at_15) rfl rfl ?_
    refine Go.lloadN (q := 18) hx (hb hby at_17) rfl rfl ?_
    refine Go.iloadN (q := 19) hx (hb hby at_18) rfl rfl ?_
    refine Go.iconst (q := 20) (z := (1 : Int32)) hx (hb hby at_19) rfl rfl ?_
    refine Go.callS (q := 23) hx hZ (argsL := [(.long pb), (.int p3), (.int (1 : Int32))]) (rest := []) hown (hw _ (List.mem_of_getElem? (i := 1) rfl)) (hw _ (List.mem_of_getElem? (i := 2) rfl)) (hw _ (List.mem_of_getElem? (i := 3) rfl)) (hw _ (List.mem_of_getElem? (i := 4) rfl)) (by decide) (rmAt l Z a0 hw pb p3 (1 : Int32) h0 n0 Z0) (by rw [hml]; rfl) pd_0 rfl rfl (hb hby at_20) rfl (by decide) (Nat.le_of_ble_eq_true rfl) (ce' := 0) (sl' := 0) rfl rfl (by decide) (by decide) (fun v69 h70 hQ71 => ?_)
    obtain ⟨b1, rfl, nb1, rfl⟩ := hQ71
    show Go _ _ _ _ _ _ _ _ _ _ _ _ _ _ _ 0 0 23 #[.val (.int p1), .val (.long pb), .second, .val (.int p3), .val (.int (2 : Int32)), .val (.int b0), .unset, .unset, .unset, .unset, .unset, .unset, .unset, .unset] [(.int b1)]
    refine Go.istore (q := 25) (l' := #[.val (.int p1), .val (.long pb), .second, .val (.int p3), .val (.int (2 : Int32)), .val (.int b0), .val (.int b1), .unset, .unset, .unset, .unset, .unset, .unset, .unset]) hx (hb hby at_23) rfl rfl ?_
    refine Go.lloadN (q := 26) hx (hb hby at_25) rfl rfl ?_
    refine Go.iloadN (q := 27) hx (hb hby at_26) rfl rfl ?_
    refine Go.iconst (q := 28) (z := (2 : Int32)) hx (hb hby at_27) rfl rfl ?_
    refine Go.callS (q := 31) hx hZ (argsL := [(.long pb), (.int p3), (.int (2 : Int32))]) (rest := []) hown (hw _ (List.mem_of_getElem? (i := 1) rfl)) (hw _ (List.mem_of_getElem? (i := 2) rfl)) (hw _ (List.mem_of_getElem? (i := 3) rfl)) (hw _ (List.mem_of_getElem? (i := 4) rfl)) (by decide) (rmAt l Z a0 hw pb p3 (2 : Int32) h0 n0 Z0) (by rw [hml]; rfl) pd_0 rfl rfl (hb hby at_28) rfl (by decide) (Nat.le_of_ble_eq_true rfl) (ce' := 0) (sl' := 0) rfl rfl (by decide) (by decide) (fun v72 h73 hQ74 => ?_)
    obtain ⟨b2, rfl, nb2, rfl⟩ := hQ74
    show Go _ _ _ _ _ _ _ _ _ _ _ _ _ _ _ 0 0 31 #[.val (.int p1), .val (.long pb), .second, .val (.int p3), .val (.int (2 : Int32)), .val (.int b0), .val (.int b1), .unset, .unset, .unset, .unset, .unset, .unset, .unset] [(.int b2)]
    refine Go.istore (q := 33) (l' := #[.val (.int p1), .val (.long pb), .second, .val (.int p3), .val (.int (2 : Int32)), .val (.int b0), .val (.int b1), .val (.int b2), .unset, .unset, .unset, .unset, .unset, .unset]) hx (hb hby at_31) rfl rfl ?_
    refine Go.lloadN (q := 34) hx (hb hby at_33) rfl rfl ?_
    refine Go.iloadN (q := 35) hx (hb hby at_34) rfl rfl ?_
    refine Go.iconst (q := 36) (z := (3 : Int32)) hx (hb hby at_35) rfl rfl ?_
    refine Go.callS (q := 39) hx hZ (argsL := [(.long pb), (.int p3), (.int (3 : Int32))]) (rest := []) hown (hw _ (List.mem_of_getElem? (i := 1) rfl)) (hw _ (List.mem_of_getElem? (i := 2) rfl)) (hw _ (List.mem_of_getElem? (i := 3) rfl)) (hw _ (List.mem_of_getElem? (i := 4) rfl)) (by decide) (rmAt l Z a0 hw pb p3 (3 : Int32) h0 n0 Z0) (by rw [hml]; rfl) pd_0 rfl rfl (hb hby at_36) rfl (by decide) (Nat.le_of_ble_eq_true rfl) (ce' := 0) (sl' := 0) rfl rfl (by decide) (by decide) (fun v75 h76 hQ77 => ?_)
    obtain ⟨b3, rfl, nb3, rfl⟩ := hQ77
    show Go _ _ _ _ _ _ _ _ _ _ _ _ _ _ _ 0 0 39 #[.val (.int p1), .val (.long pb), .second, .val (.int p3), .val (.int (2 : Int32)), .val (.int b0), .val (.int b1), .val (.int b2), .unset, .unset, .unset, .unset, .unset, .unset] [(.int b3)]
    refine Go.istore (q := 41) (l' := #[.val (.int p1), .val (.long pb), .second, .val (.int p3), .val (.int (2 : Int32)), .val (.int b0), .val (.int b1), .val (.int b2), .val (.int b3), .unset, .unset, .unset, .unset, .unset]) hx (hb hby at_39) rfl rfl ?_
    refine Go.lloadN (q := 42) hx (hb hby at_41) rfl rfl ?_
    refine Go.iloadN (q := 43) hx (hb hby at_42) rfl rfl ?_
    refine Go.iconst (q := 44) (z := (4 : Int32)) hx (hb hby at_43) rfl rfl ?_
    refine Go.callS (q := 47) hx hZ (argsL := [(.long pb), (.int p3), (.int (4 : Int32))]) (rest := []) hown (hw _ (List.mem_of_getElem? (i := 1) rfl)) (hw _ (List.mem_of_getElem? (i := 2) rfl)) (hw _ (List.mem_of_getElem? (i := 3) rfl)) (hw _ (List.mem_of_getElem? (i := 4) rfl)) (by decide) (rmAt l Z a0 hw pb p3 (4 : Int32) h0 n0 Z0) (by rw [hml]; rfl) pd_0 rfl rfl (hb hby at_44) rfl (by decide) (Nat.le_of_ble_eq_true rfl) (ce' := 0) (sl' := 0) rfl rfl (by decide) (by decide) (fun v78 h79 hQ80 => ?_)
    obtain ⟨b4, rfl, nb4, rfl⟩ := hQ80
    show Go _ _ _ _ _ _ _ _ _ _ _ _ _ _ _ 0 0 47 #[.val (.int p1), .val (.long pb), .second, .val (.int p3), .val (.int (2 : Int32)), .val (.int b0), .val (.int b1), .val (.int b2), .val (.int b3), .unset, .unset, .unset, .unset, .unset] [(.int b4)]
    refine Go.istore (q := 49) (l' := #[.val (.int p1), .val (.long pb), .second, .val (.int p3), .val (.int (2 : Int32)), .val (.int b0), .val (.int b1), .val (.int b2), .val (.int b3), .val (.int b4), .unset, .unset, .unset, .unset]) hx (hb hby at_47) rfl rfl ?_
    refine Go.lloadN (q := 50) hx (hb hby at_49) rfl rfl ?_
    refine Go.iloadN (q := 51) hx (hb hby at_50) rfl rfl ?_
    refine Go.iconst (q := 52) (z := (5 : Int32)) hx (hb hby at_51) rfl rfl ?_
    refine Go.callS (q := 55) hx hZ (argsL := [(.long pb), (.int p3), (.int (5 : Int32))]) (rest := []) hown (hw _ (List.mem_of_getElem? (i := 1) rfl)) (hw _ (List.mem_of_getElem? (i := 2) rfl)) (hw _ (List.mem_of_getElem? (i := 3) rfl)) (hw _ (List.mem_of_getElem? (i := 4) rfl)) (by decide) (rmAt l Z a0 hw pb p3 (5 : Int32) h0 n0 Z0) (by rw [hml]; rfl) pd_0 rfl rfl (hb hby at_52) rfl (by decide) (Nat.le_of_ble_eq_true rfl) (ce' := 0) (sl' := 0) rfl rfl (by decide) (by decide) (fun v81 h82 hQ83 => ?_)
    obtain ⟨b5, rfl, nb5, rfl⟩ := hQ83
    show Go _ _ _ _ _ _ _ _ _ _ _ _ _ _ _ 0 0 55 #[.val (.int p1), .val (.long pb), .second, .val (.int p3), .val (.int (2 : Int32)), .val (.int b0), .val (.int b1), .val (.int b2), .val (.int b3), .val (.int b4), .unset, .unset, .unset, .unset] [(.int b5)]
    refine Go.istore (q := 57) (l' := #[.val (.int p1), .val (.long pb), .second, .val (.int p3), .val (.int (2 : Int32)), .val (.int b0), .val (.int b1), .val (.int b2), .val (.int b3), .val (.int b4), .val (.int b5), .unset, .unset, .unset]) hx (hb hby at_55) rfl rfl ?_
    refine Go.iload (q := 59) hx (hb hby at_57) rfl rfl ?_
    refine Go.newP (q := 61) (cap := 2) hx hZ (hw _ (List.mem_of_getElem? (i := 5) rfl)) (by decide) (by decide) (hb hby at_59) rfl (by decide) (ce' := 1) (sl' := 2) rfl rfl (by decide) (by decide) (fun h84 a85 k86 g87 E88 A89 => ?_)
    have gz90 : n0 ≤ a85 := by rw [g87]; exact Z0
    have V91 : Arv Z h84 a85 k86 .byte (2 : Int32) [(.int (0 : Int32)), (.int (0 : Int32))] (.int (0 : Int32)) := A89.pad (pad_rep [] (.int (0 : Int32)) 2)
    refine Go.astore (q := 63) (l' := #[.val (.int p1), .val (.long pb), .second, .val (.int p3), .val (.int (2 : Int32)), .val (.int b0), .val (.int b1), .val (.int b2), .val (.int b3), .val (.int b4), .val (.int b5), .val (.ref a85), .unset, .unset]) hx (hb hby at_61) (by rfl) rfl rfl ?_
    refine Go.iload (q := 65) hx (hb hby at_63) rfl rfl ?_
    refine Go.if_le (q := 68) (t := 74) hx (hb hby at_65) (by decide) rfl rfl (fun hc65 => absurd hc65 (by decide)) (fun hc65 => ?_)
    refine Go.aload (q := 70) hx (hb hby at_68) rfl (by rfl) rfl ?_
    refine Go.iconst (q := 71) (z := (0 : Int32)) hx (hb hby at_70) rfl rfl ?_
    refine Go.iload (q := 73) hx (hb hby at_71) rfl rfl ?_
    refine Go.bastore (q := 74) hx hZ V91 ⟨by decide, by decide⟩ 0 rfl (Nat.le_of_ble_eq_true rfl) gz90 (hb hby at_73) rfl (fun h92 W93 V94 => ?_)
    refine Go.iload (q := 76) hx (hb hby at_74) rfl rfl ?_
    refine Go.iconst (q := 77) (z := (1 : Int32)) hx (hb hby at_76) rfl rfl ?_
    refine Go.icmp_le (q := 80) (t := 86) hx (hb hby at_77) (by decide) rfl rfl (fun hc77 => absurd hc77 (by decide)) (fun hc77 => ?_)
    refine Go.aload (q := 82) hx (hb hby at_80) rfl (by rfl) rfl ?_
    refine Go.iconst (q := 83) (z := (1 : Int32)) hx (hb hby at_82) rfl rfl ?_
    refine Go.iload (q := 85) hx (hb hby at_83) rfl rfl ?_
    refine Go.bastore (q := 86) hx hZ V94 ⟨by decide, by decide⟩ 1 rfl (Nat.le_of_ble_eq_true rfl) gz90 (hb hby at_85) rfl (fun h95 W96 V97 => ?_)
    refine Go.iload (q := 88) hx (hb hby at_86) rfl rfl ?_
    refine Go.iconst (q := 89) (z := (2 : Int32)) hx (hb hby at_88) rfl rfl ?_
    refine Go.icmp_le (q := 92) (t := 98) hx (hb hby at_89) (by decide) rfl rfl (fun hc89 => ?_) (fun hc89 => absurd hc89 (by decide))
    refine Go.iload (q := 100) hx (hb hby at_98) rfl rfl ?_
    refine Go.iconst (q := 101) (z := (3 : Int32)) hx (hb hby at_100) rfl rfl ?_
    refine Go.icmp_le (q := 104) (t := 110) hx (hb hby at_101) (by decide) rfl rfl (fun hc101 => ?_) (fun hc101 => absurd hc101 (by decide))
    refine Go.iload (q := 112) hx (hb hby at_110) rfl rfl ?_
    refine Go.iconst (q := 113) (z := (4 : Int32)) hx (hb hby at_112) rfl rfl ?_
    refine Go.icmp_le (q := 116) (t := 122) hx (hb hby at_113) (by decide) rfl rfl (fun hc113 => ?_) (fun hc113 => absurd hc113 (by decide))
    refine Go.iload (q := 124) hx (hb hby at_122) rfl rfl ?_
    refine Go.iconst (q := 125) (z := (5 : Int32)) hx (hb hby at_124) rfl rfl ?_
    refine Go.icmp_le (q := 128) (t := 134) hx (hb hby at_125) (by decide) rfl rfl (fun hc125 => ?_) (fun hc125 => absurd hc125 (by decide))
    refine Go.iload (q := 136) hx (hb hby at_134) rfl rfl ?_
    refine Go.iconst (q := 137) (z := (5 : Int32)) hx (hb hby at_136) rfl rfl ?_
    refine Go.icmp_le (q := 140) (t := 155) hx (hb hby at_137) (by decide) rfl rfl (fun hc137 => ?_) (fun hc137 => absurd hc137 (by decide))
    refine Go.iload (q := 157) hx (hb hby at_155) rfl rfl ?_
    refine Go.iconst (q := 158) (z := (4 : Int32)) hx (hb hby at_157) rfl rfl ?_
    refine Go.icmp_le (q := 161) (t := 176) hx (hb hby at_158) (by decide) rfl rfl (fun hc158 => ?_) (fun hc158 => absurd hc158 (by decide))
    refine Go.iload (q := 178) hx (hb hby at_176) rfl rfl ?_
    refine Go.iconst (q := 179) (z := (3 : Int32)) hx (hb hby at_178) rfl rfl ?_
    refine Go.icmp_le (q := 182) (t := 197) hx (hb hby at_179) (by decide) rfl rfl (fun hc179 => ?_) (fun hc179 => absurd hc179 (by decide))
    refine Go.iload (q := 199) hx (hb hby at_197) rfl rfl ?_
    refine Go.iconst (q := 200) (z := (2 : Int32)) hx (hb hby at_199) rfl rfl ?_
    refine Go.icmp_le (q := 203) (t := 218) hx (hb hby at_200) (by decide) rfl rfl (fun hc200 => ?_) (fun hc200 => absurd hc200 (by decide))
    refine Go.iload (q := 220) hx (hb hby at_218) rfl rfl ?_
    refine Go.iconst (q := 221) (z := (1 : Int32)) hx (hb hby at_220) rfl rfl ?_
    refine Go.icmp_le (q := 224) (t := 239) hx (hb hby at_221) (by decide) rfl rfl (fun hc221 => absurd hc221 (by decide)) (fun hc221 => ?_)
    refine Go.iload (q := 226) hx (hb hby at_224) rfl rfl ?_
    refine Go.bipush (q := 228) (z := (10 : Int32)) hx (hb hby at_226) rfl rfl ?_
    refine Go.icmp_ne (q := 231) (t := 239) hx (hb hby at_228) (by decide) rfl rfl (fun hc228 => ?_) (fun hc228 => ?_)
    · skip
      refine Go.iload (q := 241) hx (hb hby at_239) rfl rfl ?_
      refine Go.if_le (q := 244) (t := 257) hx (hb hby at_241) (by decide) rfl rfl (fun hc241 => absurd hc241 (by decide)) (fun hc241 => ?_)
      refine Go.iload (q := 246) hx (hb hby at_244) rfl rfl ?_
      refine Go.bipush (q := 248) (z := (10 : Int32)) hx (hb hby at_246) rfl rfl ?_
      refine Go.icmp_ne (q := 251) (t := 257) hx (hb hby at_248) (by decide) rfl rfl (fun hc248 => ?_) (fun hc248 => ?_)
      · skip
        refine Go.lconst (q := 258) (z := (0 : Int64)) hx (hb hby at_257) rfl rfl ?_
        refine Go.lstore (q := 260) (l' := #[.val (.int p1), .val (.long pb), .second, .val (.int p3), .val (.int (2 : Int32)), .val (.int b0), .val (.int b1), .val (.int b2), .val (.int b3), .val (.int b4), .val (.int b5), .val (.ref a85), .val (.long (0 : Int64)), .second]) hx (hb hby at_258) rfl rfl ?_
        refine Go.aload (q := 262) hx (hb hby at_260) rfl (by rfl) rfl ?_
        refine Go.callS (q := 265) hx hZ (argsL := [(.ref a85)]) (rest := []) hown (hw _ (List.mem_of_getElem? (i := 6) rfl)) (hw _ (List.mem_of_getElem? (i := 7) rfl)) (hw _ (List.mem_of_getElem? (i := 8) rfl)) (hw _ (List.mem_of_getElem? (i := 9) rfl)) (by decide) (rmW2 l Z a0 hw a85 k86 (nar .byte b0) (nar .byte b1) h95 n0 (Nat.le_trans (Nat.le_trans (Nat.le_trans Z0 E88.1) (Keep.of_wr W93).1) (Keep.of_wr W96).1) V97) (by rw [hml]; rfl) pd_1 rfl rfl (hb hby at_262) rfl (by decide) (Nat.le_of_ble_eq_true rfl) (ce' := 1) (sl' := 2) rfl rfl (by decide) (by decide) (fun v98 h99 hQ100 => ?_)
        obtain ⟨rfl, rfl⟩ := hQ100
        simp only [nb0, nb1]
        show Go _ _ _ _ _ _ _ _ _ _ _ _ _ _ _ 1 2 265 #[.val (.int p1), .val (.long pb), .second, .val (.int p3), .val (.int (2 : Int32)), .val (.int b0), .val (.int b1), .val (.int b2), .val (.int b3), .val (.int b4), .val (.int b5), .val (.ref a85), .val (.long (0 : Int64)), .second] [(.long (if b1 = (10 : Int32) then (2 : Int64) else if b0 = (10 : Int32) then (1 : Int64) else (0 : Int64)))]
        refine Go.lload (q := 267) hx (hb hby at_265) rfl rfl ?_
        refine Go.lcmp (q := 268) hx (hb hby at_267) rfl ?_
        refine Go.if_ne (q := 271) (t := 275) hx (hb hby at_268) (by decide) rfl rfl (fun hc268 => absurd ((cmpL_eq _ _).mpr (by rw [if_neg hc228, if_neg hc248])) hc268) (fun hc268 => ?_)
        refine Go.iconst (q := 272) (z := (1 : Int32)) hx (hb hby at_271) rfl rfl ?_
        refine Go.goto (q := 276) hx (hb hby at_272) (by decide) rfl ?_
        refine Go.retN hx (t := .boolean) hret (by simp) hlk (hb hby at_276) (by decide) (by decide) ?_
        rfl
      · skip
        refine Go.lconst (q := 252) (z := (1 : Int64)) hx (hb hby at_251) rfl rfl ?_
        refine Go.lstore (q := 254) (l' := #[.val (.int p1), .val (.long pb), .second, .val (.int p3), .val (.int (2 : Int32)), .val (.int b0), .val (.int b1), .val (.int b2), .val (.int b3), .val (.int b4), .val (.int b5), .val (.ref a85), .val (.long (1 : Int64)), .second]) hx (hb hby at_252) rfl rfl ?_
        refine Go.goto (q := 260) hx (hb hby at_254) (by decide) rfl ?_
        refine Go.aload (q := 262) hx (hb hby at_260) rfl (by rfl) rfl ?_
        refine Go.callS (q := 265) hx hZ (argsL := [(.ref a85)]) (rest := []) hown (hw _ (List.mem_of_getElem? (i := 6) rfl)) (hw _ (List.mem_of_getElem? (i := 7) rfl)) (hw _ (List.mem_of_getElem? (i := 8) rfl)) (hw _ (List.mem_of_getElem? (i := 9) rfl)) (by decide) (rmW2 l Z a0 hw a85 k86 (nar .byte b0) (nar .byte b1) h95 n0 (Nat.le_trans (Nat.le_trans (Nat.le_trans Z0 E88.1) (Keep.of_wr W93).1) (Keep.of_wr W96).1) V97) (by rw [hml]; rfl) pd_1 rfl rfl (hb hby at_262) rfl (by decide) (Nat.le_of_ble_eq_true rfl) (ce' := 1) (sl' := 2) rfl rfl (by decide) (by decide) (fun v101 h102 hQ103 => ?_)
        obtain ⟨rfl, rfl⟩ := hQ103
        simp only [nb0, nb1]
        show Go _ _ _ _ _ _ _ _ _ _ _ _ _ _ _ 1 2 265 #[.val (.int p1), .val (.long pb), .second, .val (.int p3), .val (.int (2 : Int32)), .val (.int b0), .val (.int b1), .val (.int b2), .val (.int b3), .val (.int b4), .val (.int b5), .val (.ref a85), .val (.long (1 : Int64)), .second] [(.long (if b1 = (10 : Int32) then (2 : Int64) else if b0 = (10 : Int32) then (1 : Int64) else (0 : Int64)))]
        refine Go.lload (q := 267) hx (hb hby at_265) rfl rfl ?_
        refine Go.lcmp (q := 268) hx (hb hby at_267) rfl ?_
        refine Go.if_ne (q := 271) (t := 275) hx (hb hby at_268) (by decide) rfl rfl (fun hc268 => absurd ((cmpL_eq _ _).mpr (by rw [if_neg hc228, if_pos hc248])) hc268) (fun hc268 => ?_)
        refine Go.iconst (q := 272) (z := (1 : Int32)) hx (hb hby at_271) rfl rfl ?_
        refine Go.goto (q := 276) hx (hb hby at_272) (by decide) rfl ?_
        refine Go.retN hx (t := .boolean) hret (by simp) hlk (hb hby at_276) (by decide) (by decide) ?_
        rfl
    · skip
      refine Go.ldc2Long (q := 234) hx hZ hown (hw _ (List.mem_of_getElem? (i := 11) rfl)) (hb hby at_231) rfl ?_
      refine Go.lstore (q := 236) (l' := #[.val (.int p1), .val (.long pb), .second, .val (.int p3), .val (.int (2 : Int32)), .val (.int b0), .val (.int b1), .val (.int b2), .val (.int b3), .val (.int b4), .val (.int b5), .val (.ref a85), .val (.long (2 : Int64)), .second]) hx (hb hby at_234) rfl rfl ?_
      refine Go.goto (q := 260) hx (hb hby at_236) (by decide) rfl ?_
      refine Go.aload (q := 262) hx (hb hby at_260) rfl (by rfl) rfl ?_
      refine Go.callS (q := 265) hx hZ (argsL := [(.ref a85)]) (rest := []) hown (hw _ (List.mem_of_getElem? (i := 6) rfl)) (hw _ (List.mem_of_getElem? (i := 7) rfl)) (hw _ (List.mem_of_getElem? (i := 8) rfl)) (hw _ (List.mem_of_getElem? (i := 9) rfl)) (by decide) (rmW2 l Z a0 hw a85 k86 (nar .byte b0) (nar .byte b1) h95 n0 (Nat.le_trans (Nat.le_trans (Nat.le_trans Z0 E88.1) (Keep.of_wr W93).1) (Keep.of_wr W96).1) V97) (by rw [hml]; rfl) pd_1 rfl rfl (hb hby at_262) rfl (by decide) (Nat.le_of_ble_eq_true rfl) (ce' := 1) (sl' := 2) rfl rfl (by decide) (by decide) (fun v104 h105 hQ106 => ?_)
      obtain ⟨rfl, rfl⟩ := hQ106
      simp only [nb0, nb1]
      show Go _ _ _ _ _ _ _ _ _ _ _ _ _ _ _ 1 2 265 #[.val (.int p1), .val (.long pb), .second, .val (.int p3), .val (.int (2 : Int32)), .val (.int b0), .val (.int b1), .val (.int b2), .val (.int b3), .val (.int b4), .val (.int b5), .val (.ref a85), .val (.long (2 : Int64)), .second] [(.long (if b1 = (10 : Int32) then (2 : Int64) else if b0 = (10 : Int32) then (1 : Int64) else (0 : Int64)))]
      refine Go.lload (q := 267) hx (hb hby at_265) rfl rfl ?_
      refine Go.lcmp (q := 268) hx (hb hby at_267) rfl ?_
      refine Go.if_ne (q := 271) (t := 275) hx (hb hby at_268) (by decide) rfl rfl (fun hc268 => absurd ((cmpL_eq _ _).mpr (by rw [if_pos hc228])) hc268) (fun hc268 => ?_)
      refine Go.iconst (q := 272) (z := (1 : Int32)) hx (hb hby at_271) rfl rfl ?_
      refine Go.goto (q := 276) hx (hb hby at_272) (by decide) rfl ?_
      refine Go.retN hx (t := .boolean) hret (by simp) hlk (hb hby at_276) (by decide) (by decide) ?_
      rfl
  · rw [hk1]
    refine Go.istore (q := 9) (l' := #[.val (.int p1), .val (.long pb), .second, .val (.int p3), .val (.int (3 : Int32)), .unset, .unset, .unset, .unset, .unset, .unset, .unset, .unset, .unset]) hx (hb hby at_7) rfl rfl ?_
    refine Go.lloadN (q := 10) hx (hb hby at_9) rfl rfl ?_
    refine Go.iloadN (q := 11) hx (hb hby at_10) rfl rfl ?_
    refine Go.iconst (q := 12) (z := (0 : Int32)) hx (hb hby at_11) rfl rfl ?_
    refine Go.callS (q := 15) hx hZ (argsL := [(.long pb), (.int p3), (.int (0 : Int32))]) (rest := []) hown (hw _ (List.mem_of_getElem? (i := 1) rfl)) (hw _ (List.mem_of_getElem? (i := 2) rfl)) (hw _ (List.mem_of_getElem? (i := 3) rfl)) (hw _ (List.mem_of_getElem? (i := 4) rfl)) (by decide) (rmAt l Z a0 hw pb p3 (0 : Int32) h0 n0 Z0) (by rw [hml]; rfl) pd_0 rfl rfl (hb hby at_12) rfl (by decide) (Nat.le_of_ble_eq_true rfl) (ce' := 0) (sl' := 0) rfl rfl (by decide) (by decide) (fun v107 h108 hQ109 => ?_)
    obtain ⟨b0, rfl, nb0, rfl⟩ := hQ109
    show Go _ _ _ _ _ _ _ _ _ _ _ _ _ _ _ 0 0 15 #[.val (.int p1), .val (.long pb), .second, .val (.int p3), .val (.int (3 : Int32)), .unset, .unset, .unset, .unset, .unset, .unset, .unset, .unset, .unset] [(.int b0)]
    refine Go.istore (q := 17) (l' := #[.val (.int p1), .val (.long pb), .second, .val (.int p3), .val (.int (3 : Int32)), .val (.int b0), .unset, .unset, .unset, .unset, .unset, .unset, .unset, .unset]) hx (hb hby at_15) rfl rfl ?_
    refine Go.lloadN (q := 18) hx (hb hby at_17) rfl rfl ?_
    refine Go.iloadN (q := 19) hx (hb hby at_18) rfl rfl ?_
    refine Go.iconst (q := 20) (z := (1 : Int32)) hx (hb hby at_19) rfl rfl ?_
    refine Go.callS (q := 23) hx hZ (argsL := [(.long pb), (.int p3), (.int (1 : Int32))]) (rest := []) hown (hw _ (List.mem_of_getElem? (i := 1) rfl)) (hw _ (List.mem_of_getElem? (i := 2) rfl)) (hw _ (List.mem_of_getElem? (i := 3) rfl)) (hw _ (List.mem_of_getElem? (i := 4) rfl)) (by decide) (rmAt l Z a0 hw pb p3 (1 : Int32) h0 n0 Z0) (by rw [hml]; rfl) pd_0 rfl rfl (hb hby at_20) rfl (by decide) (Nat.le_of_ble_eq_true rfl) (ce' := 0) (sl' := 0) rfl rfl (by decide) (by decide) (fun v110 h111 hQ112 => ?_)
    obtain ⟨b1, rfl, nb1, rfl⟩ := hQ112
    show Go _ _ _ _ _ _ _ _ _ _ _ _ _ _ _ 0 0 23 #[.val (.int p1), .val (.long pb), .second, .val (.int p3), .val (.int (3 : Int32)), .val (.int b0), .unset, .unset, .unset, .unset, .unset, .unset, .unset, .unset] [(.int b1)]
    refine Go.istore (q := 25) (l' := #[.val (.int p1), .val (.long pb), .second, .val (.int p3), .val (.int (3 : Int32)), .val (.int b0), .val (.int b1), .unset, .unset, .unset, .unset, .unset, .unset, .unset]) hx (hb hby at_23) rfl rfl ?_
    refine Go.lloadN (q := 26) hx (hb hby at_25) rfl rfl ?_
    refine Go.iloadN (q := 27) hx (hb hby at_26) rfl rfl ?_
    refine Go.iconst (q := 28) (z := (2 : Int32)) hx (hb hby at_27) rfl rfl ?_
    refine Go.callS (q := 31) hx hZ (argsL := [(.long pb), (.int p3), (.int (2 : Int32))]) (rest := []) hown (hw _ (List.mem_of_getElem? (i := 1) rfl)) (hw _ (List.mem_of_getElem? (i := 2) rfl)) (hw _ (List.mem_of_getElem? (i := 3) rfl)) (hw _ (List.mem_of_getElem? (i := 4) rfl)) (by decide) (rmAt l Z a0 hw pb p3 (2 : Int32) h0 n0 Z0) (by rw [hml]; rfl) pd_0 rfl rfl (hb hby at_28) rfl (by decide) (Nat.le_of_ble_eq_true rfl) (ce' := 0) (sl' := 0) rfl rfl (by decide) (by decide) (fun v113 h114 hQ115 => ?_)
    obtain ⟨b2, rfl, nb2, rfl⟩ := hQ115
    show Go _ _ _ _ _ _ _ _ _ _ _ _ _ _ _ 0 0 31 #[.val (.int p1), .val (.long pb), .second, .val (.int p3), .val (.int (3 : Int32)), .val (.int b0), .val (.int b1), .unset, .unset, .unset, .unset, .unset, .unset, .unset] [(.int b2)]
    refine Go.istore (q := 33) (l' := #[.val (.int p1), .val (.long pb), .second, .val (.int p3), .val (.int (3 : Int32)), .val (.int b0), .val (.int b1), .val (.int b2), .unset, .unset, .unset, .unset, .unset, .unset]) hx (hb hby at_31) rfl rfl ?_
    refine Go.lloadN (q := 34) hx (hb hby at_33) rfl rfl ?_
    refine Go.iloadN (q := 35) hx (hb hby at_34) rfl rfl ?_
    refine Go.iconst (q := 36) (z := (3 : Int32)) hx (hb hby at_35) rfl rfl ?_
    refine Go.callS (q := 39) hx hZ (argsL := [(.long pb), (.int p3), (.int (3 : Int32))]) (rest := []) hown (hw _ (List.mem_of_getElem? (i := 1) rfl)) (hw _ (List.mem_of_getElem? (i := 2) rfl)) (hw _ (List.mem_of_getElem? (i := 3) rfl)) (hw _ (List.mem_of_getElem? (i := 4) rfl)) (by decide) (rmAt l Z a0 hw pb p3 (3 : Int32) h0 n0 Z0) (by rw [hml]; rfl) pd_0 rfl rfl (hb hby at_36) rfl (by decide) (Nat.le_of_ble_eq_true rfl) (ce' := 0) (sl' := 0) rfl rfl (by decide) (by decide) (fun v116 h117 hQ118 => ?_)
    obtain ⟨b3, rfl, nb3, rfl⟩ := hQ118
    show Go _ _ _ _ _ _ _ _ _ _ _ _ _ _ _ 0 0 39 #[.val (.int p1), .val (.long pb), .second, .val (.int p3), .val (.int (3 : Int32)), .val (.int b0), .val (.int b1), .val (.int b2), .unset, .unset, .unset, .unset, .unset, .unset] [(.int b3)]
    refine Go.istore (q := 41) (l' := #[.val (.int p1), .val (.long pb), .second, .val (.int p3), .val (.int (3 : Int32)), .val (.int b0), .val (.int b1), .val (.int b2), .val (.int b3), .unset, .unset, .unset, .unset, .unset]) hx (hb hby at_39) rfl rfl ?_
    refine Go.lloadN (q := 42) hx (hb hby at_41) rfl rfl ?_
    refine Go.iloadN (q := 43) hx (hb hby at_42) rfl rfl ?_
    refine Go.iconst (q := 44) (z := (4 : Int32)) hx (hb hby at_43) rfl rfl ?_
    refine Go.callS (q := 47) hx hZ (argsL := [(.long pb), (.int p3), (.int (4 : Int32))]) (rest := []) hown (hw _ (List.mem_of_getElem? (i := 1) rfl)) (hw _ (List.mem_of_getElem? (i := 2) rfl)) (hw _ (List.mem_of_getElem? (i := 3) rfl)) (hw _ (List.mem_of_getElem? (i := 4) rfl)) (by decide) (rmAt l Z a0 hw pb p3 (4 : Int32) h0 n0 Z0) (by rw [hml]; rfl) pd_0 rfl rfl (hb hby at_44) rfl (by decide) (Nat.le_of_ble_eq_true rfl) (ce' := 0) (sl' := 0) rfl rfl (by decide) (by decide) (fun v119 h120 hQ121 => ?_)
    obtain ⟨b4, rfl, nb4, rfl⟩ := hQ121
    show Go _ _ _ _ _ _ _ _ _ _ _ _ _ _ _ 0 0 47 #[.val (.int p1), .val (.long pb), .second, .val (.int p3), .val (.int (3 : Int32)), .val (.int b0), .val (.int b1), .val (.int b2), .val (.int b3), .unset, .unset, .unset, .unset, .unset] [(.int b4)]
    refine Go.istore (q := 49) (l' := #[.val (.int p1), .val (.long pb), .second, .val (.int p3), .val (.int (3 : Int32)), .val (.int b0), .val (.int b1), .val (.int b2), .val (.int b3), .val (.int b4), .unset, .unset, .unset, .unset]) hx (hb hby at_47) rfl rfl ?_
    refine Go.lloadN (q := 50) hx (hb hby at_49) rfl rfl ?_
    refine Go.iloadN (q := 51) hx (hb hby at_50) rfl rfl ?_
    refine Go.iconst (q := 52) (z := (5 : Int32)) hx (hb hby at_51) rfl rfl ?_
    refine Go.callS (q := 55) hx hZ (argsL := [(.long pb), (.int p3), (.int (5 : Int32))]) (rest := []) hown (hw _ (List.mem_of_getElem? (i := 1) rfl)) (hw _ (List.mem_of_getElem? (i := 2) rfl)) (hw _ (List.mem_of_getElem? (i := 3) rfl)) (hw _ (List.mem_of_getElem? (i := 4) rfl)) (by decide) (rmAt l Z a0 hw pb p3 (5 : Int32) h0 n0 Z0) (by rw [hml]; rfl) pd_0 rfl rfl (hb hby at_52) rfl (by decide) (Nat.le_of_ble_eq_true rfl) (ce' := 0) (sl' := 0) rfl rfl (by decide) (by decide) (fun v122 h123 hQ124 => ?_)
    obtain ⟨b5, rfl, nb5, rfl⟩ := hQ124
    show Go _ _ _ _ _ _ _ _ _ _ _ _ _ _ _ 0 0 55 #[.val (.int p1), .val (.long pb), .second, .val (.int p3), .val (.int (3 : Int32)), .val (.int b0), .val (.int b1), .val (.int b2), .val (.int b3), .val (.int b4), .unset, .unset, .unset, .unset] [(.int b5)]
    refine Go.istore (q := 57) (l' := #[.val (.int p1), .val (.long pb), .second, .val (.int p3), .val (.int (3 : Int32)), .val (.int b0), .val (.int b1), .val (.int b2), .val (.int b3), .val (.int b4), .val (.int b5), .unset, .unset, .unset]) hx (hb hby at_55) rfl rfl ?_
    refine Go.iload (q := 59) hx (hb hby at_57) rfl rfl ?_
    refine Go.newP (q := 61) (cap := 3) hx hZ (hw _ (List.mem_of_getElem? (i := 5) rfl)) (by decide) (by decide) (hb hby at_59) rfl (by decide) (ce' := 1) (sl' := 3) rfl rfl (by decide) (by decide) (fun h125 a126 k127 g128 E129 A130 => ?_)
    have gz131 : n0 ≤ a126 := by rw [g128]; exact Z0
    have V132 : Arv Z h125 a126 k127 .byte (3 : Int32) [(.int (0 : Int32)), (.int (0 : Int32)), (.int (0 : Int32))] (.int (0 : Int32)) := A130.pad (pad_rep [] (.int (0 : Int32)) 3)
    refine Go.astore (q := 63) (l' := #[.val (.int p1), .val (.long pb), .second, .val (.int p3), .val (.int (3 : Int32)), .val (.int b0), .val (.int b1), .val (.int b2), .val (.int b3), .val (.int b4), .val (.int b5), .val (.ref a126), .unset, .unset]) hx (hb hby at_61) (by rfl) rfl rfl ?_
    refine Go.iload (q := 65) hx (hb hby at_63) rfl rfl ?_
    refine Go.if_le (q := 68) (t := 74) hx (hb hby at_65) (by decide) rfl rfl (fun hc65 => absurd hc65 (by decide)) (fun hc65 => ?_)
    refine Go.aload (q := 70) hx (hb hby at_68) rfl (by rfl) rfl ?_
    refine Go.iconst (q := 71) (z := (0 : Int32)) hx (hb hby at_70) rfl rfl ?_
    refine Go.iload (q := 73) hx (hb hby at_71) rfl rfl ?_
    refine Go.bastore (q := 74) hx hZ V132 ⟨by decide, by decide⟩ 0 rfl (Nat.le_of_ble_eq_true rfl) gz131 (hb hby at_73) rfl (fun h133 W134 V135 => ?_)
    refine Go.iload (q := 76) hx (hb hby at_74) rfl rfl ?_
    refine Go.iconst (q := 77) (z := (1 : Int32)) hx (hb hby at_76) rfl rfl ?_
    refine Go.icmp_le (q := 80) (t := 86) hx (hb hby at_77) (by decide) rfl rfl (fun hc77 => absurd hc77 (by decide)) (fun hc77 => ?_)
    refine Go.aload (q := 82) hx (hb hby at_80) rfl (by rfl) rfl ?_
    refine Go.iconst (q := 83) (z := (1 : Int32)) hx (hb hby at_82) rfl rfl ?_
    refine Go.iload (q := 85) hx (hb hby at_83) rfl rfl ?_
    refine Go.bastore (q := 86) hx hZ V135 ⟨by decide, by decide⟩ 1 rfl (Nat.le_of_ble_eq_true rfl) gz131 (hb hby at_85) rfl (fun h136 W137 V138 => ?_)
    refine Go.iload (q := 88) hx (hb hby at_86) rfl rfl ?_
    refine Go.iconst (q := 89) (z := (2 : Int32)) hx (hb hby at_88) rfl rfl ?_
    refine Go.icmp_le (q := 92) (t := 98) hx (hb hby at_89) (by decide) rfl rfl (fun hc89 => absurd hc89 (by decide)) (fun hc89 => ?_)
    refine Go.aload (q := 94) hx (hb hby at_92) rfl (by rfl) rfl ?_
    refine Go.iconst (q := 95) (z := (2 : Int32)) hx (hb hby at_94) rfl rfl ?_
    refine Go.iload (q := 97) hx (hb hby at_95) rfl rfl ?_
    refine Go.bastore (q := 98) hx hZ V138 ⟨by decide, by decide⟩ 2 rfl (Nat.le_of_ble_eq_true rfl) gz131 (hb hby at_97) rfl (fun h139 W140 V141 => ?_)
    refine Go.iload (q := 100) hx (hb hby at_98) rfl rfl ?_
    refine Go.iconst (q := 101) (z := (3 : Int32)) hx (hb hby at_100) rfl rfl ?_
    refine Go.icmp_le (q := 104) (t := 110) hx (hb hby at_101) (by decide) rfl rfl (fun hc101 => ?_) (fun hc101 => absurd hc101 (by decide))
    refine Go.iload (q := 112) hx (hb hby at_110) rfl rfl ?_
    refine Go.iconst (q := 113) (z := (4 : Int32)) hx (hb hby at_112) rfl rfl ?_
    refine Go.icmp_le (q := 116) (t := 122) hx (hb hby at_113) (by decide) rfl rfl (fun hc113 => ?_) (fun hc113 => absurd hc113 (by decide))
    refine Go.iload (q := 124) hx (hb hby at_122) rfl rfl ?_
    refine Go.iconst (q := 125) (z := (5 : Int32)) hx (hb hby at_124) rfl rfl ?_
    refine Go.icmp_le (q := 128) (t := 134) hx (hb hby at_125) (by decide) rfl rfl (fun hc125 => ?_) (fun hc125 => absurd hc125 (by decide))
    refine Go.iload (q := 136) hx (hb hby at_134) rfl rfl ?_
    refine Go.iconst (q := 137) (z := (5 : Int32)) hx (hb hby at_136) rfl rfl ?_
    refine Go.icmp_le (q := 140) (t := 155) hx (hb hby at_137) (by decide) rfl rfl (fun hc137 => ?_) (fun hc137 => absurd hc137 (by decide))
    refine Go.iload (q := 157) hx (hb hby at_155) rfl rfl ?_
    refine Go.iconst (q := 158) (z := (4 : Int32)) hx (hb hby at_157) rfl rfl ?_
    refine Go.icmp_le (q := 161) (t := 176) hx (hb hby at_158) (by decide) rfl rfl (fun hc158 => ?_) (fun hc158 => absurd hc158 (by decide))
    refine Go.iload (q := 178) hx (hb hby at_176) rfl rfl ?_
    refine Go.iconst (q := 179) (z := (3 : Int32)) hx (hb hby at_178) rfl rfl ?_
    refine Go.icmp_le (q := 182) (t := 197) hx (hb hby at_179) (by decide) rfl rfl (fun hc179 => ?_) (fun hc179 => absurd hc179 (by decide))
    refine Go.iload (q := 199) hx (hb hby at_197) rfl rfl ?_
    refine Go.iconst (q := 200) (z := (2 : Int32)) hx (hb hby at_199) rfl rfl ?_
    refine Go.icmp_le (q := 203) (t := 218) hx (hb hby at_200) (by decide) rfl rfl (fun hc200 => absurd hc200 (by decide)) (fun hc200 => ?_)
    refine Go.iload (q := 205) hx (hb hby at_203) rfl rfl ?_
    refine Go.bipush (q := 207) (z := (10 : Int32)) hx (hb hby at_205) rfl rfl ?_
    refine Go.icmp_ne (q := 210) (t := 218) hx (hb hby at_207) (by decide) rfl rfl (fun hc207 => ?_) (fun hc207 => ?_)
    · skip
      refine Go.iload (q := 220) hx (hb hby at_218) rfl rfl ?_
      refine Go.iconst (q := 221) (z := (1 : Int32)) hx (hb hby at_220) rfl rfl ?_
      refine Go.icmp_le (q := 224) (t := 239) hx (hb hby at_221) (by decide) rfl rfl (fun hc221 => absurd hc221 (by decide)) (fun hc221 => ?_)
      refine Go.iload (q := 226) hx (hb hby at_224) rfl rfl ?_
      refine Go.bipush (q := 228) (z := (10 : Int32)) hx (hb hby at_226) rfl rfl ?_
      refine Go.icmp_ne (q := 231) (t := 239) hx (hb hby at_228) (by decide) rfl rfl (fun hc228 => ?_) (fun hc228 => ?_)
      · skip
        refine Go.iload (q := 241) hx (hb hby at_239) rfl rfl ?_
        refine Go.if_le (q := 244) (t := 257) hx (hb hby at_241) (by decide) rfl rfl (fun hc241 => absurd hc241 (by decide)) (fun hc241 => ?_)
        refine Go.iload (q := 246) hx (hb hby at_244) rfl rfl ?_
        refine Go.bipush (q := 248) (z := (10 : Int32)) hx (hb hby at_246) rfl rfl ?_
        refine Go.icmp_ne (q := 251) (t := 257) hx (hb hby at_248) (by decide) rfl rfl (fun hc248 => ?_) (fun hc248 => ?_)
        · skip
          refine Go.lconst (q := 258) (z := (0 : Int64)) hx (hb hby at_257) rfl rfl ?_
          refine Go.lstore (q := 260) (l' := #[.val (.int p1), .val (.long pb), .second, .val (.int p3), .val (.int (3 : Int32)), .val (.int b0), .val (.int b1), .val (.int b2), .val (.int b3), .val (.int b4), .val (.int b5), .val (.ref a126), .val (.long (0 : Int64)), .second]) hx (hb hby at_258) rfl rfl ?_
          refine Go.aload (q := 262) hx (hb hby at_260) rfl (by rfl) rfl ?_
          refine Go.callS (q := 265) hx hZ (argsL := [(.ref a126)]) (rest := []) hown (hw _ (List.mem_of_getElem? (i := 6) rfl)) (hw _ (List.mem_of_getElem? (i := 7) rfl)) (hw _ (List.mem_of_getElem? (i := 8) rfl)) (hw _ (List.mem_of_getElem? (i := 9) rfl)) (by decide) (rmW3 l Z a0 hw a126 k127 (nar .byte b0) (nar .byte b1) (nar .byte b2) h139 n0 (Nat.le_trans (Nat.le_trans (Nat.le_trans (Nat.le_trans Z0 E129.1) (Keep.of_wr W134).1) (Keep.of_wr W137).1) (Keep.of_wr W140).1) V141) (by rw [hml]; rfl) pd_1 rfl rfl (hb hby at_262) rfl (by decide) (Nat.le_of_ble_eq_true rfl) (ce' := 1) (sl' := 3) rfl rfl (by decide) (by decide) (fun v142 h143 hQ144 => ?_)
          obtain ⟨rfl, rfl⟩ := hQ144
          simp only [nb0, nb1, nb2]
          show Go _ _ _ _ _ _ _ _ _ _ _ _ _ _ _ 1 3 265 #[.val (.int p1), .val (.long pb), .second, .val (.int p3), .val (.int (3 : Int32)), .val (.int b0), .val (.int b1), .val (.int b2), .val (.int b3), .val (.int b4), .val (.int b5), .val (.ref a126), .val (.long (0 : Int64)), .second] [(.long (if b2 = (10 : Int32) then (3 : Int64) else if b1 = (10 : Int32) then (2 : Int64) else if b0 = (10 : Int32) then (1 : Int64) else (0 : Int64)))]
          refine Go.lload (q := 267) hx (hb hby at_265) rfl rfl ?_
          refine Go.lcmp (q := 268) hx (hb hby at_267) rfl ?_
          refine Go.if_ne (q := 271) (t := 275) hx (hb hby at_268) (by decide) rfl rfl (fun hc268 => absurd ((cmpL_eq _ _).mpr (by rw [if_neg hc207, if_neg hc228, if_neg hc248])) hc268) (fun hc268 => ?_)
          refine Go.iconst (q := 272) (z := (1 : Int32)) hx (hb hby at_271) rfl rfl ?_
          refine Go.goto (q := 276) hx (hb hby at_272) (by decide) rfl ?_
          refine Go.retN hx (t := .boolean) hret (by simp) hlk (hb hby at_276) (by decide) (by decide) ?_
          rfl
        · skip
          refine Go.lconst (q := 252) (z := (1 : Int64)) hx (hb hby at_251) rfl rfl ?_
          refine Go.lstore (q := 254) (l' := #[.val (.int p1), .val (.long pb), .second, .val (.int p3), .val (.int (3 : Int32)), .val (.int b0), .val (.int b1), .val (.int b2), .val (.int b3), .val (.int b4), .val (.int b5), .val (.ref a126), .val (.long (1 : Int64)), .second]) hx (hb hby at_252) rfl rfl ?_
          refine Go.goto (q := 260) hx (hb hby at_254) (by decide) rfl ?_
          refine Go.aload (q := 262) hx (hb hby at_260) rfl (by rfl) rfl ?_
          refine Go.callS (q := 265) hx hZ (argsL := [(.ref a126)]) (rest := []) hown (hw _ (List.mem_of_getElem? (i := 6) rfl)) (hw _ (List.mem_of_getElem? (i := 7) rfl)) (hw _ (List.mem_of_getElem? (i := 8) rfl)) (hw _ (List.mem_of_getElem? (i := 9) rfl)) (by decide) (rmW3 l Z a0 hw a126 k127 (nar .byte b0) (nar .byte b1) (nar .byte b2) h139 n0 (Nat.le_trans (Nat.le_trans (Nat.le_trans (Nat.le_trans Z0 E129.1) (Keep.of_wr W134).1) (Keep.of_wr W137).1) (Keep.of_wr W140).1) V141) (by rw [hml]; rfl) pd_1 rfl rfl (hb hby at_262) rfl (by decide) (Nat.le_of_ble_eq_true rfl) (ce' := 1) (sl' := 3) rfl rfl (by decide) (by decide) (fun v145 h146 hQ147 => ?_)
          obtain ⟨rfl, rfl⟩ := hQ147
          simp only [nb0, nb1, nb2]
          show Go _ _ _ _ _ _ _ _ _ _ _ _ _ _ _ 1 3 265 #[.val (.int p1), .val (.long pb), .second, .val (.int p3), .val (.int (3 : Int32)), .val (.int b0), .val (.int b1), .val (.int b2), .val (.int b3), .val (.int b4), .val (.int b5), .val (.ref a126), .val (.long (1 : Int64)), .second] [(.long (if b2 = (10 : Int32) then (3 : Int64) else if b1 = (10 : Int32) then (2 : Int64) else if b0 = (10 : Int32) then (1 : Int64) else (0 : Int64)))]
          refine Go.lload (q := 267) hx (hb hby at_265) rfl rfl ?_
          refine Go.lcmp (q := 268) hx (hb hby at_267) rfl ?_
          refine Go.if_ne (q := 271) (t := 275) hx (hb hby at_268) (by decide) rfl rfl (fun hc268 => absurd ((cmpL_eq _ _).mpr (by rw [if_neg hc207, if_neg hc228, if_pos hc248])) hc268) (fun hc268 => ?_)
          refine Go.iconst (q := 272) (z := (1 : Int32)) hx (hb hby at_271) rfl rfl ?_
          refine Go.goto (q := 276) hx (hb hby at_272) (by decide) rfl ?_
          refine Go.retN hx (t := .boolean) hret (by simp) hlk (hb hby at_276) (by decide) (by decide) ?_
          rfl
      · skip
        refine Go.ldc2Long (q := 234) hx hZ hown (hw _ (List.mem_of_getElem? (i := 11) rfl)) (hb hby at_231) rfl ?_
        refine Go.lstore (q := 236) (l' := #[.val (.int p1), .val (.long pb), .second, .val (.int p3), .val (.int (3 : Int32)), .val (.int b0), .val (.int b1), .val (.int b2), .val (.int b3), .val (.int b4), .val (.int b5), .val (.ref a126), .val (.long (2 : Int64)), .second]) hx (hb hby at_234) rfl rfl ?_
        refine Go.goto (q := 260) hx (hb hby at_236) (by decide) rfl ?_
        refine Go.aload (q := 262) hx (hb hby at_260) rfl (by rfl) rfl ?_
        refine Go.callS (q := 265) hx hZ (argsL := [(.ref a126)]) (rest := []) hown (hw _ (List.mem_of_getElem? (i := 6) rfl)) (hw _ (List.mem_of_getElem? (i := 7) rfl)) (hw _ (List.mem_of_getElem? (i := 8) rfl)) (hw _ (List.mem_of_getElem? (i := 9) rfl)) (by decide) (rmW3 l Z a0 hw a126 k127 (nar .byte b0) (nar .byte b1) (nar .byte b2) h139 n0 (Nat.le_trans (Nat.le_trans (Nat.le_trans (Nat.le_trans Z0 E129.1) (Keep.of_wr W134).1) (Keep.of_wr W137).1) (Keep.of_wr W140).1) V141) (by rw [hml]; rfl) pd_1 rfl rfl (hb hby at_262) rfl (by decide) (Nat.le_of_ble_eq_true rfl) (ce' := 1) (sl' := 3) rfl rfl (by decide) (by decide) (fun v148 h149 hQ150 => ?_)
        obtain ⟨rfl, rfl⟩ := hQ150
        simp only [nb0, nb1, nb2]
        show Go _ _ _ _ _ _ _ _ _ _ _ _ _ _ _ 1 3 265 #[.val (.int p1), .val (.long pb), .second, .val (.int p3), .val (.int (3 : Int32)), .val (.int b0), .val (.int b1), .val (.int b2), .val (.int b3), .val (.int b4), .val (.int b5), .val (.ref a126), .val (.long (2 : Int64)), .second] [(.long (if b2 = (10 : Int32) then (3 : Int64) else if b1 = (10 : Int32) then (2 : Int64) else if b0 = (10 : Int32) then (1 : Int64) else (0 : Int64)))]
        refine Go.lload (q := 267) hx (hb hby at_265) rfl rfl ?_
        refine Go.lcmp (q := 268) hx (hb hby at_267) rfl ?_
        refine Go.if_ne (q := 271) (t := 275) hx (hb hby at_268) (by decide) rfl rfl (fun hc268 => absurd ((cmpL_eq _ _).mpr (by rw [if_neg hc207, if_pos hc228])) hc268) (fun hc268 => ?_)
        refine Go.iconst (q := 272) (z := (1 : Int32)) hx (hb hby at_271) rfl rfl ?_
        refine Go.goto (q := 276) hx (hb hby at_272) (by decide) rfl ?_
        refine Go.retN hx (t := .boolean) hret (by simp) hlk (hb hby at_276) (by decide) (by decide) ?_
        rfl
    · skip
      refine Go.ldc2Long (q := 213) hx hZ hown (hw _ (List.mem_of_getElem? (i := 14) rfl)) (hb hby at_210) rfl ?_
      refine Go.lstore (q := 215) (l' := #[.val (.int p1), .val (.long pb), .second, .val (.int p3), .val (.int (3 : Int32)), .val (.int b0), .val (.int b1), .val (.int b2), .val (.int b3), .val (.int b4), .val (.int b5), .val (.ref a126), .val (.long (3 : Int64)), .second]) hx (hb hby at_213) rfl rfl ?_
      refine Go.goto (q := 260) hx (hb hby at_215) (by decide) rfl ?_
      refine Go.aload (q := 262) hx (hb hby at_260) rfl (by rfl) rfl ?_
      refine Go.callS (q := 265) hx hZ (argsL := [(.ref a126)]) (rest := []) hown (hw _ (List.mem_of_getElem? (i := 6) rfl)) (hw _ (List.mem_of_getElem? (i := 7) rfl)) (hw _ (List.mem_of_getElem? (i := 8) rfl)) (hw _ (List.mem_of_getElem? (i := 9) rfl)) (by decide) (rmW3 l Z a0 hw a126 k127 (nar .byte b0) (nar .byte b1) (nar .byte b2) h139 n0 (Nat.le_trans (Nat.le_trans (Nat.le_trans (Nat.le_trans Z0 E129.1) (Keep.of_wr W134).1) (Keep.of_wr W137).1) (Keep.of_wr W140).1) V141) (by rw [hml]; rfl) pd_1 rfl rfl (hb hby at_262) rfl (by decide) (Nat.le_of_ble_eq_true rfl) (ce' := 1) (sl' := 3) rfl rfl (by decide) (by decide) (fun v151 h152 hQ153 => ?_)
      obtain ⟨rfl, rfl⟩ := hQ153
      simp only [nb0, nb1, nb2]
      show Go _ _ _ _ _ _ _ _ _ _ _ _ _ _ _ 1 3 265 #[.val (.int p1), .val (.long pb), .second, .val (.int p3), .val (.int (3 : Int32)), .val (.int b0), .val (.int b1), .val (.int b2), .val (.int b3), .val (.int b4), .val (.int b5), .val (.ref a126), .val (.long (3 : Int64)), .second] [(.long (if b2 = (10 : Int32) then (3 : Int64) else if b1 = (10 : Int32) then (2 : Int64) else if b0 = (10 : Int32) then (1 : Int64) else (0 : Int64)))]
      refine Go.lload (q := 267) hx (hb hby at_265) rfl rfl ?_
      refine Go.lcmp (q := 268) hx (hb hby at_267) rfl ?_
      refine Go.if_ne (q := 271) (t := 275) hx (hb hby at_268) (by decide) rfl rfl (fun hc268 => absurd ((cmpL_eq _ _).mpr (by rw [if_pos hc207])) hc268) (fun hc268 => ?_)
      refine Go.iconst (q := 272) (z := (1 : Int32)) hx (hb hby at_271) rfl rfl ?_
      refine Go.goto (q := 276) hx (hb hby at_272) (by decide) rfl ?_
      refine Go.retN hx (t := .boolean) hret (by simp) hlk (hb hby at_276) (by decide) (by decide) ?_
      rfl
  · rw [hk1]
    refine Go.istore (q := 9) (l' := #[.val (.int p1), .val (.long pb), .second, .val (.int p3), .val (.int (4 : Int32)), .unset, .unset, .unset, .unset, .unset, .unset, .unset, .unset, .unset]) hx (hb hby at_7) rfl rfl ?_
    refine Go.lloadN (q := 10) hx (hb hby at_9) rfl rfl ?_
    refine Go.iloadN (q := 11) hx (hb hby at_10) rfl rfl ?_
    refine Go.iconst (q := 12) (z := (0 : Int32)) hx (hb hby at_11) rfl rfl ?_
    refine Go.callS (q := 15) hx hZ (argsL := [(.long pb), (.int p3), (.int (0 : Int32))]) (rest := []) hown (hw _ (List.mem_of_getElem? (i := 1) rfl)) (hw _ (List.mem_of_getElem? (i := 2) rfl)) (hw _ (List.mem_of_getElem? (i := 3) rfl)) (hw _ (List.mem_of_getElem? (i := 4) rfl)) (by decide) (rmAt l Z a0 hw pb p3 (0 : Int32) h0 n0 Z0) (by rw [hml]; rfl) pd_0 rfl rfl (hb hby at_12) rfl (by decide) (Nat.le_of_ble_eq_true rfl) (ce' := 0) (sl' := 0) rfl rfl (by decide) (by decide) (fun v154 h155 hQ156 => ?_)
    obtain ⟨b0, rfl, nb0, rfl⟩ := hQ156
    show Go _ _ _ _ _ _ _ _ _ _ _ _ _ _ _ 0 0 15 #[.val (.int p1), .val (.long pb), .second, .val (.int p3), .val (.int (4 : Int32)), .unset, .unset, .unset, .unset, .unset, .unset, .unset, .unset, .unset] [(.int b0)]
    refine Go.istore (q := 17) (l' := #[.val (.int p1), .val (.long pb), .second, .val (.int p3), .val (.int (4 : Int32)), .val (.int b0), .unset, .unset, .unset, .unset, .unset, .unset, .unset, .unset]) hx (hb hby at_15) rfl rfl ?_
    refine Go.lloadN (q := 18) hx (hb hby at_17) rfl rfl ?_
    refine Go.iloadN (q := 19) hx (hb hby at_18) rfl rfl ?_
    refine Go.iconst (q := 20) (z := (1 : Int32)) hx (hb hby at_19) rfl rfl ?_
    refine Go.callS (q := 23) hx hZ (argsL := [(.long pb), (.int p3), (.int (1 : Int32))]) (rest := []) hown (hw _ (List.mem_of_getElem? (i := 1) rfl)) (hw _ (List.mem_of_getElem? (i := 2) rfl)) (hw _ (List.mem_of_getElem? (i := 3) rfl)) (hw _ (List.mem_of_getElem? (i := 4) rfl)) (by decide) (rmAt l Z a0 hw pb p3 (1 : Int32) h0 n0 Z0) (by rw [hml]; rfl) pd_0 rfl rfl (hb hby at_20) rfl (by decide) (Nat.le_of_ble_eq_true rfl) (ce' := 0) (sl' := 0) rfl rfl (by decide) (by decide) (fun v157 h158 hQ159 => ?_)
    obtain ⟨b1, rfl, nb1, rfl⟩ := hQ159
    show Go _ _ _ _ _ _ _ _ _ _ _ _ _ _ _ 0 0 23 #[.val (.int p1), .val (.long pb), .second, .val (.int p3), .val (.int (4 : Int32)), .val (.int b0), .unset, .unset, .unset, .unset, .unset, .unset, .unset, .unset] [(.int b1)]
    refine Go.istore (q := 25) (l' := #[.val (.int p1), .val (.long pb), .second, .val (.int p3), .val (.int (4 : Int32)), .val (.int b0), .val (.int b1), .unset, .unset, .unset, .unset, .unset, .unset, .unset]) hx (hb hby at_23) rfl rfl ?_
    refine Go.lloadN (q := 26) hx (hb hby at_25) rfl rfl ?_
    refine Go.iloadN (q := 27) hx (hb hby at_26) rfl rfl ?_
    refine Go.iconst (q := 28) (z := (2 : Int32)) hx (hb hby at_27) rfl rfl ?_
    refine Go.callS (q := 31) hx hZ (argsL := [(.long pb), (.int p3), (.int (2 : Int32))]) (rest := []) hown (hw _ (List.mem_of_getElem? (i := 1) rfl)) (hw _ (List.mem_of_getElem? (i := 2) rfl)) (hw _ (List.mem_of_getElem? (i := 3) rfl)) (hw _ (List.mem_of_getElem? (i := 4) rfl)) (by decide) (rmAt l Z a0 hw pb p3 (2 : Int32) h0 n0 Z0) (by rw [hml]; rfl) pd_0 rfl rfl (hb hby at_28) rfl (by decide) (Nat.le_of_ble_eq_true rfl) (ce' := 0) (sl' := 0) rfl rfl (by decide) (by decide) (fun v160 h161 hQ162 => ?_)
    obtain ⟨b2, rfl, nb2, rfl⟩ := hQ162
    show Go _ _ _ _ _ _ _ _ _ _ _ _ _ _ _ 0 0 31 #[.val (.int p1), .val (.long pb), .second, .val (.int p3), .val (.int (4 : Int32)), .val (.int b0), .val (.int b1), .unset, .unset, .unset, .unset, .unset, .unset, .unset] [(.int b2)]
    refine Go.istore (q := 33) (l' := #[.val (.int p1), .val (.long pb), .second, .val (.int p3), .val (.int (4 : Int32)), .val (.int b0), .val (.int b1), .val (.int b2), .unset, .unset, .unset, .unset, .unset, .unset]) hx (hb hby at_31) rfl rfl ?_
    refine Go.lloadN (q := 34) hx (hb hby at_33) rfl rfl ?_
    refine Go.iloadN (q := 35) hx (hb hby at_34) rfl rfl ?_
    refine Go.iconst (q := 36) (z := (3 : Int32)) hx (hb hby at_35) rfl rfl ?_
    refine Go.callS (q := 39) hx hZ (argsL := [(.long pb), (.int p3), (.int (3 : Int32))]) (rest := []) hown (hw _ (List.mem_of_getElem? (i := 1) rfl)) (hw _ (List.mem_of_getElem? (i := 2) rfl)) (hw _ (List.mem_of_getElem? (i := 3) rfl)) (hw _ (List.mem_of_getElem? (i := 4) rfl)) (by decide) (rmAt l Z a0 hw pb p3 (3 : Int32) h0 n0 Z0) (by rw [hml]; rfl) pd_0 rfl rfl (hb hby at_36) rfl (by decide) (Nat.le_of_ble_eq_true rfl) (ce' := 0) (sl' := 0) rfl rfl (by decide) (by decide) (fun v163 h164 hQ165 => ?_)
    obtain ⟨b3, rfl, nb3, rfl⟩ := hQ165
    show Go _ _ _ _ _ _ _ _ _ _ _ _ _ _ _ 0 0 39 #[.val (.int p1), .val (.long pb), .second, .val (.int p3), .val (.int (4 : Int32)), .val (.int b0), .val (.int b1), .val (.int b2), .unset, .unset, .unset, .unset, .unset, .unset] [(.int b3)]
    refine Go.istore (q := 41) (l' := #[.val (.int p1), .val (.long pb), .second, .val (.int p3), .val (.int (4 : Int32)), .val (.int b0), .val (.int b1), .val (.int b2), .val (.int b3), .unset, .unset, .unset, .unset, .unset]) hx (hb hby at_39) rfl rfl ?_
    refine Go.lloadN (q := 42) hx (hb hby at_41) rfl rfl ?_
    refine Go.iloadN (q := 43) hx (hb hby at_42) rfl rfl ?_
    refine Go.iconst (q := 44) (z := (4 : Int32)) hx (hb hby at_43) rfl rfl ?_
    refine Go.callS (q := 47) hx hZ (argsL := [(.long pb), (.int p3), (.int (4 : Int32))]) (rest := []) hown (hw _ (List.mem_of_getElem? (i := 1) rfl)) (hw _ (List.mem_of_getElem? (i := 2) rfl)) (hw _ (List.mem_of_getElem? (i := 3) rfl)) (hw _ (List.mem_of_getElem? (i := 4) rfl)) (by decide) (rmAt l Z a0 hw pb p3 (4 : Int32) h0 n0 Z0) (by rw [hml]; rfl) pd_0 rfl rfl (hb hby at_44) rfl (by decide) (Nat.le_of_ble_eq_true rfl) (ce' := 0) (sl' := 0) rfl rfl (by decide) (by decide) (fun v166 h167 hQ168 => ?_)
    obtain ⟨b4, rfl, nb4, rfl⟩ := hQ168
    show Go _ _ _ _ _ _ _ _ _ _ _ _ _ _ _ 0 0 47 #[.val (.int p1), .val (.long pb), .second, .val (.int p3), .val (.int (4 : Int32)), .val (.int b0), .val (.int b1), .val (.int b2), .val (.int b3), .unset, .unset, .unset, .unset, .unset] [(.int b4)]
    refine Go.istore (q := 49) (l' := #[.val (.int p1), .val (.long pb), .second, .val (.int p3), .val (.int (4 : Int32)), .val (.int b0), .val (.int b1), .val (.int b2), .val (.int b3), .val (.int b4), .unset, .unset, .unset, .unset]) hx (hb hby at_47) rfl rfl ?_
    refine Go.lloadN (q := 50) hx (hb hby at_49) rfl rfl ?_
    refine Go.iloadN (q := 51) hx (hb hby at_50) rfl rfl ?_
    refine Go.iconst (q := 52) (z := (5 : Int32)) hx (hb hby at_51) rfl rfl ?_
    refine Go.callS (q := 55) hx hZ (argsL := [(.long pb), (.int p3), (.int (5 : Int32))]) (rest := []) hown (hw _ (List.mem_of_getElem? (i := 1) rfl)) (hw _ (List.mem_of_getElem? (i := 2) rfl)) (hw _ (List.mem_of_getElem? (i := 3) rfl)) (hw _ (List.mem_of_getElem? (i := 4) rfl)) (by decide) (rmAt l Z a0 hw pb p3 (5 : Int32) h0 n0 Z0) (by rw [hml]; rfl) pd_0 rfl rfl (hb hby at_52) rfl (by decide) (Nat.le_of_ble_eq_true rfl) (ce' := 0) (sl' := 0) rfl rfl (by decide) (by decide) (fun v169 h170 hQ171 => ?_)
    obtain ⟨b5, rfl, nb5, rfl⟩ := hQ171
    show Go _ _ _ _ _ _ _ _ _ _ _ _ _ _ _ 0 0 55 #[.val (.int p1), .val (.long pb), .second, .val (.int p3), .val (.int (4 : Int32)), .val (.int b0), .val (.int b1), .val (.int b2), .val (.int b3), .val (.int b4), .unset, .unset, .unset, .unset] [(.int b5)]
    refine Go.istore (q := 57) (l' := #[.val (.int p1), .val (.long pb), .second, .val (.int p3), .val (.int (4 : Int32)), .val (.int b0), .val (.int b1), .val (.int b2), .val (.int b3), .val (.int b4), .val (.int b5), .unset, .unset, .unset]) hx (hb hby at_55) rfl rfl ?_
    refine Go.iload (q := 59) hx (hb hby at_57) rfl rfl ?_
    refine Go.newP (q := 61) (cap := 4) hx hZ (hw _ (List.mem_of_getElem? (i := 5) rfl)) (by decide) (by decide) (hb hby at_59) rfl (by decide) (ce' := 1) (sl' := 4) rfl rfl (by decide) (by decide) (fun h172 a173 k174 g175 E176 A177 => ?_)
    have gz178 : n0 ≤ a173 := by rw [g175]; exact Z0
    have V179 : Arv Z h172 a173 k174 .byte (4 : Int32) [(.int (0 : Int32)), (.int (0 : Int32)), (.int (0 : Int32)), (.int (0 : Int32))] (.int (0 : Int32)) := A177.pad (pad_rep [] (.int (0 : Int32)) 4)
    refine Go.astore (q := 63) (l' := #[.val (.int p1), .val (.long pb), .second, .val (.int p3), .val (.int (4 : Int32)), .val (.int b0), .val (.int b1), .val (.int b2), .val (.int b3), .val (.int b4), .val (.int b5), .val (.ref a173), .unset, .unset]) hx (hb hby at_61) (by rfl) rfl rfl ?_
    refine Go.iload (q := 65) hx (hb hby at_63) rfl rfl ?_
    refine Go.if_le (q := 68) (t := 74) hx (hb hby at_65) (by decide) rfl rfl (fun hc65 => absurd hc65 (by decide)) (fun hc65 => ?_)
    refine Go.aload (q := 70) hx (hb hby at_68) rfl (by rfl) rfl ?_
    refine Go.iconst (q := 71) (z := (0 : Int32)) hx (hb hby at_70) rfl rfl ?_
    refine Go.iload (q := 73) hx (hb hby at_71) rfl rfl ?_
    refine Go.bastore (q := 74) hx hZ V179 ⟨by decide, by decide⟩ 0 rfl (Nat.le_of_ble_eq_true rfl) gz178 (hb hby at_73) rfl (fun h180 W181 V182 => ?_)
    refine Go.iload (q := 76) hx (hb hby at_74) rfl rfl ?_
    refine Go.iconst (q := 77) (z := (1 : Int32)) hx (hb hby at_76) rfl rfl ?_
    refine Go.icmp_le (q := 80) (t := 86) hx (hb hby at_77) (by decide) rfl rfl (fun hc77 => absurd hc77 (by decide)) (fun hc77 => ?_)
    refine Go.aload (q := 82) hx (hb hby at_80) rfl (by rfl) rfl ?_
    refine Go.iconst (q := 83) (z := (1 : Int32)) hx (hb hby at_82) rfl rfl ?_
    refine Go.iload (q := 85) hx (hb hby at_83) rfl rfl ?_
    refine Go.bastore (q := 86) hx hZ V182 ⟨by decide, by decide⟩ 1 rfl (Nat.le_of_ble_eq_true rfl) gz178 (hb hby at_85) rfl (fun h183 W184 V185 => ?_)
    refine Go.iload (q := 88) hx (hb hby at_86) rfl rfl ?_
    refine Go.iconst (q := 89) (z := (2 : Int32)) hx (hb hby at_88) rfl rfl ?_
    refine Go.icmp_le (q := 92) (t := 98) hx (hb hby at_89) (by decide) rfl rfl (fun hc89 => absurd hc89 (by decide)) (fun hc89 => ?_)
    refine Go.aload (q := 94) hx (hb hby at_92) rfl (by rfl) rfl ?_
    refine Go.iconst (q := 95) (z := (2 : Int32)) hx (hb hby at_94) rfl rfl ?_
    refine Go.iload (q := 97) hx (hb hby at_95) rfl rfl ?_
    refine Go.bastore (q := 98) hx hZ V185 ⟨by decide, by decide⟩ 2 rfl (Nat.le_of_ble_eq_true rfl) gz178 (hb hby at_97) rfl (fun h186 W187 V188 => ?_)
    refine Go.iload (q := 100) hx (hb hby at_98) rfl rfl ?_
    refine Go.iconst (q := 101) (z := (3 : Int32)) hx (hb hby at_100) rfl rfl ?_
    refine Go.icmp_le (q := 104) (t := 110) hx (hb hby at_101) (by decide) rfl rfl (fun hc101 => absurd hc101 (by decide)) (fun hc101 => ?_)
    refine Go.aload (q := 106) hx (hb hby at_104) rfl (by rfl) rfl ?_
    refine Go.iconst (q := 107) (z := (3 : Int32)) hx (hb hby at_106) rfl rfl ?_
    refine Go.iload (q := 109) hx (hb hby at_107) rfl rfl ?_
    refine Go.bastore (q := 110) hx hZ V188 ⟨by decide, by decide⟩ 3 rfl (Nat.le_of_ble_eq_true rfl) gz178 (hb hby at_109) rfl (fun h189 W190 V191 => ?_)
    refine Go.iload (q := 112) hx (hb hby at_110) rfl rfl ?_
    refine Go.iconst (q := 113) (z := (4 : Int32)) hx (hb hby at_112) rfl rfl ?_
    refine Go.icmp_le (q := 116) (t := 122) hx (hb hby at_113) (by decide) rfl rfl (fun hc113 => ?_) (fun hc113 => absurd hc113 (by decide))
    refine Go.iload (q := 124) hx (hb hby at_122) rfl rfl ?_
    refine Go.iconst (q := 125) (z := (5 : Int32)) hx (hb hby at_124) rfl rfl ?_
    refine Go.icmp_le (q := 128) (t := 134) hx (hb hby at_125) (by decide) rfl rfl (fun hc125 => ?_) (fun hc125 => absurd hc125 (by decide))
    refine Go.iload (q := 136) hx (hb hby at_134) rfl rfl ?_
    refine Go.iconst (q := 137) (z := (5 : Int32)) hx (hb hby at_136) rfl rfl ?_
    refine Go.icmp_le (q := 140) (t := 155) hx (hb hby at_137) (by decide) rfl rfl (fun hc137 => ?_) (fun hc137 => absurd hc137 (by decide))
    refine Go.iload (q := 157) hx (hb hby at_155) rfl rfl ?_
    refine Go.iconst (q := 158) (z := (4 : Int32)) hx (hb hby at_157) rfl rfl ?_
    refine Go.icmp_le (q := 161) (t := 176) hx (hb hby at_158) (by decide) rfl rfl (fun hc158 => ?_) (fun hc158 => absurd hc158 (by decide))
    refine Go.iload (q := 178) hx (hb hby at_176) rfl rfl ?_
    refine Go.iconst (q := 179) (z := (3 : Int32)) hx (hb hby at_178) rfl rfl ?_
    refine Go.icmp_le (q := 182) (t := 197) hx (hb hby at_179) (by decide) rfl rfl (fun hc179 => absurd hc179 (by decide)) (fun hc179 => ?_)
    refine Go.iload (q := 184) hx (hb hby at_182) rfl rfl ?_
    refine Go.bipush (q := 186) (z := (10 : Int32)) hx (hb hby at_184) rfl rfl ?_
    refine Go.icmp_ne (q := 189) (t := 197) hx (hb hby at_186) (by decide) rfl rfl (fun hc186 => ?_) (fun hc186 => ?_)
    · skip
      refine Go.iload (q := 199) hx (hb hby at_197) rfl rfl ?_
      refine Go.iconst (q := 200) (z := (2 : Int32)) hx (hb hby at_199) rfl rfl ?_
      refine Go.icmp_le (q := 203) (t := 218) hx (hb hby at_200) (by decide) rfl rfl (fun hc200 => absurd hc200 (by decide)) (fun hc200 => ?_)
      refine Go.iload (q := 205) hx (hb hby at_203) rfl rfl ?_
      refine Go.bipush (q := 207) (z := (10 : Int32)) hx (hb hby at_205) rfl rfl ?_
      refine Go.icmp_ne (q := 210) (t := 218) hx (hb hby at_207) (by decide) rfl rfl (fun hc207 => ?_) (fun hc207 => ?_)
      · skip
        refine Go.iload (q := 220) hx (hb hby at_218) rfl rfl ?_
        refine Go.iconst (q := 221) (z := (1 : Int32)) hx (hb hby at_220) rfl rfl ?_
        refine Go.icmp_le (q := 224) (t := 239) hx (hb hby at_221) (by decide) rfl rfl (fun hc221 => absurd hc221 (by decide)) (fun hc221 => ?_)
        refine Go.iload (q := 226) hx (hb hby at_224) rfl rfl ?_
        refine Go.bipush (q := 228) (z := (10 : Int32)) hx (hb hby at_226) rfl rfl ?_
        refine Go.icmp_ne (q := 231) (t := 239) hx (hb hby at_228) (by decide) rfl rfl (fun hc228 => ?_) (fun hc228 => ?_)
        · skip
          refine Go.iload (q := 241) hx (hb hby at_239) rfl rfl ?_
          refine Go.if_le (q := 244) (t := 257) hx (hb hby at_241) (by decide) rfl rfl (fun hc241 => absurd hc241 (by decide)) (fun hc241 => ?_)
          refine Go.iload (q := 246) hx (hb hby at_244) rfl rfl ?_
          refine Go.bipush (q := 248) (z := (10 : Int32)) hx (hb hby at_246) rfl rfl ?_
          refine Go.icmp_ne (q := 251) (t := 257) hx (hb hby at_248) (by decide) rfl rfl (fun hc248 => ?_) (fun hc248 => ?_)
          · skip
            refine Go.lconst (q := 258) (z := (0 : Int64)) hx (hb hby at_257) rfl rfl ?_
            refine Go.lstore (q := 260) (l' := #[.val (.int p1), .val (.long pb), .second, .val (.int p3), .val (.int (4 : Int32)), .val (.int b0), .val (.int b1), .val (.int b2), .val (.int b3), .val (.int b4), .val (.int b5), .val (.ref a173), .val (.long (0 : Int64)), .second]) hx (hb hby at_258) rfl rfl ?_
            refine Go.aload (q := 262) hx (hb hby at_260) rfl (by rfl) rfl ?_
            refine Go.callS (q := 265) hx hZ (argsL := [(.ref a173)]) (rest := []) hown (hw _ (List.mem_of_getElem? (i := 6) rfl)) (hw _ (List.mem_of_getElem? (i := 7) rfl)) (hw _ (List.mem_of_getElem? (i := 8) rfl)) (hw _ (List.mem_of_getElem? (i := 9) rfl)) (by decide) (rmW4 l Z a0 hw a173 k174 (nar .byte b0) (nar .byte b1) (nar .byte b2) (nar .byte b3) h189 n0 (Nat.le_trans (Nat.le_trans (Nat.le_trans (Nat.le_trans (Nat.le_trans Z0 E176.1) (Keep.of_wr W181).1) (Keep.of_wr W184).1) (Keep.of_wr W187).1) (Keep.of_wr W190).1) V191) (by rw [hml]; rfl) pd_1 rfl rfl (hb hby at_262) rfl (by decide) (Nat.le_of_ble_eq_true rfl) (ce' := 1) (sl' := 4) rfl rfl (by decide) (by decide) (fun v192 h193 hQ194 => ?_)
            obtain ⟨rfl, rfl⟩ := hQ194
            simp only [nb0, nb1, nb2, nb3]
            show Go _ _ _ _ _ _ _ _ _ _ _ _ _ _ _ 1 4 265 #[.val (.int p1), .val (.long pb), .second, .val (.int p3), .val (.int (4 : Int32)), .val (.int b0), .val (.int b1), .val (.int b2), .val (.int b3), .val (.int b4), .val (.int b5), .val (.ref a173), .val (.long (0 : Int64)), .second] [(.long (if b3 = (10 : Int32) then (4 : Int64) else if b2 = (10 : Int32) then (3 : Int64) else if b1 = (10 : Int32) then (2 : Int64) else if b0 = (10 : Int32) then (1 : Int64) else (0 : Int64)))]
            refine Go.lload (q := 267) hx (hb hby at_265) rfl rfl ?_
            refine Go.lcmp (q := 268) hx (hb hby at_267) rfl ?_
            refine Go.if_ne (q := 271) (t := 275) hx (hb hby at_268) (by decide) rfl rfl (fun hc268 => absurd ((cmpL_eq _ _).mpr (by rw [if_neg hc186, if_neg hc207, if_neg hc228, if_neg hc248])) hc268) (fun hc268 => ?_)
            refine Go.iconst (q := 272) (z := (1 : Int32)) hx (hb hby at_271) rfl rfl ?_
            refine Go.goto (q := 276) hx (hb hby at_272) (by decide) rfl ?_
            refine Go.retN hx (t := .boolean) hret (by simp) hlk (hb hby at_276) (by decide) (by decide) ?_
            rfl
          · skip
            refine Go.lconst (q := 252) (z := (1 : Int64)) hx (hb hby at_251) rfl rfl ?_
            refine Go.lstore (q := 254) (l' := #[.val (.int p1), .val (.long pb), .second, .val (.int p3), .val (.int (4 : Int32)), .val (.int b0), .val (.int b1), .val (.int b2), .val (.int b3), .val (.int b4), .val (.int b5), .val (.ref a173), .val (.long (1 : Int64)), .second]) hx (hb hby at_252) rfl rfl ?_
            refine Go.goto (q := 260) hx (hb hby at_254) (by decide) rfl ?_
            refine Go.aload (q := 262) hx (hb hby at_260) rfl (by rfl) rfl ?_
            refine Go.callS (q := 265) hx hZ (argsL := [(.ref a173)]) (rest := []) hown (hw _ (List.mem_of_getElem? (i := 6) rfl)) (hw _ (List.mem_of_getElem? (i := 7) rfl)) (hw _ (List.mem_of_getElem? (i := 8) rfl)) (hw _ (List.mem_of_getElem? (i := 9) rfl)) (by decide) (rmW4 l Z a0 hw a173 k174 (nar .byte b0) (nar .byte b1) (nar .byte b2) (nar .byte b3) h189 n0 (Nat.le_trans (Nat.le_trans (Nat.le_trans (Nat.le_trans (Nat.le_trans Z0 E176.1) (Keep.of_wr W181).1) (Keep.of_wr W184).1) (Keep.of_wr W187).1) (Keep.of_wr W190).1) V191) (by rw [hml]; rfl) pd_1 rfl rfl (hb hby at_262) rfl (by decide) (Nat.le_of_ble_eq_true rfl) (ce' := 1) (sl' := 4) rfl rfl (by decide) (by decide) (fun v195 h196 hQ197 => ?_)
            obtain ⟨rfl, rfl⟩ := hQ197
            simp only [nb0, nb1, nb2, nb3]
            show Go _ _ _ _ _ _ _ _ _ _ _ _ _ _ _ 1 4 265 #[.val (.int p1), .val (.long pb), .second, .val (.int p3), .val (.int (4 : Int32)), .val (.int b0), .val (.int b1), .val (.int b2), .val (.int b3), .val (.int b4), .val (.int b5), .val (.ref a173), .val (.long (1 : Int64)), .second] [(.long (if b3 = (10 : Int32) then (4 : Int64) else if b2 = (10 : Int32) then (3 : Int64) else if b1 = (10 : Int32) then (2 : Int64) else if b0 = (10 : Int32) then (1 : Int64) else (0 : Int64)))]
            refine Go.lload (q := 267) hx (hb hby at_265) rfl rfl ?_
            refine Go.lcmp (q := 268) hx (hb hby at_267) rfl ?_
            refine Go.if_ne (q := 271) (t := 275) hx (hb hby at_268) (by decide) rfl rfl (fun hc268 => absurd ((cmpL_eq _ _).mpr (by rw [if_neg hc186, if_neg hc207, if_neg hc228, if_pos hc248])) hc268) (fun hc268 => ?_)
            refine Go.iconst (q := 272) (z := (1 : Int32)) hx (hb hby at_271) rfl rfl ?_
            refine Go.goto (q := 276) hx (hb hby at_272) (by decide) rfl ?_
            refine Go.retN hx (t := .boolean) hret (by simp) hlk (hb hby at_276) (by decide) (by decide) ?_
            rfl
        · skip
          refine Go.ldc2Long (q := 234) hx hZ hown (hw _ (List.mem_of_getElem? (i := 11) rfl)) (hb hby at_231) rfl ?_
          refine Go.lstore (q := 236) (l' := #[.val (.int p1), .val (.long pb), .second, .val (.int p3), .val (.int (4 : Int32)), .val (.int b0), .val (.int b1), .val (.int b2), .val (.int b3), .val (.int b4), .val (.int b5), .val (.ref a173), .val (.long (2 : Int64)), .second]) hx (hb hby at_234) rfl rfl ?_
          refine Go.goto (q := 260) hx (hb hby at_236) (by decide) rfl ?_
          refine Go.aload (q := 262) hx (hb hby at_260) rfl (by rfl) rfl ?_
          refine Go.callS (q := 265) hx hZ (argsL := [(.ref a173)]) (rest := []) hown (hw _ (List.mem_of_getElem? (i := 6) rfl)) (hw _ (List.mem_of_getElem? (i := 7) rfl)) (hw _ (List.mem_of_getElem? (i := 8) rfl)) (hw _ (List.mem_of_getElem? (i := 9) rfl)) (by decide) (rmW4 l Z a0 hw a173 k174 (nar .byte b0) (nar .byte b1) (nar .byte b2) (nar .byte b3) h189 n0 (Nat.le_trans (Nat.le_trans (Nat.le_trans (Nat.le_trans (Nat.le_trans Z0 E176.1) (Keep.of_wr W181).1) (Keep.of_wr W184).1) (Keep.of_wr W187).1) (Keep.of_wr W190).1) V191) (by rw [hml]; rfl) pd_1 rfl rfl (hb hby at_262) rfl (by decide) (Nat.le_of_ble_eq_true rfl) (ce' := 1) (sl' := 4) rfl rfl (by decide) (by decide) (fun v198 h199 hQ200 => ?_)
          obtain ⟨rfl, rfl⟩ := hQ200
          simp only [nb0, nb1, nb2, nb3]
          show Go _ _ _ _ _ _ _ _ _ _ _ _ _ _ _ 1 4 265 #[.val (.int p1), .val (.long pb), .second, .val (.int p3), .val (.int (4 : Int32)), .val (.int b0), .val (.int b1), .val (.int b2), .val (.int b3), .val (.int b4), .val (.int b5), .val (.ref a173), .val (.long (2 : Int64)), .second] [(.long (if b3 = (10 : Int32) then (4 : Int64) else if b2 = (10 : Int32) then (3 : Int64) else if b1 = (10 : Int32) then (2 : Int64) else if b0 = (10 : Int32) then (1 : Int64) else (0 : Int64)))]
          refine Go.lload (q := 267) hx (hb hby at_265) rfl rfl ?_
          refine Go.lcmp (q := 268) hx (hb hby at_267) rfl ?_
          refine Go.if_ne (q := 271) (t := 275) hx (hb hby at_268) (by decide) rfl rfl (fun hc268 => absurd ((cmpL_eq _ _).mpr (by rw [if_neg hc186, if_neg hc207, if_pos hc228])) hc268) (fun hc268 => ?_)
          refine Go.iconst (q := 272) (z := (1 : Int32)) hx (hb hby at_271) rfl rfl ?_
          refine Go.goto (q := 276) hx (hb hby at_272) (by decide) rfl ?_
          refine Go.retN hx (t := .boolean) hret (by simp) hlk (hb hby at_276) (by decide) (by decide) ?_
          rfl
      · skip
        refine Go.ldc2Long (q := 213) hx hZ hown (hw _ (List.mem_of_getElem? (i := 14) rfl)) (hb hby at_210) rfl ?_
        refine Go.lstore (q := 215) (l' := #[.val (.int p1), .val (.long pb), .second, .val (.int p3), .val (.int (4 : Int32)), .val (.int b0), .val (.int b1), .val (.int b2), .val (.int b3), .val (.int b4), .val (.int b5), .val (.ref a173), .val (.long (3 : Int64)), .second]) hx (hb hby at_213) rfl rfl ?_
        refine Go.goto (q := 260) hx (hb hby at_215) (by decide) rfl ?_
        refine Go.aload (q := 262) hx (hb hby at_260) rfl (by rfl) rfl ?_
        refine Go.callS (q := 265) hx hZ (argsL := [(.ref a173)]) (rest := []) hown (hw _ (List.mem_of_getElem? (i := 6) rfl)) (hw _ (List.mem_of_getElem? (i := 7) rfl)) (hw _ (List.mem_of_getElem? (i := 8) rfl)) (hw _ (List.mem_of_getElem? (i := 9) rfl)) (by decide) (rmW4 l Z a0 hw a173 k174 (nar .byte b0) (nar .byte b1) (nar .byte b2) (nar .byte b3) h189 n0 (Nat.le_trans (Nat.le_trans (Nat.le_trans (Nat.le_trans (Nat.le_trans Z0 E176.1) (Keep.of_wr W181).1) (Keep.of_wr W184).1) (Keep.of_wr W187).1) (Keep.of_wr W190).1) V191) (by rw [hml]; rfl) pd_1 rfl rfl (hb hby at_262) rfl (by decide) (Nat.le_of_ble_eq_true rfl) (ce' := 1) (sl' := 4) rfl rfl (by decide) (by decide) (fun v201 h202 hQ203 => ?_)
        obtain ⟨rfl, rfl⟩ := hQ203
        simp only [nb0, nb1, nb2, nb3]
        show Go _ _ _ _ _ _ _ _ _ _ _ _ _ _ _ 1 4 265 #[.val (.int p1), .val (.long pb), .second, .val (.int p3), .val (.int (4 : Int32)), .val (.int b0), .val (.int b1), .val (.int b2), .val (.int b3), .val (.int b4), .val (.int b5), .val (.ref a173), .val (.long (3 : Int64)), .second] [(.long (if b3 = (10 : Int32) then (4 : Int64) else if b2 = (10 : Int32) then (3 : Int64) else if b1 = (10 : Int32) then (2 : Int64) else if b0 = (10 : Int32) then (1 : Int64) else (0 : Int64)))]
        refine Go.lload (q := 267) hx (hb hby at_265) rfl rfl ?_
        refine Go.lcmp (q := 268) hx (hb hby at_267) rfl ?_
        refine Go.if_ne (q := 271) (t := 275) hx (hb hby at_268) (by decide) rfl rfl (fun hc268 => absurd ((cmpL_eq _ _).mpr (by rw [if_neg hc186, if_pos hc207])) hc268) (fun hc268 => ?_)
        refine Go.iconst (q := 272) (z := (1 : Int32)) hx (hb hby at_271) rfl rfl ?_
        refine Go.goto (q := 276) hx (hb hby at_272) (by decide) rfl ?_
        refine Go.retN hx (t := .boolean) hret (by simp) hlk (hb hby at_276) (by decide) (by decide) ?_
        rfl
    · skip
      refine Go.ldc2Long (q := 192) hx hZ hown (hw _ (List.mem_of_getElem? (i := 10) rfl)) (hb hby at_189) rfl ?_
      refine Go.lstore (q := 194) (l' := #[.val (.int p1), .val (.long pb), .second, .val (.int p3), .val (.int (4 : Int32)), .val (.int b0), .val (.int b1), .val (.int b2), .val (.int b3), .val (.int b4), .val (.int b5), .val (.ref a173), .val (.long (4 : Int64)), .second]) hx (hb hby at_192) rfl rfl ?_
      refine Go.goto (q := 260) hx (hb hby at_194) (by decide) rfl ?_
      refine Go.aload (q := 262) hx (hb hby at_260) rfl (by rfl) rfl ?_
      refine Go.callS (q := 265) hx hZ (argsL := [(.ref a173)]) (rest := []) hown (hw _ (List.mem_of_getElem? (i := 6) rfl)) (hw _ (List.mem_of_getElem? (i := 7) rfl)) (hw _ (List.mem_of_getElem? (i := 8) rfl)) (hw _ (List.mem_of_getElem? (i := 9) rfl)) (by decide) (rmW4 l Z a0 hw a173 k174 (nar .byte b0) (nar .byte b1) (nar .byte b2) (nar .byte b3) h189 n0 (Nat.le_trans (Nat.le_trans (Nat.le_trans (Nat.le_trans (Nat.le_trans Z0 E176.1) (Keep.of_wr W181).1) (Keep.of_wr W184).1) (Keep.of_wr W187).1) (Keep.of_wr W190).1) V191) (by rw [hml]; rfl) pd_1 rfl rfl (hb hby at_262) rfl (by decide) (Nat.le_of_ble_eq_true rfl) (ce' := 1) (sl' := 4) rfl rfl (by decide) (by decide) (fun v204 h205 hQ206 => ?_)
      obtain ⟨rfl, rfl⟩ := hQ206
      simp only [nb0, nb1, nb2, nb3]
      show Go _ _ _ _ _ _ _ _ _ _ _ _ _ _ _ 1 4 265 #[.val (.int p1), .val (.long pb), .second, .val (.int p3), .val (.int (4 : Int32)), .val (.int b0), .val (.int b1), .val (.int b2), .val (.int b3), .val (.int b4), .val (.int b5), .val (.ref a173), .val (.long (4 : Int64)), .second] [(.long (if b3 = (10 : Int32) then (4 : Int64) else if b2 = (10 : Int32) then (3 : Int64) else if b1 = (10 : Int32) then (2 : Int64) else if b0 = (10 : Int32) then (1 : Int64) else (0 : Int64)))]
      refine Go.lload (q := 267) hx (hb hby at_265) rfl rfl ?_
      refine Go.lcmp (q := 268) hx (hb hby at_267) rfl ?_
      refine Go.if_ne (q := 271) (t := 275) hx (hb hby at_268) (by decide) rfl rfl (fun hc268 => absurd ((cmpL_eq _ _).mpr (by rw [if_pos hc186])) hc268) (fun hc268 => ?_)
      refine Go.iconst (q := 272) (z := (1 : Int32)) hx (hb hby at_271) rfl rfl ?_
      refine Go.goto (q := 276) hx (hb hby at_272) (by decide) rfl ?_
      refine Go.retN hx (t := .boolean) hret (by simp) hlk (hb hby at_276) (by decide) (by decide) ?_
      rfl
  · rw [hk1]
    refine Go.istore (q := 9) (l' := #[.val (.int p1), .val (.long pb), .second, .val (.int p3), .val (.int (5 : Int32)), .unset, .unset, .unset, .unset, .unset, .unset, .unset, .unset, .unset]) hx (hb hby at_7) rfl rfl ?_
    refine Go.lloadN (q := 10) hx (hb hby at_9) rfl rfl ?_
    refine Go.iloadN (q := 11) hx (hb hby at_10) rfl rfl ?_
    refine Go.iconst (q := 12) (z := (0 : Int32)) hx (hb hby at_11) rfl rfl ?_
    refine Go.callS (q := 15) hx hZ (argsL := [(.long pb), (.int p3), (.int (0 : Int32))]) (rest := []) hown (hw _ (List.mem_of_getElem? (i := 1) rfl)) (hw _ (List.mem_of_getElem? (i := 2) rfl)) (hw _ (List.mem_of_getElem? (i := 3) rfl)) (hw _ (List.mem_of_getElem? (i := 4) rfl)) (by decide) (rmAt l Z a0 hw pb p3 (0 : Int32) h0 n0 Z0) (by rw [hml]; rfl) pd_0 rfl rfl (hb hby at_12) rfl (by decide) (Nat.le_of_ble_eq_true rfl) (ce' := 0) (sl' := 0) rfl rfl (by decide) (by decide) (fun v207 h208 hQ209 => ?_)
    obtain ⟨b0, rfl, nb0, rfl⟩ := hQ209
    show Go _ _ _ _ _ _ _ _ _ _ _ _ _ _ _ 0 0 15 #[.val (.int p1), .val (.long pb), .second, .val (.int p3), .val (.int (5 : Int32)), .unset, .unset, .unset, .unset, .unset, .unset, .unset, .unset, .unset] [(.int b0)]
    refine Go.istore (q := 17) (l' := #[.val (.int p1), .val (.long pb), .second, .val (.int p3), .val (.int (5 : Int32)), .val (.int b0), .unset, .unset, .unset, .unset, .unset, .unset, .unset, .unset]) hx (hb hby at_15) rfl rfl ?_
    refine Go.lloadN (q := 18) hx (hb hby at_17) rfl rfl ?_
    refine Go.iloadN (q := 19) hx (hb hby at_18) rfl rfl ?_
    refine Go.iconst (q := 20) (z := (1 : Int32)) hx (hb hby at_19) rfl rfl ?_
    refine Go.callS (q := 23) hx hZ (argsL := [(.long pb), (.int p3), (.int (1 : Int32))]) (rest := []) hown (hw _ (List.mem_of_getElem? (i := 1) rfl)) (hw _ (List.mem_of_getElem? (i := 2) rfl)) (hw _ (List.mem_of_getElem? (i := 3) rfl)) (hw _ (List.mem_of_getElem? (i := 4) rfl)) (by decide) (rmAt l Z a0 hw pb p3 (1 : Int32) h0 n0 Z0) (by rw [hml]; rfl) pd_0 rfl rfl (hb hby at_20) rfl (by decide) (Nat.le_of_ble_eq_true rfl) (ce' := 0) (sl' := 0) rfl rfl (by decide) (by decide) (fun v210 h211 hQ212 => ?_)
    obtain ⟨b1, rfl, nb1, rfl⟩ := hQ212
    show Go _ _ _ _ _ _ _ _ _ _ _ _ _ _ _ 0 0 23 #[.val (.int p1), .val (.long pb), .second, .val (.int p3), .val (.int (5 : Int32)), .val (.int b0), .unset, .unset, .unset, .unset, .unset, .unset, .unset, .unset] [(.int b1)]
    refine Go.istore (q := 25) (l' := #[.val (.int p1), .val (.long pb), .second, .val (.int p3), .val (.int (5 : Int32)), .val (.int b0), .val (.int b1), .unset, .unset, .unset, .unset, .unset, .unset, .unset]) hx (hb hby at_23) rfl rfl ?_
    refine Go.lloadN (q := 26) hx (hb hby at_25) rfl rfl ?_
    refine Go.iloadN (q := 27) hx (hb hby at_26) rfl rfl ?_
    refine Go.iconst (q := 28) (z := (2 : Int32)) hx (hb hby at_27) rfl rfl ?_
    refine Go.callS (q := 31) hx hZ (argsL := [(.long pb), (.int p3), (.int (2 : Int32))]) (rest := []) hown (hw _ (List.mem_of_getElem? (i := 1) rfl)) (hw _ (List.mem_of_getElem? (i := 2) rfl)) (hw _ (List.mem_of_getElem? (i := 3) rfl)) (hw _ (List.mem_of_getElem? (i := 4) rfl)) (by decide) (rmAt l Z a0 hw pb p3 (2 : Int32) h0 n0 Z0) (by rw [hml]; rfl) pd_0 rfl rfl (hb hby at_28) rfl (by decide) (Nat.le_of_ble_eq_true rfl) (ce' := 0) (sl' := 0) rfl rfl (by decide) (by decide) (fun v213 h214 hQ215 => ?_)
    obtain ⟨b2, rfl, nb2, rfl⟩ := hQ215
    show Go _ _ _ _ _ _ _ _ _ _ _ _ _ _ _ 0 0 31 #[.val (.int p1), .val (.long pb), .second, .val (.int p3), .val (.int (5 : Int32)), .val (.int b0), .val (.int b1), .unset, .unset, .unset, .unset, .unset, .unset, .unset] [(.int b2)]
    refine Go.istore (q := 33) (l' := #[.val (.int p1), .val (.long pb), .second, .val (.int p3), .val (.int (5 : Int32)), .val (.int b0), .val (.int b1), .val (.int b2), .unset, .unset, .unset, .unset, .unset, .unset]) hx (hb hby at_31) rfl rfl ?_
    refine Go.lloadN (q := 34) hx (hb hby at_33) rfl rfl ?_
    refine Go.iloadN (q := 35) hx (hb hby at_34) rfl rfl ?_
    refine Go.iconst (q := 36) (z := (3 : Int32)) hx (hb hby at_35) rfl rfl ?_
    refine Go.callS (q := 39) hx hZ (argsL := [(.long pb), (.int p3), (.int (3 : Int32))]) (rest := []) hown (hw _ (List.mem_of_getElem? (i := 1) rfl)) (hw _ (List.mem_of_getElem? (i := 2) rfl)) (hw _ (List.mem_of_getElem? (i := 3) rfl)) (hw _ (List.mem_of_getElem? (i := 4) rfl)) (by decide) (rmAt l Z a0 hw pb p3 (3 : Int32) h0 n0 Z0) (by rw [hml]; rfl) pd_0 rfl rfl (hb hby at_36) rfl (by decide) (Nat.le_of_ble_eq_true rfl) (ce' := 0) (sl' := 0) rfl rfl (by decide) (by decide) (fun v216 h217 hQ218 => ?_)
    obtain ⟨b3, rfl, nb3, rfl⟩ := hQ218
    show Go _ _ _ _ _ _ _ _ _ _ _ _ _ _ _ 0 0 39 #[.val (.int p1), .val (.long pb), .second, .val (.int p3), .val (.int (5 : Int32)), .val (.int b0), .val (.int b1), .val (.int b2), .unset, .unset, .unset, .unset, .unset, .unset] [(.int b3)]
    refine Go.istore (q := 41) (l' := #[.val (.int p1), .val (.long pb), .second, .val (.int p3), .val (.int (5 : Int32)), .val (.int b0), .val (.int b1), .val (.int b2), .val (.int b3), .unset, .unset, .unset, .unset, .unset]) hx (hb hby at_39) rfl rfl ?_
    refine Go.lloadN (q := 42) hx (hb hby at_41) rfl rfl ?_
    refine Go.iloadN (q := 43) hx (hb hby at_42) rfl rfl ?_
    refine Go.iconst (q := 44) (z := (4 : Int32)) hx (hb hby at_43) rfl rfl ?_
    refine Go.callS (q := 47) hx hZ (argsL := [(.long pb), (.int p3), (.int (4 : Int32))]) (rest := []) hown (hw _ (List.mem_of_getElem? (i := 1) rfl)) (hw _ (List.mem_of_getElem? (i := 2) rfl)) (hw _ (List.mem_of_getElem? (i := 3) rfl)) (hw _ (List.mem_of_getElem? (i := 4) rfl)) (by decide) (rmAt l Z a0 hw pb p3 (4 : Int32) h0 n0 Z0) (by rw [hml]; rfl) pd_0 rfl rfl (hb hby at_44) rfl (by decide) (Nat.le_of_ble_eq_true rfl) (ce' := 0) (sl' := 0) rfl rfl (by decide) (by decide) (fun v219 h220 hQ221 => ?_)
    obtain ⟨b4, rfl, nb4, rfl⟩ := hQ221
    show Go _ _ _ _ _ _ _ _ _ _ _ _ _ _ _ 0 0 47 #[.val (.int p1), .val (.long pb), .second, .val (.int p3), .val (.int (5 : Int32)), .val (.int b0), .val (.int b1), .val (.int b2), .val (.int b3), .unset, .unset, .unset, .unset, .unset] [(.int b4)]
    refine Go.istore (q := 49) (l' := #[.val (.int p1), .val (.long pb), .second, .val (.int p3), .val (.int (5 : Int32)), .val (.int b0), .val (.int b1), .val (.int b2), .val (.int b3), .val (.int b4), .unset, .unset, .unset, .unset]) hx (hb hby at_47) rfl rfl ?_
    refine Go.lloadN (q := 50) hx (hb hby at_49) rfl rfl ?_
    refine Go.iloadN (q := 51) hx (hb hby at_50) rfl rfl ?_
    refine Go.iconst (q := 52) (z := (5 : Int32)) hx (hb hby at_51) rfl rfl ?_
    refine Go.callS (q := 55) hx hZ (argsL := [(.long pb), (.int p3), (.int (5 : Int32))]) (rest := []) hown (hw _ (List.mem_of_getElem? (i := 1) rfl)) (hw _ (List.mem_of_getElem? (i := 2) rfl)) (hw _ (List.mem_of_getElem? (i := 3) rfl)) (hw _ (List.mem_of_getElem? (i := 4) rfl)) (by decide) (rmAt l Z a0 hw pb p3 (5 : Int32) h0 n0 Z0) (by rw [hml]; rfl) pd_0 rfl rfl (hb hby at_52) rfl (by decide) (Nat.le_of_ble_eq_true rfl) (ce' := 0) (sl' := 0) rfl rfl (by decide) (by decide) (fun v222 h223 hQ224 => ?_)
    obtain ⟨b5, rfl, nb5, rfl⟩ := hQ224
    show Go _ _ _ _ _ _ _ _ _ _ _ _ _ _ _ 0 0 55 #[.val (.int p1), .val (.long pb), .second, .val (.int p3), .val (.int (5 : Int32)), .val (.int b0), .val (.int b1), .val (.int b2), .val (.int b3), .val (.int b4), .unset, .unset, .unset, .unset] [(.int b5)]
    refine Go.istore (q := 57) (l' := #[.val (.int p1), .val (.long pb), .second, .val (.int p3), .val (.int (5 : Int32)), .val (.int b0), .val (.int b1), .val (.int b2), .val (.int b3), .val (.int b4), .val (.int b5), .unset, .unset, .unset]) hx (hb hby at_55) rfl rfl ?_
    refine Go.iload (q := 59) hx (hb hby at_57) rfl rfl ?_
    refine Go.newP (q := 61) (cap := 5) hx hZ (hw _ (List.mem_of_getElem? (i := 5) rfl)) (by decide) (by decide) (hb hby at_59) rfl (by decide) (ce' := 1) (sl' := 5) rfl rfl (by decide) (by decide) (fun h225 a226 k227 g228 E229 A230 => ?_)
    have gz231 : n0 ≤ a226 := by rw [g228]; exact Z0
    have V232 : Arv Z h225 a226 k227 .byte (5 : Int32) [(.int (0 : Int32)), (.int (0 : Int32)), (.int (0 : Int32)), (.int (0 : Int32)), (.int (0 : Int32))] (.int (0 : Int32)) := A230.pad (pad_rep [] (.int (0 : Int32)) 5)
    refine Go.astore (q := 63) (l' := #[.val (.int p1), .val (.long pb), .second, .val (.int p3), .val (.int (5 : Int32)), .val (.int b0), .val (.int b1), .val (.int b2), .val (.int b3), .val (.int b4), .val (.int b5), .val (.ref a226), .unset, .unset]) hx (hb hby at_61) (by rfl) rfl rfl ?_
    refine Go.iload (q := 65) hx (hb hby at_63) rfl rfl ?_
    refine Go.if_le (q := 68) (t := 74) hx (hb hby at_65) (by decide) rfl rfl (fun hc65 => absurd hc65 (by decide)) (fun hc65 => ?_)
    refine Go.aload (q := 70) hx (hb hby at_68) rfl (by rfl) rfl ?_
    refine Go.iconst (q := 71) (z := (0 : Int32)) hx (hb hby at_70) rfl rfl ?_
    refine Go.iload (q := 73) hx (hb hby at_71) rfl rfl ?_
    refine Go.bastore (q := 74) hx hZ V232 ⟨by decide, by decide⟩ 0 rfl (Nat.le_of_ble_eq_true rfl) gz231 (hb hby at_73) rfl (fun h233 W234 V235 => ?_)
    refine Go.iload (q := 76) hx (hb hby at_74) rfl rfl ?_
    refine Go.iconst (q := 77) (z := (1 : Int32)) hx (hb hby at_76) rfl rfl ?_
    refine Go.icmp_le (q := 80) (t := 86) hx (hb hby at_77) (by decide) rfl rfl (fun hc77 => absurd hc77 (by decide)) (fun hc77 => ?_)
    refine Go.aload (q := 82) hx (hb hby at_80) rfl (by rfl) rfl ?_
    refine Go.iconst (q := 83) (z := (1 : Int32)) hx (hb hby at_82) rfl rfl ?_
    refine Go.iload (q := 85) hx (hb hby at_83) rfl rfl ?_
    refine Go.bastore (q := 86) hx hZ V235 ⟨by decide, by decide⟩ 1 rfl (Nat.le_of_ble_eq_true rfl) gz231 (hb hby at_85) rfl (fun h236 W237 V238 => ?_)
    refine Go.iload (q := 88) hx (hb hby at_86) rfl rfl ?_
    refine Go.iconst (q := 89) (z := (2 : Int32)) hx (hb hby at_88) rfl rfl ?_
    refine Go.icmp_le (q := 92) (t := 98) hx (hb hby at_89) (by decide) rfl rfl (fun hc89 => absurd hc89 (by decide)) (fun hc89 => ?_)
    refine Go.aload (q := 94) hx (hb hby at_92) rfl (by rfl) rfl ?_
    refine Go.iconst (q := 95) (z := (2 : Int32)) hx (hb hby at_94) rfl rfl ?_
    refine Go.iload (q := 97) hx (hb hby at_95) rfl rfl ?_
    refine Go.bastore (q := 98) hx hZ V238 ⟨by decide, by decide⟩ 2 rfl (Nat.le_of_ble_eq_true rfl) gz231 (hb hby at_97) rfl (fun h239 W240 V241 => ?_)
    refine Go.iload (q := 100) hx (hb hby at_98) rfl rfl ?_
    refine Go.iconst (q := 101) (z := (3 : Int32)) hx (hb hby at_100) rfl rfl ?_
    refine Go.icmp_le (q := 104) (t := 110) hx (hb hby at_101) (by decide) rfl rfl (fun hc101 => absurd hc101 (by decide)) (fun hc101 => ?_)
    refine Go.aload (q := 106) hx (hb hby at_104) rfl (by rfl) rfl ?_
    refine Go.iconst (q := 107) (z := (3 : Int32)) hx (hb hby at_106) rfl rfl ?_
    refine Go.iload (q := 109) hx (hb hby at_107) rfl rfl ?_
    refine Go.bastore (q := 110) hx hZ V241 ⟨by decide, by decide⟩ 3 rfl (Nat.le_of_ble_eq_true rfl) gz231 (hb hby at_109) rfl (fun h242 W243 V244 => ?_)
    refine Go.iload (q := 112) hx (hb hby at_110) rfl rfl ?_
    refine Go.iconst (q := 113) (z := (4 : Int32)) hx (hb hby at_112) rfl rfl ?_
    refine Go.icmp_le (q := 116) (t := 122) hx (hb hby at_113) (by decide) rfl rfl (fun hc113 => absurd hc113 (by decide)) (fun hc113 => ?_)
    refine Go.aload (q := 118) hx (hb hby at_116) rfl (by rfl) rfl ?_
    refine Go.iconst (q := 119) (z := (4 : Int32)) hx (hb hby at_118) rfl rfl ?_
    refine Go.iload (q := 121) hx (hb hby at_119) rfl rfl ?_
    refine Go.bastore (q := 122) hx hZ V244 ⟨by decide, by decide⟩ 4 rfl (Nat.le_of_ble_eq_true rfl) gz231 (hb hby at_121) rfl (fun h245 W246 V247 => ?_)
    refine Go.iload (q := 124) hx (hb hby at_122) rfl rfl ?_
    refine Go.iconst (q := 125) (z := (5 : Int32)) hx (hb hby at_124) rfl rfl ?_
    refine Go.icmp_le (q := 128) (t := 134) hx (hb hby at_125) (by decide) rfl rfl (fun hc125 => ?_) (fun hc125 => absurd hc125 (by decide))
    refine Go.iload (q := 136) hx (hb hby at_134) rfl rfl ?_
    refine Go.iconst (q := 137) (z := (5 : Int32)) hx (hb hby at_136) rfl rfl ?_
    refine Go.icmp_le (q := 140) (t := 155) hx (hb hby at_137) (by decide) rfl rfl (fun hc137 => ?_) (fun hc137 => absurd hc137 (by decide))
    refine Go.iload (q := 157) hx (hb hby at_155) rfl rfl ?_
    refine Go.iconst (q := 158) (z := (4 : Int32)) hx (hb hby at_157) rfl rfl ?_
    refine Go.icmp_le (q := 161) (t := 176) hx (hb hby at_158) (by decide) rfl rfl (fun hc158 => absurd hc158 (by decide)) (fun hc158 => ?_)
    refine Go.iload (q := 163) hx (hb hby at_161) rfl rfl ?_
    refine Go.bipush (q := 165) (z := (10 : Int32)) hx (hb hby at_163) rfl rfl ?_
    refine Go.icmp_ne (q := 168) (t := 176) hx (hb hby at_165) (by decide) rfl rfl (fun hc165 => ?_) (fun hc165 => ?_)
    · skip
      refine Go.iload (q := 178) hx (hb hby at_176) rfl rfl ?_
      refine Go.iconst (q := 179) (z := (3 : Int32)) hx (hb hby at_178) rfl rfl ?_
      refine Go.icmp_le (q := 182) (t := 197) hx (hb hby at_179) (by decide) rfl rfl (fun hc179 => absurd hc179 (by decide)) (fun hc179 => ?_)
      refine Go.iload (q := 184) hx (hb hby at_182) rfl rfl ?_
      refine Go.bipush (q := 186) (z := (10 : Int32)) hx (hb hby at_184) rfl rfl ?_
      refine Go.icmp_ne (q := 189) (t := 197) hx (hb hby at_186) (by decide) rfl rfl (fun hc186 => ?_) (fun hc186 => ?_)
      · skip
        refine Go.iload (q := 199) hx (hb hby at_197) rfl rfl ?_
        refine Go.iconst (q := 200) (z := (2 : Int32)) hx (hb hby at_199) rfl rfl ?_
        refine Go.icmp_le (q := 203) (t := 218) hx (hb hby at_200) (by decide) rfl rfl (fun hc200 => absurd hc200 (by decide)) (fun hc200 => ?_)
        refine Go.iload (q := 205) hx (hb hby at_203) rfl rfl ?_
        refine Go.bipush (q := 207) (z := (10 : Int32)) hx (hb hby at_205) rfl rfl ?_
        refine Go.icmp_ne (q := 210) (t := 218) hx (hb hby at_207) (by decide) rfl rfl (fun hc207 => ?_) (fun hc207 => ?_)
        · skip
          refine Go.iload (q := 220) hx (hb hby at_218) rfl rfl ?_
          refine Go.iconst (q := 221) (z := (1 : Int32)) hx (hb hby at_220) rfl rfl ?_
          refine Go.icmp_le (q := 224) (t := 239) hx (hb hby at_221) (by decide) rfl rfl (fun hc221 => absurd hc221 (by decide)) (fun hc221 => ?_)
          refine Go.iload (q := 226) hx (hb hby at_224) rfl rfl ?_
          refine Go.bipush (q := 228) (z := (10 : Int32)) hx (hb hby at_226) rfl rfl ?_
          refine Go.icmp_ne (q := 231) (t := 239) hx (hb hby at_228) (by decide) rfl rfl (fun hc228 => ?_) (fun hc228 => ?_)
          · skip
            refine Go.iload (q := 241) hx (hb hby at_239) rfl rfl ?_
            refine Go.if_le (q := 244) (t := 257) hx (hb hby at_241) (by decide) rfl rfl (fun hc241 => absurd hc241 (by decide)) (fun hc241 => ?_)
            refine Go.iload (q := 246) hx (hb hby at_244) rfl rfl ?_
            refine Go.bipush (q := 248) (z := (10 : Int32)) hx (hb hby at_246) rfl rfl ?_
            refine Go.icmp_ne (q := 251) (t := 257) hx (hb hby at_248) (by decide) rfl rfl (fun hc248 => ?_) (fun hc248 => ?_)
            · skip
              refine Go.lconst (q := 258) (z := (0 : Int64)) hx (hb hby at_257) rfl rfl ?_
              refine Go.lstore (q := 260) (l' := #[.val (.int p1), .val (.long pb), .second, .val (.int p3), .val (.int (5 : Int32)), .val (.int b0), .val (.int b1), .val (.int b2), .val (.int b3), .val (.int b4), .val (.int b5), .val (.ref a226), .val (.long (0 : Int64)), .second]) hx (hb hby at_258) rfl rfl ?_
              refine Go.aload (q := 262) hx (hb hby at_260) rfl (by rfl) rfl ?_
              refine Go.callS (q := 265) hx hZ (argsL := [(.ref a226)]) (rest := []) hown (hw _ (List.mem_of_getElem? (i := 6) rfl)) (hw _ (List.mem_of_getElem? (i := 7) rfl)) (hw _ (List.mem_of_getElem? (i := 8) rfl)) (hw _ (List.mem_of_getElem? (i := 9) rfl)) (by decide) (rmW5 l Z a0 hw a226 k227 (nar .byte b0) (nar .byte b1) (nar .byte b2) (nar .byte b3) (nar .byte b4) h245 n0 (Nat.le_trans (Nat.le_trans (Nat.le_trans (Nat.le_trans (Nat.le_trans (Nat.le_trans Z0 E229.1) (Keep.of_wr W234).1) (Keep.of_wr W237).1) (Keep.of_wr W240).1) (Keep.of_wr W243).1) (Keep.of_wr W246).1) V247) (by rw [hml]; rfl) pd_1 rfl rfl (hb hby at_262) rfl (by decide) (Nat.le_of_ble_eq_true rfl) (ce' := 1) (sl' := 5) rfl rfl (by decide) (by decide) (fun v248 h249 hQ250 => ?_)
              obtain ⟨rfl, rfl⟩ := hQ250
              simp only [nb0, nb1, nb2, nb3, nb4]
              show Go _ _ _ _ _ _ _ _ _ _ _ _ _ _ _ 1 5 265 #[.val (.int p1), .val (.long pb), .second, .val (.int p3), .val (.int (5 : Int32)), .val (.int b0), .val (.int b1), .val (.int b2), .val (.int b3), .val (.int b4), .val (.int b5), .val (.ref a226), .val (.long (0 : Int64)), .second] [(.long (if b4 = (10 : Int32) then (5 : Int64) else if b3 = (10 : Int32) then (4 : Int64) else if b2 = (10 : Int32) then (3 : Int64) else if b1 = (10 : Int32) then (2 : Int64) else if b0 = (10 : Int32) then (1 : Int64) else (0 : Int64)))]
              refine Go.lload (q := 267) hx (hb hby at_265) rfl rfl ?_
              refine Go.lcmp (q := 268) hx (hb hby at_267) rfl ?_
              refine Go.if_ne (q := 271) (t := 275) hx (hb hby at_268) (by decide) rfl rfl (fun hc268 => absurd ((cmpL_eq _ _).mpr (by rw [if_neg hc165, if_neg hc186, if_neg hc207, if_neg hc228, if_neg hc248])) hc268) (fun hc268 => ?_)
              refine Go.iconst (q := 272) (z := (1 : Int32)) hx (hb hby at_271) rfl rfl ?_
              refine Go.goto (q := 276) hx (hb hby at_272) (by decide) rfl ?_
              refine Go.retN hx (t := .boolean) hret (by simp) hlk (hb hby at_276) (by decide) (by decide) ?_
              rfl
            · skip
              refine Go.lconst (q := 252) (z := (1 : Int64)) hx (hb hby at_251) rfl rfl ?_
              refine Go.lstore (q := 254) (l' := #[.val (.int p1), .val (.long pb), .second, .val (.int p3), .val (.int (5 : Int32)), .val (.int b0), .val (.int b1), .val (.int b2), .val (.int b3), .val (.int b4), .val (.int b5), .val (.ref a226), .val (.long (1 : Int64)), .second]) hx (hb hby at_252) rfl rfl ?_
              refine Go.goto (q := 260) hx (hb hby at_254) (by decide) rfl ?_
              refine Go.aload (q := 262) hx (hb hby at_260) rfl (by rfl) rfl ?_
              refine Go.callS (q := 265) hx hZ (argsL := [(.ref a226)]) (rest := []) hown (hw _ (List.mem_of_getElem? (i := 6) rfl)) (hw _ (List.mem_of_getElem? (i := 7) rfl)) (hw _ (List.mem_of_getElem? (i := 8) rfl)) (hw _ (List.mem_of_getElem? (i := 9) rfl)) (by decide) (rmW5 l Z a0 hw a226 k227 (nar .byte b0) (nar .byte b1) (nar .byte b2) (nar .byte b3) (nar .byte b4) h245 n0 (Nat.le_trans (Nat.le_trans (Nat.le_trans (Nat.le_trans (Nat.le_trans (Nat.le_trans Z0 E229.1) (Keep.of_wr W234).1) (Keep.of_wr W237).1) (Keep.of_wr W240).1) (Keep.of_wr W243).1) (Keep.of_wr W246).1) V247) (by rw [hml]; rfl) pd_1 rfl rfl (hb hby at_262) rfl (by decide) (Nat.le_of_ble_eq_true rfl) (ce' := 1) (sl' := 5) rfl rfl (by decide) (by decide) (fun v251 h252 hQ253 => ?_)
              obtain ⟨rfl, rfl⟩ := hQ253
              simp only [nb0, nb1, nb2, nb3, nb4]
              show Go _ _ _ _ _ _ _ _ _ _ _ _ _ _ _ 1 5 265 #[.val (.int p1), .val (.long pb), .second, .val (.int p3), .val (.int (5 : Int32)), .val (.int b0), .val (.int b1), .val (.int b2), .val (.int b3), .val (.int b4), .val (.int b5), .val (.ref a226), .val (.long (1 : Int64)), .second] [(.long (if b4 = (10 : Int32) then (5 : Int64) else if b3 = (10 : Int32) then (4 : Int64) else if b2 = (10 : Int32) then (3 : Int64) else if b1 = (10 : Int32) then (2 : Int64) else if b0 = (10 : Int32) then (1 : Int64) else (0 : Int64)))]
              refine Go.lload (q := 267) hx (hb hby at_265) rfl rfl ?_
              refine Go.lcmp (q := 268) hx (hb hby at_267) rfl ?_
              refine Go.if_ne (q := 271) (t := 275) hx (hb hby at_268) (by decide) rfl rfl (fun hc268 => absurd ((cmpL_eq _ _).mpr (by rw [if_neg hc165, if_neg hc186, if_neg hc207, if_neg hc228, if_pos hc248])) hc268) (fun hc268 => ?_)
              refine Go.iconst (q := 272) (z := (1 : Int32)) hx (hb hby at_271) rfl rfl ?_
              refine Go.goto (q := 276) hx (hb hby at_272) (by decide) rfl ?_
              refine Go.retN hx (t := .boolean) hret (by simp) hlk (hb hby at_276) (by decide) (by decide) ?_
              rfl
          · skip
            refine Go.ldc2Long (q := 234) hx hZ hown (hw _ (List.mem_of_getElem? (i := 11) rfl)) (hb hby at_231) rfl ?_
            refine Go.lstore (q := 236) (l' := #[.val (.int p1), .val (.long pb), .second, .val (.int p3), .val (.int (5 : Int32)), .val (.int b0), .val (.int b1), .val (.int b2), .val (.int b3), .val (.int b4), .val (.int b5), .val (.ref a226), .val (.long (2 : Int64)), .second]) hx (hb hby at_234) rfl rfl ?_
            refine Go.goto (q := 260) hx (hb hby at_236) (by decide) rfl ?_
            refine Go.aload (q := 262) hx (hb hby at_260) rfl (by rfl) rfl ?_
            refine Go.callS (q := 265) hx hZ (argsL := [(.ref a226)]) (rest := []) hown (hw _ (List.mem_of_getElem? (i := 6) rfl)) (hw _ (List.mem_of_getElem? (i := 7) rfl)) (hw _ (List.mem_of_getElem? (i := 8) rfl)) (hw _ (List.mem_of_getElem? (i := 9) rfl)) (by decide) (rmW5 l Z a0 hw a226 k227 (nar .byte b0) (nar .byte b1) (nar .byte b2) (nar .byte b3) (nar .byte b4) h245 n0 (Nat.le_trans (Nat.le_trans (Nat.le_trans (Nat.le_trans (Nat.le_trans (Nat.le_trans Z0 E229.1) (Keep.of_wr W234).1) (Keep.of_wr W237).1) (Keep.of_wr W240).1) (Keep.of_wr W243).1) (Keep.of_wr W246).1) V247) (by rw [hml]; rfl) pd_1 rfl rfl (hb hby at_262) rfl (by decide) (Nat.le_of_ble_eq_true rfl) (ce' := 1) (sl' := 5) rfl rfl (by decide) (by decide) (fun v254 h255 hQ256 => ?_)
            obtain ⟨rfl, rfl⟩ := hQ256
            simp only [nb0, nb1, nb2, nb3, nb4]
            show Go _ _ _ _ _ _ _ _ _ _ _ _ _ _ _ 1 5 265 #[.val (.int p1), .val (.long pb), .second, .val (.int p3), .val (.int (5 : Int32)), .val (.int b0), .val (.int b1), .val (.int b2), .val (.int b3), .val (.int b4), .val (.int b5), .val (.ref a226), .val (.long (2 : Int64)), .second] [(.long (if b4 = (10 : Int32) then (5 : Int64) else if b3 = (10 : Int32) then (4 : Int64) else if b2 = (10 : Int32) then (3 : Int64) else if b1 = (10 : Int32) then (2 : Int64) else if b0 = (10 : Int32) then (1 : Int64) else (0 : Int64)))]
            refine Go.lload (q := 267) hx (hb hby at_265) rfl rfl ?_
            refine Go.lcmp (q := 268) hx (hb hby at_267) rfl ?_
            refine Go.if_ne (q := 271) (t := 275) hx (hb hby at_268) (by decide) rfl rfl (fun hc268 => absurd ((cmpL_eq _ _).mpr (by rw [if_neg hc165, if_neg hc186, if_neg hc207, if_pos hc228])) hc268) (fun hc268 => ?_)
            refine Go.iconst (q := 272) (z := (1 : Int32)) hx (hb hby at_271) rfl rfl ?_
            refine Go.goto (q := 276) hx (hb hby at_272) (by decide) rfl ?_
            refine Go.retN hx (t := .boolean) hret (by simp) hlk (hb hby at_276) (by decide) (by decide) ?_
            rfl
        · skip
          refine Go.ldc2Long (q := 213) hx hZ hown (hw _ (List.mem_of_getElem? (i := 14) rfl)) (hb hby at_210) rfl ?_
          refine Go.lstore (q := 215) (l' := #[.val (.int p1), .val (.long pb), .second, .val (.int p3), .val (.int (5 : Int32)), .val (.int b0), .val (.int b1), .val (.int b2), .val (.int b3), .val (.int b4), .val (.int b5), .val (.ref a226), .val (.long (3 : Int64)), .second]) hx (hb hby at_213) rfl rfl ?_
          refine Go.goto (q := 260) hx (hb hby at_215) (by decide) rfl ?_
          refine Go.aload (q := 262) hx (hb hby at_260) rfl (by rfl) rfl ?_
          refine Go.callS (q := 265) hx hZ (argsL := [(.ref a226)]) (rest := []) hown (hw _ (List.mem_of_getElem? (i := 6) rfl)) (hw _ (List.mem_of_getElem? (i := 7) rfl)) (hw _ (List.mem_of_getElem? (i := 8) rfl)) (hw _ (List.mem_of_getElem? (i := 9) rfl)) (by decide) (rmW5 l Z a0 hw a226 k227 (nar .byte b0) (nar .byte b1) (nar .byte b2) (nar .byte b3) (nar .byte b4) h245 n0 (Nat.le_trans (Nat.le_trans (Nat.le_trans (Nat.le_trans (Nat.le_trans (Nat.le_trans Z0 E229.1) (Keep.of_wr W234).1) (Keep.of_wr W237).1) (Keep.of_wr W240).1) (Keep.of_wr W243).1) (Keep.of_wr W246).1) V247) (by rw [hml]; rfl) pd_1 rfl rfl (hb hby at_262) rfl (by decide) (Nat.le_of_ble_eq_true rfl) (ce' := 1) (sl' := 5) rfl rfl (by decide) (by decide) (fun v257 h258 hQ259 => ?_)
          obtain ⟨rfl, rfl⟩ := hQ259
          simp only [nb0, nb1, nb2, nb3, nb4]
          show Go _ _ _ _ _ _ _ _ _ _ _ _ _ _ _ 1 5 265 #[.val (.int p1), .val (.long pb), .second, .val (.int p3), .val (.int (5 : Int32)), .val (.int b0), .val (.int b1), .val (.int b2), .val (.int b3), .val (.int b4), .val (.int b5), .val (.ref a226), .val (.long (3 : Int64)), .second] [(.long (if b4 = (10 : Int32) then (5 : Int64) else if b3 = (10 : Int32) then (4 : Int64) else if b2 = (10 : Int32) then (3 : Int64) else if b1 = (10 : Int32) then (2 : Int64) else if b0 = (10 : Int32) then (1 : Int64) else (0 : Int64)))]
          refine Go.lload (q := 267) hx (hb hby at_265) rfl rfl ?_
          refine Go.lcmp (q := 268) hx (hb hby at_267) rfl ?_
          refine Go.if_ne (q := 271) (t := 275) hx (hb hby at_268) (by decide) rfl rfl (fun hc268 => absurd ((cmpL_eq _ _).mpr (by rw [if_neg hc165, if_neg hc186, if_pos hc207])) hc268) (fun hc268 => ?_)
          refine Go.iconst (q := 272) (z := (1 : Int32)) hx (hb hby at_271) rfl rfl ?_
          refine Go.goto (q := 276) hx (hb hby at_272) (by decide) rfl ?_
          refine Go.retN hx (t := .boolean) hret (by simp) hlk (hb hby at_276) (by decide) (by decide) ?_
          rfl
      · skip
        refine Go.ldc2Long (q := 192) hx hZ hown (hw _ (List.mem_of_getElem? (i := 10) rfl)) (hb hby at_189) rfl ?_
        refine Go.lstore (q := 194) (l' := #[.val (.int p1), .val (.long pb), .second, .val (.int p3), .val (.int (5 : Int32)), .val (.int b0), .val (.int b1), .val (.int b2), .val (.int b3), .val (.int b4), .val (.int b5), .val (.ref a226), .val (.long (4 : Int64)), .second]) hx (hb hby at_192) rfl rfl ?_
        refine Go.goto (q := 260) hx (hb hby at_194) (by decide) rfl ?_
        refine Go.aload (q := 262) hx (hb hby at_260) rfl (by rfl) rfl ?_
        refine Go.callS (q := 265) hx hZ (argsL := [(.ref a226)]) (rest := []) hown (hw _ (List.mem_of_getElem? (i := 6) rfl)) (hw _ (List.mem_of_getElem? (i := 7) rfl)) (hw _ (List.mem_of_getElem? (i := 8) rfl)) (hw _ (List.mem_of_getElem? (i := 9) rfl)) (by decide) (rmW5 l Z a0 hw a226 k227 (nar .byte b0) (nar .byte b1) (nar .byte b2) (nar .byte b3) (nar .byte b4) h245 n0 (Nat.le_trans (Nat.le_trans (Nat.le_trans (Nat.le_trans (Nat.le_trans (Nat.le_trans Z0 E229.1) (Keep.of_wr W234).1) (Keep.of_wr W237).1) (Keep.of_wr W240).1) (Keep.of_wr W243).1) (Keep.of_wr W246).1) V247) (by rw [hml]; rfl) pd_1 rfl rfl (hb hby at_262) rfl (by decide) (Nat.le_of_ble_eq_true rfl) (ce' := 1) (sl' := 5) rfl rfl (by decide) (by decide) (fun v260 h261 hQ262 => ?_)
        obtain ⟨rfl, rfl⟩ := hQ262
        simp only [nb0, nb1, nb2, nb3, nb4]
        show Go _ _ _ _ _ _ _ _ _ _ _ _ _ _ _ 1 5 265 #[.val (.int p1), .val (.long pb), .second, .val (.int p3), .val (.int (5 : Int32)), .val (.int b0), .val (.int b1), .val (.int b2), .val (.int b3), .val (.int b4), .val (.int b5), .val (.ref a226), .val (.long (4 : Int64)), .second] [(.long (if b4 = (10 : Int32) then (5 : Int64) else if b3 = (10 : Int32) then (4 : Int64) else if b2 = (10 : Int32) then (3 : Int64) else if b1 = (10 : Int32) then (2 : Int64) else if b0 = (10 : Int32) then (1 : Int64) else (0 : Int64)))]
        refine Go.lload (q := 267) hx (hb hby at_265) rfl rfl ?_
        refine Go.lcmp (q := 268) hx (hb hby at_267) rfl ?_
        refine Go.if_ne (q := 271) (t := 275) hx (hb hby at_268) (by decide) rfl rfl (fun hc268 => absurd ((cmpL_eq _ _).mpr (by rw [if_neg hc165, if_pos hc186])) hc268) (fun hc268 => ?_)
        refine Go.iconst (q := 272) (z := (1 : Int32)) hx (hb hby at_271) rfl rfl ?_
        refine Go.goto (q := 276) hx (hb hby at_272) (by decide) rfl ?_
        refine Go.retN hx (t := .boolean) hret (by simp) hlk (hb hby at_276) (by decide) (by decide) ?_
        rfl
    · skip
      refine Go.ldc2Long (q := 171) hx hZ hown (hw _ (List.mem_of_getElem? (i := 12) rfl)) (hb hby at_168) rfl ?_
      refine Go.lstore (q := 173) (l' := #[.val (.int p1), .val (.long pb), .second, .val (.int p3), .val (.int (5 : Int32)), .val (.int b0), .val (.int b1), .val (.int b2), .val (.int b3), .val (.int b4), .val (.int b5), .val (.ref a226), .val (.long (5 : Int64)), .second]) hx (hb hby at_171) rfl rfl ?_
      refine Go.goto (q := 260) hx (hb hby at_173) (by decide) rfl ?_
      refine Go.aload (q := 262) hx (hb hby at_260) rfl (by rfl) rfl ?_
      refine Go.callS (q := 265) hx hZ (argsL := [(.ref a226)]) (rest := []) hown (hw _ (List.mem_of_getElem? (i := 6) rfl)) (hw _ (List.mem_of_getElem? (i := 7) rfl)) (hw _ (List.mem_of_getElem? (i := 8) rfl)) (hw _ (List.mem_of_getElem? (i := 9) rfl)) (by decide) (rmW5 l Z a0 hw a226 k227 (nar .byte b0) (nar .byte b1) (nar .byte b2) (nar .byte b3) (nar .byte b4) h245 n0 (Nat.le_trans (Nat.le_trans (Nat.le_trans (Nat.le_trans (Nat.le_trans (Nat.le_trans Z0 E229.1) (Keep.of_wr W234).1) (Keep.of_wr W237).1) (Keep.of_wr W240).1) (Keep.of_wr W243).1) (Keep.of_wr W246).1) V247) (by rw [hml]; rfl) pd_1 rfl rfl (hb hby at_262) rfl (by decide) (Nat.le_of_ble_eq_true rfl) (ce' := 1) (sl' := 5) rfl rfl (by decide) (by decide) (fun v263 h264 hQ265 => ?_)
      obtain ⟨rfl, rfl⟩ := hQ265
      simp only [nb0, nb1, nb2, nb3, nb4]
      show Go _ _ _ _ _ _ _ _ _ _ _ _ _ _ _ 1 5 265 #[.val (.int p1), .val (.long pb), .second, .val (.int p3), .val (.int (5 : Int32)), .val (.int b0), .val (.int b1), .val (.int b2), .val (.int b3), .val (.int b4), .val (.int b5), .val (.ref a226), .val (.long (5 : Int64)), .second] [(.long (if b4 = (10 : Int32) then (5 : Int64) else if b3 = (10 : Int32) then (4 : Int64) else if b2 = (10 : Int32) then (3 : Int64) else if b1 = (10 : Int32) then (2 : Int64) else if b0 = (10 : Int32) then (1 : Int64) else (0 : Int64)))]
      refine Go.lload (q := 267) hx (hb hby at_265) rfl rfl ?_
      refine Go.lcmp (q := 268) hx (hb hby at_267) rfl ?_
      refine Go.if_ne (q := 271) (t := 275) hx (hb hby at_268) (by decide) rfl rfl (fun hc268 => absurd ((cmpL_eq _ _).mpr (by rw [if_pos hc165])) hc268) (fun hc268 => ?_)
      refine Go.iconst (q := 272) (z := (1 : Int32)) hx (hb hby at_271) rfl rfl ?_
      refine Go.goto (q := 276) hx (hb hby at_272) (by decide) rfl ?_
      refine Go.retN hx (t := .boolean) hret (by simp) hlk (hb hby at_276) (by decide) (by decide) ?_
      rfl
  · rw [hk1]
    refine Go.istore (q := 9) (l' := #[.val (.int p1), .val (.long pb), .second, .val (.int p3), .val (.int (6 : Int32)), .unset, .unset, .unset, .unset, .unset, .unset, .unset, .unset, .unset]) hx (hb hby at_7) rfl rfl ?_
    refine Go.lloadN (q := 10) hx (hb hby at_9) rfl rfl ?_
    refine Go.iloadN (q := 11) hx (hb hby at_10) rfl rfl ?_
    refine Go.iconst (q := 12) (z := (0 : Int32)) hx (hb hby at_11) rfl rfl ?_
    refine Go.callS (q := 15) hx hZ (argsL := [(.long pb), (.int p3), (.int (0 : Int32))]) (rest := []) hown (hw _ (List.mem_of_getElem? (i := 1) rfl)) (hw _ (List.mem_of_getElem? (i := 2) rfl)) (hw _ (List.mem_of_getElem? (i := 3) rfl)) (hw _ (List.mem_of_getElem? (i := 4) rfl)) (by decide) (rmAt l Z a0 hw pb p3 (0 : Int32) h0 n0 Z0) (by rw [hml]; rfl) pd_0 rfl rfl (hb hby at_12) rfl (by decide) (Nat.le_of_ble_eq_true rfl) (ce' := 0) (sl' := 0) rfl rfl (by decide) (by decide) (fun v266 h267 hQ268 => ?_)
    obtain ⟨b0, rfl, nb0, rfl⟩ := hQ268
    show Go _ _ _ _ _ _ _ _ _ _ _ _ _ _ _ 0 0 15 #[.val (.int p1), .val (.long pb), .second, .val (.int p3), .val (.int (6 : Int32)), .unset, .unset, .unset, .unset, .unset, .unset, .unset, .unset, .unset] [(.int b0)]
    refine Go.istore (q := 17) (l' := #[.val (.int p1), .val (.long pb), .second, .val (.int p3), .val (.int (6 : Int32)), .val (.int b0), .unset, .unset, .unset, .unset, .unset, .unset, .unset, .unset]) hx (hb hby at_15) rfl rfl ?_
    refine Go.lloadN (q := 18) hx (hb hby at_17) rfl rfl ?_
    refine Go.iloadN (q := 19) hx (hb hby at_18) rfl rfl ?_
    refine Go.iconst (q := 20) (z := (1 : Int32)) hx (hb hby at_19) rfl rfl ?_
    refine Go.callS (q := 23) hx hZ (argsL := [(.long pb), (.int p3), (.int (1 : Int32))]) (rest := []) hown (hw _ (List.mem_of_getElem? (i := 1) rfl)) (hw _ (List.mem_of_getElem? (i := 2) rfl)) (hw _ (List.mem_of_getElem? (i := 3) rfl)) (hw _ (List.mem_of_getElem? (i := 4) rfl)) (by decide) (rmAt l Z a0 hw pb p3 (1 : Int32) h0 n0 Z0) (by rw [hml]; rfl) pd_0 rfl rfl (hb hby at_20) rfl (by decide) (Nat.le_of_ble_eq_true rfl) (ce' := 0) (sl' := 0) rfl rfl (by decide) (by decide) (fun v269 h270 hQ271 => ?_)
    obtain ⟨b1, rfl, nb1, rfl⟩ := hQ271
    show Go _ _ _ _ _ _ _ _ _ _ _ _ _ _ _ 0 0 23 #[.val (.int p1), .val (.long pb), .second, .val (.int p3), .val (.int (6 : Int32)), .val (.int b0), .unset, .unset, .unset, .unset, .unset, .unset, .unset, .unset] [(.int b1)]
    refine Go.istore (q := 25) (l' := #[.val (.int p1), .val (.long pb), .second, .val (.int p3), .val (.int (6 : Int32)), .val (.int b0), .val (.int b1), .unset, .unset, .unset, .unset, .unset, .unset, .unset]) hx (hb hby at_23) rfl rfl ?_
    refine Go.lloadN (q := 26) hx (hb hby at_25) rfl rfl ?_
    refine Go.iloadN (q := 27) hx (hb hby at_26) rfl rfl ?_
    refine Go.iconst (q := 28) (z := (2 : Int32)) hx (hb hby at_27) rfl rfl ?_
    refine Go.callS (q := 31) hx hZ (argsL := [(.long pb), (.int p3), (.int (2 : Int32))]) (rest := []) hown (hw _ (List.mem_of_getElem? (i := 1) rfl)) (hw _ (List.mem_of_getElem? (i := 2) rfl)) (hw _ (List.mem_of_getElem? (i := 3) rfl)) (hw _ (List.mem_of_getElem? (i := 4) rfl)) (by decide) (rmAt l Z a0 hw pb p3 (2 : Int32) h0 n0 Z0) (by rw [hml]; rfl) pd_0 rfl rfl (hb hby at_28) rfl (by decide) (Nat.le_of_ble_eq_true rfl) (ce' := 0) (sl' := 0) rfl rfl (by decide) (by decide) (fun v272 h273 hQ274 => ?_)
    obtain ⟨b2, rfl, nb2, rfl⟩ := hQ274
    show Go _ _ _ _ _ _ _ _ _ _ _ _ _ _ _ 0 0 31 #[.val (.int p1), .val (.long pb), .second, .val (.int p3), .val (.int (6 : Int32)), .val (.int b0), .val (.int b1), .unset, .unset, .unset, .unset, .unset, .unset, .unset] [(.int b2)]
    refine Go.istore (q := 33) (l' := #[.val (.int p1), .val (.long pb), .second, .val (.int p3), .val (.int (6 : Int32)), .val (.int b0), .val (.int b1), .val (.int b2), .unset, .unset, .unset, .unset, .unset, .unset]) hx (hb hby at_31) rfl rfl ?_
    refine Go.lloadN (q := 34) hx (hb hby at_33) rfl rfl ?_
    refine Go.iloadN (q := 35) hx (hb hby at_34) rfl rfl ?_
    refine Go.iconst (q := 36) (z := (3 : Int32)) hx (hb hby at_35) rfl rfl ?_
    refine Go.callS (q := 39) hx hZ (argsL := [(.long pb), (.int p3), (.int (3 : Int32))]) (rest := []) hown (hw _ (List.mem_of_getElem? (i := 1) rfl)) (hw _ (List.mem_of_getElem? (i := 2) rfl)) (hw _ (List.mem_of_getElem? (i := 3) rfl)) (hw _ (List.mem_of_getElem? (i := 4) rfl)) (by decide) (rmAt l Z a0 hw pb p3 (3 : Int32) h0 n0 Z0) (by rw [hml]; rfl) pd_0 rfl rfl (hb hby at_36) rfl (by decide) (Nat.le_of_ble_eq_true rfl) (ce' := 0) (sl' := 0) rfl rfl (by decide) (by decide) (fun v275 h276 hQ277 => ?_)
    obtain ⟨b3, rfl, nb3, rfl⟩ := hQ277
    show Go _ _ _ _ _ _ _ _ _ _ _ _ _ _ _ 0 0 39 #[.val (.int p1), .val (.long pb), .second, .val (.int p3), .val (.int (6 : Int32)), .val (.int b0), .val (.int b1), .val (.int b2), .unset, .unset, .unset, .unset, .unset, .unset] [(.int b3)]
    refine Go.istore (q := 41) (l' := #[.val (.int p1), .val (.long pb), .second, .val (.int p3), .val (.int (6 : Int32)), .val (.int b0), .val (.int b1), .val (.int b2), .val (.int b3), .unset, .unset, .unset, .unset, .unset]) hx (hb hby at_39) rfl rfl ?_
    refine Go.lloadN (q := 42) hx (hb hby at_41) rfl rfl ?_
    refine Go.iloadN (q := 43) hx (hb hby at_42) rfl rfl ?_
    refine Go.iconst (q := 44) (z := (4 : Int32)) hx (hb hby at_43) rfl rfl ?_
    refine Go.callS (q := 47) hx hZ (argsL := [(.long pb), (.int p3), (.int (4 : Int32))]) (rest := []) hown (hw _ (List.mem_of_getElem? (i := 1) rfl)) (hw _ (List.mem_of_getElem? (i := 2) rfl)) (hw _ (List.mem_of_getElem? (i := 3) rfl)) (hw _ (List.mem_of_getElem? (i := 4) rfl)) (by decide) (rmAt l Z a0 hw pb p3 (4 : Int32) h0 n0 Z0) (by rw [hml]; rfl) pd_0 rfl rfl (hb hby at_44) rfl (by decide) (Nat.le_of_ble_eq_true rfl) (ce' := 0) (sl' := 0) rfl rfl (by decide) (by decide) (fun v278 h279 hQ280 => ?_)
    obtain ⟨b4, rfl, nb4, rfl⟩ := hQ280
    show Go _ _ _ _ _ _ _ _ _ _ _ _ _ _ _ 0 0 47 #[.val (.int p1), .val (.long pb), .second, .val (.int p3), .val (.int (6 : Int32)), .val (.int b0), .val (.int b1), .val (.int b2), .val (.int b3), .unset, .unset, .unset, .unset, .unset] [(.int b4)]
    refine Go.istore (q := 49) (l' := #[.val (.int p1), .val (.long pb), .second, .val (.int p3), .val (.int (6 : Int32)), .val (.int b0), .val (.int b1), .val (.int b2), .val (.int b3), .val (.int b4), .unset, .unset, .unset, .unset]) hx (hb hby at_47) rfl rfl ?_
    refine Go.lloadN (q := 50) hx (hb hby at_49) rfl rfl ?_
    refine Go.iloadN (q := 51) hx (hb hby at_50) rfl rfl ?_
    refine Go.iconst (q := 52) (z := (5 : Int32)) hx (hb hby at_51) rfl rfl ?_
    refine Go.callS (q := 55) hx hZ (argsL := [(.long pb), (.int p3), (.int (5 : Int32))]) (rest := []) hown (hw _ (List.mem_of_getElem? (i := 1) rfl)) (hw _ (List.mem_of_getElem? (i := 2) rfl)) (hw _ (List.mem_of_getElem? (i := 3) rfl)) (hw _ (List.mem_of_getElem? (i := 4) rfl)) (by decide) (rmAt l Z a0 hw pb p3 (5 : Int32) h0 n0 Z0) (by rw [hml]; rfl) pd_0 rfl rfl (hb hby at_52) rfl (by decide) (Nat.le_of_ble_eq_true rfl) (ce' := 0) (sl' := 0) rfl rfl (by decide) (by decide) (fun v281 h282 hQ283 => ?_)
    obtain ⟨b5, rfl, nb5, rfl⟩ := hQ283
    show Go _ _ _ _ _ _ _ _ _ _ _ _ _ _ _ 0 0 55 #[.val (.int p1), .val (.long pb), .second, .val (.int p3), .val (.int (6 : Int32)), .val (.int b0), .val (.int b1), .val (.int b2), .val (.int b3), .val (.int b4), .unset, .unset, .unset, .unset] [(.int b5)]
    refine Go.istore (q := 57) (l' := #[.val (.int p1), .val (.long pb), .second, .val (.int p3), .val (.int (6 : Int32)), .val (.int b0), .val (.int b1), .val (.int b2), .val (.int b3), .val (.int b4), .val (.int b5), .unset, .unset, .unset]) hx (hb hby at_55) rfl rfl ?_
    refine Go.iload (q := 59) hx (hb hby at_57) rfl rfl ?_
    refine Go.newP (q := 61) (cap := 6) hx hZ (hw _ (List.mem_of_getElem? (i := 5) rfl)) (by decide) (by decide) (hb hby at_59) rfl (by decide) (ce' := 1) (sl' := 6) rfl rfl (by decide) (by decide) (fun h284 a285 k286 g287 E288 A289 => ?_)
    have gz290 : n0 ≤ a285 := by rw [g287]; exact Z0
    have V291 : Arv Z h284 a285 k286 .byte (6 : Int32) [(.int (0 : Int32)), (.int (0 : Int32)), (.int (0 : Int32)), (.int (0 : Int32)), (.int (0 : Int32)), (.int (0 : Int32))] (.int (0 : Int32)) := A289.pad (pad_rep [] (.int (0 : Int32)) 6)
    refine Go.astore (q := 63) (l' := #[.val (.int p1), .val (.long pb), .second, .val (.int p3), .val (.int (6 : Int32)), .val (.int b0), .val (.int b1), .val (.int b2), .val (.int b3), .val (.int b4), .val (.int b5), .val (.ref a285), .unset, .unset]) hx (hb hby at_61) (by rfl) rfl rfl ?_
    refine Go.iload (q := 65) hx (hb hby at_63) rfl rfl ?_
    refine Go.if_le (q := 68) (t := 74) hx (hb hby at_65) (by decide) rfl rfl (fun hc65 => absurd hc65 (by decide)) (fun hc65 => ?_)
    refine Go.aload (q := 70) hx (hb hby at_68) rfl (by rfl) rfl ?_
    refine Go.iconst (q := 71) (z := (0 : Int32)) hx (hb hby at_70) rfl rfl ?_
    refine Go.iload (q := 73) hx (hb hby at_71) rfl rfl ?_
    refine Go.bastore (q := 74) hx hZ V291 ⟨by decide, by decide⟩ 0 rfl (Nat.le_of_ble_eq_true rfl) gz290 (hb hby at_73) rfl (fun h292 W293 V294 => ?_)
    refine Go.iload (q := 76) hx (hb hby at_74) rfl rfl ?_
    refine Go.iconst (q := 77) (z := (1 : Int32)) hx (hb hby at_76) rfl rfl ?_
    refine Go.icmp_le (q := 80) (t := 86) hx (hb hby at_77) (by decide) rfl rfl (fun hc77 => absurd hc77 (by decide)) (fun hc77 => ?_)
    refine Go.aload (q := 82) hx (hb hby at_80) rfl (by rfl) rfl ?_
    refine Go.iconst (q := 83) (z := (1 : Int32)) hx (hb hby at_82) rfl rfl ?_
    refine Go.iload (q := 85) hx (hb hby at_83) rfl rfl ?_
    refine Go.bastore (q := 86) hx hZ V294 ⟨by decide, by decide⟩ 1 rfl (Nat.le_of_ble_eq_true rfl) gz290 (hb hby at_85) rfl (fun h295 W296 V297 => ?_)
    refine Go.iload (q := 88) hx (hb hby at_86) rfl rfl ?_
    refine Go.iconst (q := 89) (z := (2 : Int32)) hx (hb hby at_88) rfl rfl ?_
    refine Go.icmp_le (q := 92) (t := 98) hx (hb hby at_89) (by decide) rfl rfl (fun hc89 => absurd hc89 (by decide)) (fun hc89 => ?_)
    refine Go.aload (q := 94) hx (hb hby at_92) rfl (by rfl) rfl ?_
    refine Go.iconst (q := 95) (z := (2 : Int32)) hx (hb hby at_94) rfl rfl ?_
    refine Go.iload (q := 97) hx (hb hby at_95) rfl rfl ?_
    refine Go.bastore (q := 98) hx hZ V297 ⟨by decide, by decide⟩ 2 rfl (Nat.le_of_ble_eq_true rfl) gz290 (hb hby at_97) rfl (fun h298 W299 V300 => ?_)
    refine Go.iload (q := 100) hx (hb hby at_98) rfl rfl ?_
    refine Go.iconst (q := 101) (z := (3 : Int32)) hx (hb hby at_100) rfl rfl ?_
    refine Go.icmp_le (q := 104) (t := 110) hx (hb hby at_101) (by decide) rfl rfl (fun hc101 => absurd hc101 (by decide)) (fun hc101 => ?_)
    refine Go.aload (q := 106) hx (hb hby at_104) rfl (by rfl) rfl ?_
    refine Go.iconst (q := 107) (z := (3 : Int32)) hx (hb hby at_106) rfl rfl ?_
    refine Go.iload (q := 109) hx (hb hby at_107) rfl rfl ?_
    refine Go.bastore (q := 110) hx hZ V300 ⟨by decide, by decide⟩ 3 rfl (Nat.le_of_ble_eq_true rfl) gz290 (hb hby at_109) rfl (fun h301 W302 V303 => ?_)
    refine Go.iload (q := 112) hx (hb hby at_110) rfl rfl ?_
    refine Go.iconst (q := 113) (z := (4 : Int32)) hx (hb hby at_112) rfl rfl ?_
    refine Go.icmp_le (q := 116) (t := 122) hx (hb hby at_113) (by decide) rfl rfl (fun hc113 => absurd hc113 (by decide)) (fun hc113 => ?_)
    refine Go.aload (q := 118) hx (hb hby at_116) rfl (by rfl) rfl ?_
    refine Go.iconst (q := 119) (z := (4 : Int32)) hx (hb hby at_118) rfl rfl ?_
    refine Go.iload (q := 121) hx (hb hby at_119) rfl rfl ?_
    refine Go.bastore (q := 122) hx hZ V303 ⟨by decide, by decide⟩ 4 rfl (Nat.le_of_ble_eq_true rfl) gz290 (hb hby at_121) rfl (fun h304 W305 V306 => ?_)
    refine Go.iload (q := 124) hx (hb hby at_122) rfl rfl ?_
    refine Go.iconst (q := 125) (z := (5 : Int32)) hx (hb hby at_124) rfl rfl ?_
    refine Go.icmp_le (q := 128) (t := 134) hx (hb hby at_125) (by decide) rfl rfl (fun hc125 => absurd hc125 (by decide)) (fun hc125 => ?_)
    refine Go.aload (q := 130) hx (hb hby at_128) rfl (by rfl) rfl ?_
    refine Go.iconst (q := 131) (z := (5 : Int32)) hx (hb hby at_130) rfl rfl ?_
    refine Go.iload (q := 133) hx (hb hby at_131) rfl rfl ?_
    refine Go.bastore (q := 134) hx hZ V306 ⟨by decide, by decide⟩ 5 rfl (Nat.le_of_ble_eq_true rfl) gz290 (hb hby at_133) rfl (fun h307 W308 V309 => ?_)
    refine Go.iload (q := 136) hx (hb hby at_134) rfl rfl ?_
    refine Go.iconst (q := 137) (z := (5 : Int32)) hx (hb hby at_136) rfl rfl ?_
    refine Go.icmp_le (q := 140) (t := 155) hx (hb hby at_137) (by decide) rfl rfl (fun hc137 => absurd hc137 (by decide)) (fun hc137 => ?_)
    refine Go.iload (q := 142) hx (hb hby at_140) rfl rfl ?_
    refine Go.bipush (q := 144) (z := (10 : Int32)) hx (hb hby at_142) rfl rfl ?_
    refine Go.icmp_ne (q := 147) (t := 155) hx (hb hby at_144) (by decide) rfl rfl (fun hc144 => ?_) (fun hc144 => ?_)
    · skip
      refine Go.iload (q := 157) hx (hb hby at_155) rfl rfl ?_
      refine Go.iconst (q := 158) (z := (4 : Int32)) hx (hb hby at_157) rfl rfl ?_
      refine Go.icmp_le (q := 161) (t := 176) hx (hb hby at_158) (by decide) rfl rfl (fun hc158 => absurd hc158 (by decide)) (fun hc158 => ?_)
      refine Go.iload (q := 163) hx (hb hby at_161) rfl rfl ?_
      refine Go.bipush (q := 165) (z := (10 : Int32)) hx (hb hby at_163) rfl rfl ?_
      refine Go.icmp_ne (q := 168) (t := 176) hx (hb hby at_165) (by decide) rfl rfl (fun hc165 => ?_) (fun hc165 => ?_)
      · skip
        refine Go.iload (q := 178) hx (hb hby at_176) rfl rfl ?_
        refine Go.iconst (q := 179) (z := (3 : Int32)) hx (hb hby at_178) rfl rfl ?_
        refine Go.icmp_le (q := 182) (t := 197) hx (hb hby at_179) (by decide) rfl rfl (fun hc179 => absurd hc179 (by decide)) (fun hc179 => ?_)
        refine Go.iload (q := 184) hx (hb hby at_182) rfl rfl ?_
        refine Go.bipush (q := 186) (z := (10 : Int32)) hx (hb hby at_184) rfl rfl ?_
        refine Go.icmp_ne (q := 189) (t := 197) hx (hb hby at_186) (by decide) rfl rfl (fun hc186 => ?_) (fun hc186 => ?_)
        · skip
          refine Go.iload (q := 199) hx (hb hby at_197) rfl rfl ?_
          refine Go.iconst (q := 200) (z := (2 : Int32)) hx (hb hby at_199) rfl rfl ?_
          refine Go.icmp_le (q := 203) (t := 218) hx (hb hby at_200) (by decide) rfl rfl (fun hc200 => absurd hc200 (by decide)) (fun hc200 => ?_)
          refine Go.iload (q := 205) hx (hb hby at_203) rfl rfl ?_
          refine Go.bipush (q := 207) (z := (10 : Int32)) hx (hb hby at_205) rfl rfl ?_
          refine Go.icmp_ne (q := 210) (t := 218) hx (hb hby at_207) (by decide) rfl rfl (fun hc207 => ?_) (fun hc207 => ?_)
          · skip
            refine Go.iload (q := 220) hx (hb hby at_218) rfl rfl ?_
            refine Go.iconst (q := 221) (z := (1 : Int32)) hx (hb hby at_220) rfl rfl ?_
            refine Go.icmp_le (q := 224) (t := 239) hx (hb hby at_221) (by decide) rfl rfl (fun hc221 => absurd hc221 (by decide)) (fun hc221 => ?_)
            refine Go.iload (q := 226) hx (hb hby at_224) rfl rfl ?_
            refine Go.bipush (q := 228) (z := (10 : Int32)) hx (hb hby at_226) rfl rfl ?_
            refine Go.icmp_ne (q := 231) (t := 239) hx (hb hby at_228) (by decide) rfl rfl (fun hc228 => ?_) (fun hc228 => ?_)
            · skip
              refine Go.iload (q := 241) hx (hb hby at_239) rfl rfl ?_
              refine Go.if_le (q := 244) (t := 257) hx (hb hby at_241) (by decide) rfl rfl (fun hc241 => absurd hc241 (by decide)) (fun hc241 => ?_)
              refine Go.iload (q := 246) hx (hb hby at_244) rfl rfl ?_
              refine Go.bipush (q := 248) (z := (10 : Int32)) hx (hb hby at_246) rfl rfl ?_
              refine Go.icmp_ne (q := 251) (t := 257) hx (hb hby at_248) (by decide) rfl rfl (fun hc248 => ?_) (fun hc248 => ?_)
              · skip
                refine Go.lconst (q := 258) (z := (0 : Int64)) hx (hb hby at_257) rfl rfl ?_
                refine Go.lstore (q := 260) (l' := #[.val (.int p1), .val (.long pb), .second, .val (.int p3), .val (.int (6 : Int32)), .val (.int b0), .val (.int b1), .val (.int b2), .val (.int b3), .val (.int b4), .val (.int b5), .val (.ref a285), .val (.long (0 : Int64)), .second]) hx (hb hby at_258) rfl rfl ?_
                refine Go.aload (q := 262) hx (hb hby at_260) rfl (by rfl) rfl ?_
                refine Go.callS (q := 265) hx hZ (argsL := [(.ref a285)]) (rest := []) hown (hw _ (List.mem_of_getElem? (i := 6) rfl)) (hw _ (List.mem_of_getElem? (i := 7) rfl)) (hw _ (List.mem_of_getElem? (i := 8) rfl)) (hw _ (List.mem_of_getElem? (i := 9) rfl)) (by decide) (rmW6 l Z a0 hw a285 k286 (nar .byte b0) (nar .byte b1) (nar .byte b2) (nar .byte b3) (nar .byte b4) (nar .byte b5) h307 n0 (Nat.le_trans (Nat.le_trans (Nat.le_trans (Nat.le_trans (Nat.le_trans (Nat.le_trans (Nat.le_trans Z0 E288.1) (Keep.of_wr W293).1) (Keep.of_wr W296).1) (Keep.of_wr W299).1) (Keep.of_wr W302).1) (Keep.of_wr W305).1) (Keep.of_wr W308).1) V309) (by rw [hml]; rfl) pd_1 rfl rfl (hb hby at_262) rfl (by decide) (Nat.le_of_ble_eq_true rfl) (ce' := 1) (sl' := 6) rfl rfl (by decide) (by decide) (fun v310 h311 hQ312 => ?_)
                obtain ⟨rfl, rfl⟩ := hQ312
                simp only [nb0, nb1, nb2, nb3, nb4, nb5]
                show Go _ _ _ _ _ _ _ _ _ _ _ _ _ _ _ 1 6 265 #[.val (.int p1), .val (.long pb), .second, .val (.int p3), .val (.int (6 : Int32)), .val (.int b0), .val (.int b1), .val (.int b2), .val (.int b3), .val (.int b4), .val (.int b5), .val (.ref a285), .val (.long (0 : Int64)), .second] [(.long (if b5 = (10 : Int32) then (6 : Int64) else if b4 = (10 : Int32) then (5 : Int64) else if b3 = (10 : Int32) then (4 : Int64) else if b2 = (10 : Int32) then (3 : Int64) else if b1 = (10 : Int32) then (2 : Int64) else if b0 = (10 : Int32) then (1 : Int64) else (0 : Int64)))]
                refine Go.lload (q := 267) hx (hb hby at_265) rfl rfl ?_
                refine Go.lcmp (q := 268) hx (hb hby at_267) rfl ?_
                refine Go.if_ne (q := 271) (t := 275) hx (hb hby at_268) (by decide) rfl rfl (fun hc268 => absurd ((cmpL_eq _ _).mpr (by rw [if_neg hc144, if_neg hc165, if_neg hc186, if_neg hc207, if_neg hc228, if_neg hc248])) hc268) (fun hc268 => ?_)
                refine Go.iconst (q := 272) (z := (1 : Int32)) hx (hb hby at_271) rfl rfl ?_
                refine Go.goto (q := 276) hx (hb hby at_272) (by decide) rfl ?_
                refine Go.retN hx (t := .boolean) hret (by simp) hlk (hb hby at_276) (by decide) (by decide) ?_
                rfl
              · skip
                refine Go.lconst (q := 252) (z := (1 : Int64)) hx (hb hby at_251) rfl rfl ?_
                refine Go.lstore (q := 254) (l' := #[.val (.int p1), .val (.long pb), .second, .val (.int p3), .val (.int (6 : Int32)), .val (.int b0), .val (.int b1), .val (.int b2), .val (.int b3), .val (.int b4), .val (.int b5), .val (.ref a285), .val (.long (1 : Int64)), .second]) hx (hb hby at_252) rfl rfl ?_
                refine Go.goto (q := 260) hx (hb hby at_254) (by decide) rfl ?_
                refine Go.aload (q := 262) hx (hb hby at_260) rfl (by rfl) rfl ?_
                refine Go.callS (q := 265) hx hZ (argsL := [(.ref a285)]) (rest := []) hown (hw _ (List.mem_of_getElem? (i := 6) rfl)) (hw _ (List.mem_of_getElem? (i := 7) rfl)) (hw _ (List.mem_of_getElem? (i := 8) rfl)) (hw _ (List.mem_of_getElem? (i := 9) rfl)) (by decide) (rmW6 l Z a0 hw a285 k286 (nar .byte b0) (nar .byte b1) (nar .byte b2) (nar .byte b3) (nar .byte b4) (nar .byte b5) h307 n0 (Nat.le_trans (Nat.le_trans (Nat.le_trans (Nat.le_trans (Nat.le_trans (Nat.le_trans (Nat.le_trans Z0 E288.1) (Keep.of_wr W293).1) (Keep.of_wr W296).1) (Keep.of_wr W299).1) (Keep.of_wr W302).1) (Keep.of_wr W305).1) (Keep.of_wr W308).1) V309) (by rw [hml]; rfl) pd_1 rfl rfl (hb hby at_262) rfl (by decide) (Nat.le_of_ble_eq_true rfl) (ce' := 1) (sl' := 6) rfl rfl (by decide) (by decide) (fun v313 h314 hQ315 => ?_)
                obtain ⟨rfl, rfl⟩ := hQ315
                simp only [nb0, nb1, nb2, nb3, nb4, nb5]
                show Go _ _ _ _ _ _ _ _ _ _ _ _ _ _ _ 1 6 265 #[.val (.int p1), .val (.long pb), .second, .val (.int p3), .val (.int (6 : Int32)), .val (.int b0), .val (.int b1), .val (.int b2), .val (.int b3), .val (.int b4), .val (.int b5), .val (.ref a285), .val (.long (1 : Int64)), .second] [(.long (if b5 = (10 : Int32) then (6 : Int64) else if b4 = (10 : Int32) then (5 : Int64) else if b3 = (10 : Int32) then (4 : Int64) else if b2 = (10 : Int32) then (3 : Int64) else if b1 = (10 : Int32) then (2 : Int64) else if b0 = (10 : Int32) then (1 : Int64) else (0 : Int64)))]
                refine Go.lload (q := 267) hx (hb hby at_265) rfl rfl ?_
                refine Go.lcmp (q := 268) hx (hb hby at_267) rfl ?_
                refine Go.if_ne (q := 271) (t := 275) hx (hb hby at_268) (by decide) rfl rfl (fun hc268 => absurd ((cmpL_eq _ _).mpr (by rw [if_neg hc144, if_neg hc165, if_neg hc186, if_neg hc207, if_neg hc228, if_pos hc248])) hc268) (fun hc268 => ?_)
                refine Go.iconst (q := 272) (z := (1 : Int32)) hx (hb hby at_271) rfl rfl ?_
                refine Go.goto (q := 276) hx (hb hby at_272) (by decide) rfl ?_
                refine Go.retN hx (t := .boolean) hret (by simp) hlk (hb hby at_276) (by decide) (by decide) ?_
                rfl
            · skip
              refine Go.ldc2Long (q := 234) hx hZ hown (hw _ (List.mem_of_getElem? (i := 11) rfl)) (hb hby at_231) rfl ?_
              refine Go.lstore (q := 236) (l' := #[.val (.int p1), .val (.long pb), .second, .val (.int p3), .val (.int (6 : Int32)), .val (.int b0), .val (.int b1), .val (.int b2), .val (.int b3), .val (.int b4), .val (.int b5), .val (.ref a285), .val (.long (2 : Int64)), .second]) hx (hb hby at_234) rfl rfl ?_
              refine Go.goto (q := 260) hx (hb hby at_236) (by decide) rfl ?_
              refine Go.aload (q := 262) hx (hb hby at_260) rfl (by rfl) rfl ?_
              refine Go.callS (q := 265) hx hZ (argsL := [(.ref a285)]) (rest := []) hown (hw _ (List.mem_of_getElem? (i := 6) rfl)) (hw _ (List.mem_of_getElem? (i := 7) rfl)) (hw _ (List.mem_of_getElem? (i := 8) rfl)) (hw _ (List.mem_of_getElem? (i := 9) rfl)) (by decide) (rmW6 l Z a0 hw a285 k286 (nar .byte b0) (nar .byte b1) (nar .byte b2) (nar .byte b3) (nar .byte b4) (nar .byte b5) h307 n0 (Nat.le_trans (Nat.le_trans (Nat.le_trans (Nat.le_trans (Nat.le_trans (Nat.le_trans (Nat.le_trans Z0 E288.1) (Keep.of_wr W293).1) (Keep.of_wr W296).1) (Keep.of_wr W299).1) (Keep.of_wr W302).1) (Keep.of_wr W305).1) (Keep.of_wr W308).1) V309) (by rw [hml]; rfl) pd_1 rfl rfl (hb hby at_262) rfl (by decide) (Nat.le_of_ble_eq_true rfl) (ce' := 1) (sl' := 6) rfl rfl (by decide) (by decide) (fun v316 h317 hQ318 => ?_)
              obtain ⟨rfl, rfl⟩ := hQ318
              simp only [nb0, nb1, nb2, nb3, nb4, nb5]
              show Go _ _ _ _ _ _ _ _ _ _ _ _ _ _ _ 1 6 265 #[.val (.int p1), .val (.long pb), .second, .val (.int p3), .val (.int (6 : Int32)), .val (.int b0), .val (.int b1), .val (.int b2), .val (.int b3), .val (.int b4), .val (.int b5), .val (.ref a285), .val (.long (2 : Int64)), .second] [(.long (if b5 = (10 : Int32) then (6 : Int64) else if b4 = (10 : Int32) then (5 : Int64) else if b3 = (10 : Int32) then (4 : Int64) else if b2 = (10 : Int32) then (3 : Int64) else if b1 = (10 : Int32) then (2 : Int64) else if b0 = (10 : Int32) then (1 : Int64) else (0 : Int64)))]
              refine Go.lload (q := 267) hx (hb hby at_265) rfl rfl ?_
              refine Go.lcmp (q := 268) hx (hb hby at_267) rfl ?_
              refine Go.if_ne (q := 271) (t := 275) hx (hb hby at_268) (by decide) rfl rfl (fun hc268 => absurd ((cmpL_eq _ _).mpr (by rw [if_neg hc144, if_neg hc165, if_neg hc186, if_neg hc207, if_pos hc228])) hc268) (fun hc268 => ?_)
              refine Go.iconst (q := 272) (z := (1 : Int32)) hx (hb hby at_271) rfl rfl ?_
              refine Go.goto (q := 276) hx (hb hby at_272) (by decide) rfl ?_
              refine Go.retN hx (t := .boolean) hret (by simp) hlk (hb hby at_276) (by decide) (by decide) ?_
              rfl
          · skip
            refine Go.ldc2Long (q := 213) hx hZ hown (hw _ (List.mem_of_getElem? (i := 14) rfl)) (hb hby at_210) rfl ?_
            refine Go.lstore (q := 215) (l' := #[.val (.int p1), .val (.long pb), .second, .val (.int p3), .val (.int (6 : Int32)), .val (.int b0), .val (.int b1), .val (.int b2), .val (.int b3), .val (.int b4), .val (.int b5), .val (.ref a285), .val (.long (3 : Int64)), .second]) hx (hb hby at_213) rfl rfl ?_
            refine Go.goto (q := 260) hx (hb hby at_215) (by decide) rfl ?_
            refine Go.aload (q := 262) hx (hb hby at_260) rfl (by rfl) rfl ?_
            refine Go.callS (q := 265) hx hZ (argsL := [(.ref a285)]) (rest := []) hown (hw _ (List.mem_of_getElem? (i := 6) rfl)) (hw _ (List.mem_of_getElem? (i := 7) rfl)) (hw _ (List.mem_of_getElem? (i := 8) rfl)) (hw _ (List.mem_of_getElem? (i := 9) rfl)) (by decide) (rmW6 l Z a0 hw a285 k286 (nar .byte b0) (nar .byte b1) (nar .byte b2) (nar .byte b3) (nar .byte b4) (nar .byte b5) h307 n0 (Nat.le_trans (Nat.le_trans (Nat.le_trans (Nat.le_trans (Nat.le_trans (Nat.le_trans (Nat.le_trans Z0 E288.1) (Keep.of_wr W293).1) (Keep.of_wr W296).1) (Keep.of_wr W299).1) (Keep.of_wr W302).1) (Keep.of_wr W305).1) (Keep.of_wr W308).1) V309) (by rw [hml]; rfl) pd_1 rfl rfl (hb hby at_262) rfl (by decide) (Nat.le_of_ble_eq_true rfl) (ce' := 1) (sl' := 6) rfl rfl (by decide) (by decide) (fun v319 h320 hQ321 => ?_)
            obtain ⟨rfl, rfl⟩ := hQ321
            simp only [nb0, nb1, nb2, nb3, nb4, nb5]
            show Go _ _ _ _ _ _ _ _ _ _ _ _ _ _ _ 1 6 265 #[.val (.int p1), .val (.long pb), .second, .val (.int p3), .val (.int (6 : Int32)), .val (.int b0), .val (.int b1), .val (.int b2), .val (.int b3), .val (.int b4), .val (.int b5), .val (.ref a285), .val (.long (3 : Int64)), .second] [(.long (if b5 = (10 : Int32) then (6 : Int64) else if b4 = (10 : Int32) then (5 : Int64) else if b3 = (10 : Int32) then (4 : Int64) else if b2 = (10 : Int32) then (3 : Int64) else if b1 = (10 : Int32) then (2 : Int64) else if b0 = (10 : Int32) then (1 : Int64) else (0 : Int64)))]
            refine Go.lload (q := 267) hx (hb hby at_265) rfl rfl ?_
            refine Go.lcmp (q := 268) hx (hb hby at_267) rfl ?_
            refine Go.if_ne (q := 271) (t := 275) hx (hb hby at_268) (by decide) rfl rfl (fun hc268 => absurd ((cmpL_eq _ _).mpr (by rw [if_neg hc144, if_neg hc165, if_neg hc186, if_pos hc207])) hc268) (fun hc268 => ?_)
            refine Go.iconst (q := 272) (z := (1 : Int32)) hx (hb hby at_271) rfl rfl ?_
            refine Go.goto (q := 276) hx (hb hby at_272) (by decide) rfl ?_
            refine Go.retN hx (t := .boolean) hret (by simp) hlk (hb hby at_276) (by decide) (by decide) ?_
            rfl
        · skip
          refine Go.ldc2Long (q := 192) hx hZ hown (hw _ (List.mem_of_getElem? (i := 10) rfl)) (hb hby at_189) rfl ?_
          refine Go.lstore (q := 194) (l' := #[.val (.int p1), .val (.long pb), .second, .val (.int p3), .val (.int (6 : Int32)), .val (.int b0), .val (.int b1), .val (.int b2), .val (.int b3), .val (.int b4), .val (.int b5), .val (.ref a285), .val (.long (4 : Int64)), .second]) hx (hb hby at_192) rfl rfl ?_
          refine Go.goto (q := 260) hx (hb hby at_194) (by decide) rfl ?_
          refine Go.aload (q := 262) hx (hb hby at_260) rfl (by rfl) rfl ?_
          refine Go.callS (q := 265) hx hZ (argsL := [(.ref a285)]) (rest := []) hown (hw _ (List.mem_of_getElem? (i := 6) rfl)) (hw _ (List.mem_of_getElem? (i := 7) rfl)) (hw _ (List.mem_of_getElem? (i := 8) rfl)) (hw _ (List.mem_of_getElem? (i := 9) rfl)) (by decide) (rmW6 l Z a0 hw a285 k286 (nar .byte b0) (nar .byte b1) (nar .byte b2) (nar .byte b3) (nar .byte b4) (nar .byte b5) h307 n0 (Nat.le_trans (Nat.le_trans (Nat.le_trans (Nat.le_trans (Nat.le_trans (Nat.le_trans (Nat.le_trans Z0 E288.1) (Keep.of_wr W293).1) (Keep.of_wr W296).1) (Keep.of_wr W299).1) (Keep.of_wr W302).1) (Keep.of_wr W305).1) (Keep.of_wr W308).1) V309) (by rw [hml]; rfl) pd_1 rfl rfl (hb hby at_262) rfl (by decide) (Nat.le_of_ble_eq_true rfl) (ce' := 1) (sl' := 6) rfl rfl (by decide) (by decide) (fun v322 h323 hQ324 => ?_)
          obtain ⟨rfl, rfl⟩ := hQ324
          simp only [nb0, nb1, nb2, nb3, nb4, nb5]
          show Go _ _ _ _ _ _ _ _ _ _ _ _ _ _ _ 1 6 265 #[.val (.int p1), .val (.long pb), .second, .val (.int p3), .val (.int (6 : Int32)), .val (.int b0), .val (.int b1), .val (.int b2), .val (.int b3), .val (.int b4), .val (.int b5), .val (.ref a285), .val (.long (4 : Int64)), .second] [(.long (if b5 = (10 : Int32) then (6 : Int64) else if b4 = (10 : Int32) then (5 : Int64) else if b3 = (10 : Int32) then (4 : Int64) else if b2 = (10 : Int32) then (3 : Int64) else if b1 = (10 : Int32) then (2 : Int64) else if b0 = (10 : Int32) then (1 : Int64) else (0 : Int64)))]
          refine Go.lload (q := 267) hx (hb hby at_265) rfl rfl ?_
          refine Go.lcmp (q := 268) hx (hb hby at_267) rfl ?_
          refine Go.if_ne (q := 271) (t := 275) hx (hb hby at_268) (by decide) rfl rfl (fun hc268 => absurd ((cmpL_eq _ _).mpr (by rw [if_neg hc144, if_neg hc165, if_pos hc186])) hc268) (fun hc268 => ?_)
          refine Go.iconst (q := 272) (z := (1 : Int32)) hx (hb hby at_271) rfl rfl ?_
          refine Go.goto (q := 276) hx (hb hby at_272) (by decide) rfl ?_
          refine Go.retN hx (t := .boolean) hret (by simp) hlk (hb hby at_276) (by decide) (by decide) ?_
          rfl
      · skip
        refine Go.ldc2Long (q := 171) hx hZ hown (hw _ (List.mem_of_getElem? (i := 12) rfl)) (hb hby at_168) rfl ?_
        refine Go.lstore (q := 173) (l' := #[.val (.int p1), .val (.long pb), .second, .val (.int p3), .val (.int (6 : Int32)), .val (.int b0), .val (.int b1), .val (.int b2), .val (.int b3), .val (.int b4), .val (.int b5), .val (.ref a285), .val (.long (5 : Int64)), .second]) hx (hb hby at_171) rfl rfl ?_
        refine Go.goto (q := 260) hx (hb hby at_173) (by decide) rfl ?_
        refine Go.aload (q := 262) hx (hb hby at_260) rfl (by rfl) rfl ?_
        refine Go.callS (q := 265) hx hZ (argsL := [(.ref a285)]) (rest := []) hown (hw _ (List.mem_of_getElem? (i := 6) rfl)) (hw _ (List.mem_of_getElem? (i := 7) rfl)) (hw _ (List.mem_of_getElem? (i := 8) rfl)) (hw _ (List.mem_of_getElem? (i := 9) rfl)) (by decide) (rmW6 l Z a0 hw a285 k286 (nar .byte b0) (nar .byte b1) (nar .byte b2) (nar .byte b3) (nar .byte b4) (nar .byte b5) h307 n0 (Nat.le_trans (Nat.le_trans (Nat.le_trans (Nat.le_trans (Nat.le_trans (Nat.le_trans (Nat.le_trans Z0 E288.1) (Keep.of_wr W293).1) (Keep.of_wr W296).1) (Keep.of_wr W299).1) (Keep.of_wr W302).1) (Keep.of_wr W305).1) (Keep.of_wr W308).1) V309) (by rw [hml]; rfl) pd_1 rfl rfl (hb hby at_262) rfl (by decide) (Nat.le_of_ble_eq_true rfl) (ce' := 1) (sl' := 6) rfl rfl (by decide) (by decide) (fun v325 h326 hQ327 => ?_)
        obtain ⟨rfl, rfl⟩ := hQ327
        simp only [nb0, nb1, nb2, nb3, nb4, nb5]
        show Go _ _ _ _ _ _ _ _ _ _ _ _ _ _ _ 1 6 265 #[.val (.int p1), .val (.long pb), .second, .val (.int p3), .val (.int (6 : Int32)), .val (.int b0), .val (.int b1), .val (.int b2), .val (.int b3), .val (.int b4), .val (.int b5), .val (.ref a285), .val (.long (5 : Int64)), .second] [(.long (if b5 = (10 : Int32) then (6 : Int64) else if b4 = (10 : Int32) then (5 : Int64) else if b3 = (10 : Int32) then (4 : Int64) else if b2 = (10 : Int32) then (3 : Int64) else if b1 = (10 : Int32) then (2 : Int64) else if b0 = (10 : Int32) then (1 : Int64) else (0 : Int64)))]
        refine Go.lload (q := 267) hx (hb hby at_265) rfl rfl ?_
        refine Go.lcmp (q := 268) hx (hb hby at_267) rfl ?_
        refine Go.if_ne (q := 271) (t := 275) hx (hb hby at_268) (by decide) rfl rfl (fun hc268 => absurd ((cmpL_eq _ _).mpr (by rw [if_neg hc144, if_pos hc165])) hc268) (fun hc268 => ?_)
        refine Go.iconst (q := 272) (z := (1 : Int32)) hx (hb hby at_271) rfl rfl ?_
        refine Go.goto (q := 276) hx (hb hby at_272) (by decide) rfl ?_
        refine Go.retN hx (t := .boolean) hret (by simp) hlk (hb hby at_276) (by decide) (by decide) ?_
        rfl
    · skip
      refine Go.ldc2Long (q := 150) hx hZ hown (hw _ (List.mem_of_getElem? (i := 13) rfl)) (hb hby at_147) rfl ?_
      refine Go.lstore (q := 152) (l' := #[.val (.int p1), .val (.long pb), .second, .val (.int p3), .val (.int (6 : Int32)), .val (.int b0), .val (.int b1), .val (.int b2), .val (.int b3), .val (.int b4), .val (.int b5), .val (.ref a285), .val (.long (6 : Int64)), .second]) hx (hb hby at_150) rfl rfl ?_
      refine Go.goto (q := 260) hx (hb hby at_152) (by decide) rfl ?_
      refine Go.aload (q := 262) hx (hb hby at_260) rfl (by rfl) rfl ?_
      refine Go.callS (q := 265) hx hZ (argsL := [(.ref a285)]) (rest := []) hown (hw _ (List.mem_of_getElem? (i := 6) rfl)) (hw _ (List.mem_of_getElem? (i := 7) rfl)) (hw _ (List.mem_of_getElem? (i := 8) rfl)) (hw _ (List.mem_of_getElem? (i := 9) rfl)) (by decide) (rmW6 l Z a0 hw a285 k286 (nar .byte b0) (nar .byte b1) (nar .byte b2) (nar .byte b3) (nar .byte b4) (nar .byte b5) h307 n0 (Nat.le_trans (Nat.le_trans (Nat.le_trans (Nat.le_trans (Nat.le_trans (Nat.le_trans (Nat.le_trans Z0 E288.1) (Keep.of_wr W293).1) (Keep.of_wr W296).1) (Keep.of_wr W299).1) (Keep.of_wr W302).1) (Keep.of_wr W305).1) (Keep.of_wr W308).1) V309) (by rw [hml]; rfl) pd_1 rfl rfl (hb hby at_262) rfl (by decide) (Nat.le_of_ble_eq_true rfl) (ce' := 1) (sl' := 6) rfl rfl (by decide) (by decide) (fun v328 h329 hQ330 => ?_)
      obtain ⟨rfl, rfl⟩ := hQ330
      simp only [nb0, nb1, nb2, nb3, nb4, nb5]
      show Go _ _ _ _ _ _ _ _ _ _ _ _ _ _ _ 1 6 265 #[.val (.int p1), .val (.long pb), .second, .val (.int p3), .val (.int (6 : Int32)), .val (.int b0), .val (.int b1), .val (.int b2), .val (.int b3), .val (.int b4), .val (.int b5), .val (.ref a285), .val (.long (6 : Int64)), .second] [(.long (if b5 = (10 : Int32) then (6 : Int64) else if b4 = (10 : Int32) then (5 : Int64) else if b3 = (10 : Int32) then (4 : Int64) else if b2 = (10 : Int32) then (3 : Int64) else if b1 = (10 : Int32) then (2 : Int64) else if b0 = (10 : Int32) then (1 : Int64) else (0 : Int64)))]
      refine Go.lload (q := 267) hx (hb hby at_265) rfl rfl ?_
      refine Go.lcmp (q := 268) hx (hb hby at_267) rfl ?_
      refine Go.if_ne (q := 271) (t := 275) hx (hb hby at_268) (by decide) rfl rfl (fun hc268 => absurd ((cmpL_eq _ _).mpr (by rw [if_pos hc144])) hc268) (fun hc268 => ?_)
      refine Go.iconst (q := 272) (z := (1 : Int32)) hx (hb hby at_271) rfl rfl ?_
      refine Go.goto (q := 276) hx (hb hby at_272) (by decide) rfl ?_
      refine Go.retN hx (t := .boolean) hret (by simp) hlk (hb hby at_276) (by decide) (by decide) ?_
      rfl
set_option maxRecDepth 65536 in
set_option maxHeartbeats 40000000 in
theorem comes_1 {Post : Tables → Env → Array Value → State → Outcome → State → Prop} (hpost : ∀ tb e args s v u, (limb_1_1.after args s (.returned v) u = true ∧ limb_1_2.after args s (.returned v) u = true ∧ True) → FrameEnd s (.returned v) u (Jvm.fieldLocs frame_1_writes args s ++ Jvm.arrayLocs frame_1_arrays args s ++ Jvm.staticLocs frame_1_statics s) 16 128 → Post tb e args s (.returned v) u) :
    ArmFor flags0 classFile x code maxLocals ret World_1 tables_1 room_1 Calls_1 rest_1 Pre_1 Post := by
  intro l hfl _ _ p e ha hc hk s m args below hf hA hF happ hP
  obtain ⟨hcalls, hrest, hpre⟩ := hP
  obtain ⟨-, -, -, hnamed, -, -, -, hat⟩ := (Spec.applies_iff hf).mp happ
  obtain ⟨hg, hn⟩ := and_e (Cond.before_iff.mp (show (Jvm.Cond.and given_1 narrow_1).before args s = true from hpre))
  obtain ⟨hcnt, hk0⟩ := and_e hg
  obtain ⟨ha0, hk1⟩ := and_e hk0
  obtain ⟨ha1, hk2⟩ := and_e hk1
  obtain ⟨w0, w1, w2, rfl⟩ : ∃ w0 w1 w2 : Value, args = #[w0, w1, w2] := by
    have hs : args.size = 3 := by simpa [Cond.value, given_1] using hcnt
    obtain ⟨L⟩ := args
    match L, hs with
    | [w0, w1, w2], _ => exact ⟨w0, w1, w2, rfl⟩
  have hw := fun d (hd : d ∈ tables_1) => atoms_spec (ws := Jvm.Cond.code x code maxLocals ret :: tables_1) hat d (List.mem_cons_of_mem _ hd)
  have hfit : Fit s := fun {y c} hc i hi => by
    obtain ⟨ha, rfl⟩ := Array.getElem?_eq_some_iff.mp hc
    have q := List.all_eq_true.mp ((Array.all_eq_true_iff_forall_mem.mp hF) _ (Array.getElem_mem ha)) i (List.mem_range.mpr hi)
    simpa [Array.getElem?_eq_getElem hi] using q
  obtain ⟨i0, ei0⟩ := is_v ha0
  obtain rfl : w0 = (.int i0) := Option.some.inj ei0
  obtain ⟨i1, ei1⟩ := isL_v ha1
  obtain rfl : w1 = (.long i1) := Option.some.inj ei1
  obtain ⟨i2, ei2⟩ := is_v hk2
  obtain rfl : w2 = (.int i2) := Option.some.inj ei2
  obtain ⟨n, o, h1, h2, h3, _, L, rfl, ⟨rfl, N⟩, hq⟩ := rm0 l s _ hw i0 i1 i2 s.heap s.heap.size (Nat.le_refl _)  p e ha hc hk s m _ below hf ((Spec.applies_iff_loose hf).mp happ).1 ⟨rfl, State.Warmed39.refl s, rfl⟩ trivial
  refine ⟨n, _, h1, h2, h3, hpost _ _ _ _ _ _ ⟨Cond.after_iff.mpr rfl, Cond.after_iff.mpr (eq_i res_at (Term.int_eval (1)) rfl), trivial⟩ ⟨hq.1, hq.2.1, (hq.2.2.sift fun y hy => Or.inr (N y hy)).mono (by decide) (by decide)⟩⟩
theorem main_1_1 : Claimed_1_1 := comes_1 fun _ _ _ _ _ _ h hF => ⟨h.1, hF⟩
theorem main_1_2 : Claimed_1_2 := comes_1 fun _ _ _ _ _ _ h hF => ⟨h.2.1, hF⟩
end Jvm.Pilot.@@N@@
namespace Jvm.Pilot.@@N@@
open Jvm Jvm.ClassFile Sem Op Lib Jvm.Free Jvm.Stand Jvm.Pilot.@@N@@.Jvm.D
/-! MADE BY PROGRAM (witnessworld.py) out of the Statement's table words and the real class files: 9 classes; the members and pool entries that the words name. The judged class is class 1, her method 2. -/
namespace start1
open Jvm.ClassFile
def u (s : String) : CpInfo := .utf8 (stringToUtf16 s)
/-- a pool by its gaps: so many unusable entries, then the entry; so many at the end -/
def gap : Nat → List CpInfo → List CpInfo
  | 0, r => r
  | n + 1, r => .unusable :: gap n r
def poolList (es : List (Nat × CpInfo)) (last : Nat) : List CpInfo := es.foldr (fun e r => gap e.1 (e.2 :: r)) (gap last [])
def pool (es : List (Nat × CpInfo)) (last : Nat) : Array CpInfo := ⟨poolList es last⟩
def fileOf (pool : Array CpInfo) (this : Nat) (attrs : Array Attribute := #[]) (ms : Array MethodInfo := #[]) (fl : Nat := 33) (sup : Nat := 0) (ifs : Array Nat := #[]) (fds : Array FieldInfo := #[]) : ClassFile where
  minorVersion := 0
  majorVersion := 65
  constantPool := pool
  accessFlags := fl
  thisClass := this
  superClass := sup
  interfaces := ifs
  fields := fds
  methods := ms
  attributes := attrs
def plain (name : String) (sup : Option ClassId) : Class where
  name := name
  kind := .ordinary
  loader := none
  accessFlags := 33
  super := sup
  interfaces := #[]
  cf := none
  fields := #[]
  methods := #[]
  instanceTypes := #[]
  staticTypes := #[]
  resolved := #[]
  callSites := []
  init := .initialized
  statics := none
  mirror := none

def pool0 : Array CpInfo := pool [(5, u "<init>"), (0, u "()V"), (1, .class_ 10), (1, u "java/lang/Object")] 113

def k0m0 : Method := { name := "<init>", desc := "()V", sig := { parameters := [], returnType := none }, accessFlags := 1, code := none }
/-- java/lang/Object -/
def k0 : Class := { plain "java/lang/Object" none with
  accessFlags := 33
  interfaces := #[]
  cf := some (fileOf pool0 8 #[] #[{ accessFlags := 1, nameIndex := 5, descriptorIndex := 6, attributes := #[] }] 33 0 #[] #[])
  fields := #[]
  methods := #[k0m0]
  instanceTypes := #[]
  staticTypes := #[]
  resolved := Array.replicate 124 none
  statics := none }

def pool1 : Array CpInfo := pool [(2, .class_ 4), (1, u "java/lang/Object"), (0, u "<init>"), (0, u "()V"), (0, .integer 2147483647), (0, .methodref 9 10), (0, .class_ 11), (0, .nameAndType 12 13), (0, u "com/example/epithet/epithet/store/RecordFilesWholeLinesEndPinLaw"), (0, u "at"), (0, u "(JII)B"), (0, .long 6), (1, .long 5), (1, .long 4), (1, .long 3), (1, .long 2), (1, .methodref 25 26), (0, .class_ 27), (0, .nameAndType 28 29), (0, u "com/example/epithet/epithet/store/RecordFiles"), (0, u "wholeLinesEnd"), (0, u "([B)J"), (3, u "law"), (0, u "(IJI)Z")] 4

def k1m0 : Method := { name := "<init>", desc := "()V", sig := { parameters := [], returnType := none }, accessFlags := 1, code := none }
def k1c1 : Code := { maxStack := 4, maxLocals := 4, code := method_2_code, exceptionTable := #[], attributes := #[] }
def k1m1 : Method := { name := "at", desc := "(JII)B", sig := { parameters := [.long, .int, .int], returnType := some .byte }, accessFlags := 10, code := some k1c1 }
def k1c2 : Code := { maxStack := 4, maxLocals := 14, code := code, exceptionTable := #[], attributes := #[] }
def k1m2 : Method := { name := "law", desc := "(IJI)Z", sig := { parameters := [.int, .long, .int], returnType := some .boolean }, accessFlags := 9, code := some k1c2 }
/-- com/example/epithet/epithet/store/RecordFilesWholeLinesEndPinLaw -/
def k1 : Class := { plain "com/example/epithet/epithet/store/RecordFilesWholeLinesEndPinLaw" (some 0) with
  accessFlags := 49
  interfaces := #[]
  cf := some (fileOf pool1 9 #[] #[{ accessFlags := 1, nameIndex := 5, descriptorIndex := 6, attributes := #[] }, { accessFlags := 10, nameIndex := 12, descriptorIndex := 13, attributes := #[] }, { accessFlags := 9, nameIndex := 33, descriptorIndex := 34, attributes := #[] }] 49 2 #[] #[])
  fields := #[]
  methods := #[k1m0, k1m1, k1m2]
  instanceTypes := #[]
  staticTypes := #[]
  resolved := Array.replicate 39 none
  statics := none }

def pool2 : Array CpInfo := pool [(2, .class_ 4), (1, u "java/lang/Object"), (3, .class_ 10), (1, u "com/example/epithet/epithet/store/RecordFiles"), (0, u "directory"), (0, u "Ljava/nio/file/Path;"), (26, u "FENCE"), (0, u "[B"), (31, u "APPEND"), (0, u "Ljava/util/Set;"), (87, u "wholeLinesEnd"), (0, u "([B)J"), (9, u "WRITE"), (121, .class_ 295), (0, u "com/example/epithet/epithet/store/RecordFiles$Record"), (103, u "COPIED_BYTES"), (0, u "I"), (4, u "LINE_READ_BYTES")] 75

def k2c0 : Code := { maxStack := 3, maxLocals := 2, code := prog_91_method_13_code, exceptionTable := #[], attributes := #[] }
def k2m0 : Method := { name := "wholeLinesEnd", desc := "([B)J", sig := { parameters := [(.array .byte)], returnType := some .long }, accessFlags := 8, code := some k2c0 }
/-- com/example/epithet/epithet/store/RecordFiles -/
def k2 : Class := { plain "com/example/epithet/epithet/store/RecordFiles" (some 0) with
  accessFlags := 48
  interfaces := #[]
  cf := some (fileOf pool2 8 #[.nestMembers #[294]] #[{ accessFlags := 8, nameIndex := 161, descriptorIndex := 162, attributes := #[] }] 48 2 #[] #[{ accessFlags := 26, nameIndex := 39, descriptorIndex := 40, attributes := #[] }, { accessFlags := 26, nameIndex := 399, descriptorIndex := 400, attributes := #[] }, { accessFlags := 26, nameIndex := 72, descriptorIndex := 73, attributes := #[] }, { accessFlags := 26, nameIndex := 172, descriptorIndex := 73, attributes := #[] }, { accessFlags := 26, nameIndex := 405, descriptorIndex := 400, attributes := #[] }, { accessFlags := 18, nameIndex := 11, descriptorIndex := 12, attributes := #[] }])
  fields := #[{ name := "FENCE", type := (.array .byte), accessFlags := 26, slot := 0, constantValue := 0 }, { name := "COPIED_BYTES", type := .int, accessFlags := 26, slot := 1, constantValue := 0 }, { name := "APPEND", type := (.object "java/util/Set"), accessFlags := 26, slot := 2, constantValue := 0 }, { name := "WRITE", type := (.object "java/util/Set"), accessFlags := 26, slot := 3, constantValue := 0 }, { name := "LINE_READ_BYTES", type := .int, accessFlags := 26, slot := 4, constantValue := 0 }, { name := "directory", type := (.object "java/nio/file/Path"), accessFlags := 18, slot := 0, constantValue := 0 }]
  methods := #[k2m0]
  instanceTypes := #[(.object "java/nio/file/Path")]
  staticTypes := #[(.array .byte), .int, (.object "java/util/Set"), (.object "java/util/Set"), .int]
  resolved := Array.replicate 481 none
  statics := none }

def pool3 : Array CpInfo := pool [(1, u "java/lang/Cloneable"), (0, .class_ 1), (0, u "java/lang/Object"), (0, .class_ 3)] 3

/-- java/lang/Cloneable -/
def k3 : Class := { plain "java/lang/Cloneable" (some 0) with
  accessFlags := 1537
  interfaces := #[]
  cf := some (fileOf pool3 2 #[] #[] 1537 4 #[] #[])
  fields := #[]
  methods := #[]
  instanceTypes := #[]
  staticTypes := #[]
  resolved := Array.replicate 8 none
  statics := none }

def pool4 : Array CpInfo := pool [(1, u "java/io/Serializable"), (0, .class_ 1), (0, u "java/lang/Object"), (0, .class_ 3)] 3

/-- java/io/Serializable -/
def k4 : Class := { plain "java/io/Serializable" (some 0) with
  accessFlags := 1537
  interfaces := #[]
  cf := some (fileOf pool4 2 #[] #[] 1537 4 #[] #[])
  fields := #[]
  methods := #[]
  instanceTypes := #[]
  staticTypes := #[]
  resolved := Array.replicate 8 none
  statics := none }

/-- the primitive byte -/
def k5 : Class := { plain "byte" none with kind := .primitive 'B', accessFlags := 0x411 }
/-- [B -/
def k6 : Class := { plain "[B" (some 0) with kind := .array 5 .byte, interfaces := #[3, 4], accessFlags := 1041 }

/-- the primitive int -/
def k7 : Class := { plain "int" none with kind := .primitive 'I', accessFlags := 0x411 }
/-- [I -/
def k8 : Class := { plain "[I" (some 0) with kind := .array 7 .int, interfaces := #[3, 4], accessFlags := 1041 }

def heap : Heap := #[]
def classes : Array Class := #[k0, k1, k2, k3, k4, k5, k6, k7, k8]
def interned : List (Array UInt16 × Addr) := []
def slotsUsed : Nat := 0
def theMethod : MethodId := ⟨1, 2⟩
def args0 : Array Value := #[.int 5, .long 300, .int 7]
def aboutOver (below : List Frame) : State where
  vm := { classes := classes, interned := interned.toArray }
  heap := heap
  slotsUsed := slotsUsed
  threads := #[{ frames := .invoking theMethod args0 :: below }]
def below0 : List Frame := [.native { method := ⟨0, 0⟩, args := #[] }]
def about1 : State := aboutOver below0
def p0 : Program := .bare "" "" ""
def e0 : Env := launch0.env 0 0 0
theorem w_frames : about1.frames = Frame.invoking theMethod args0 :: below0 := rfl
set_option maxRecDepth 65536 in
theorem w_args : argsFit about1.vm theMethod args0 = true := by decide +kernel
set_option maxRecDepth 65536 in
theorem w_heap : heapFits about1 = true := by decide +kernel
set_option maxRecDepth 65536 in
theorem w_runnable : about1.curStatus? = some .runnable := by decide +kernel
set_option maxRecDepth 65536 in
theorem w_alone : about1.alone = true := by decide +kernel
set_option maxRecDepth 65536 in
theorem w_named : about1.methodNamed? x = some theMethod := by decide +kernel
set_option maxRecDepth 65536 in
theorem w_hears : about1.hears theMethod below0 = true := by decide +kernel
set_option maxRecDepth 65536 in
theorem w_ripe : about1.ripe theMethod args0 below0 = true := by decide +kernel
theorem w_running : about1.status = .running := rfl
set_option maxRecDepth 65536 in
theorem w_room : about1.hasRoom e0.platform room_1 = true :=
  launch0.hasRoom_least _ room_1 (by decide +kernel) (by decide +kernel) (by decide +kernel) (by decide +kernel) (by decide +kernel) (by decide +kernel)
theorem allAtoms_all (ts : List Jvm.Cond) (a : Array Jvm.Value) (st : Jvm.State) : (allAtoms ts).before a st = ts.all (fun c => c.before a st) := by
  induction ts with
  | nil => rfl
  | cons c t ih =>
    show (Jvm.Cond.and c (allAtoms t)).before a st = _
    rw [Jvm.Cond.before_and, ih, List.all_cons]
def words1 : List Jvm.Cond := Jvm.Cond.code x code maxLocals ret :: tables_1
/-- a 'code' word, met by the world's own term for the bytes: nothing is compared byte by byte -/
theorem code_word {y : MethodName} {bytes : ByteArray} {mx : Nat} {rt : Option FieldType} {a : Array Value} {s : State} {m : MethodId} {meth : Method} {c : Code} (h1 : s.methodNamed? y = some m) (h2 : s.vm.method? m = some meth) (h3 : meth.code = some c) (h4 : c.code = bytes)
    (h5 : (c.maxLocals == mx && c.exceptionTable.isEmpty && decide (c.maxStack ≤ mostOperands) && decide (meth.sig.returnType = rt) && !meth.locks && decide (parseMethodDescriptor y.desc = some meth.sig)) = true) : (Jvm.Cond.code y bytes mx rt).before a s = true := by
  simp only [Bool.and_eq_true, beq_iff_eq, Bool.not_eq_true', decide_eq_true_eq] at h5
  obtain ⟨⟨⟨⟨⟨g1, g2⟩, g3⟩, g4⟩, g5⟩, g6⟩ := h5
  simp [Cond.before, Cond.holds, Cond.value, h1, h2, h3, h4, g1, g2, g3, g4, g5, g6]
def isCode : Jvm.Cond → Bool
  | .code _ _ _ _ => true
  | _ => false
theorem all_split {L : List Jvm.Cond} {P : Jvm.Cond → Bool} (h1 : L.all (fun c => isCode c || P c) = true) (h2 : ∀ c ∈ L.filter isCode, P c = true) : L.all P = true := by
  refine List.all_eq_true.mpr fun c hc => ?_
  have h := List.all_eq_true.mp h1 c hc
  rcases Bool.eq_false_or_eq_true (isCode c) with hi | hi
  · exact h2 c (List.mem_filter.mpr ⟨hc, hi⟩)
  · simpa [hi] using h
set_option maxRecDepth 65536 in
theorem w_c0 : (Jvm.Cond.code x code maxLocals ret).before args0 about1 = true := code_word (m := ⟨1, 2⟩) (meth := k1m2) (c := k1c2) (by decide +kernel) rfl rfl rfl (by decide +kernel)
set_option maxRecDepth 65536 in
theorem w_c1 : (Jvm.Cond.code ({ cls := "com/example/epithet/epithet/store/RecordFilesWholeLinesEndPinLaw", name := "at", desc := "(JII)B" } : Jvm.MethodName) method_2_code (4 : Nat) (Option.some Jvm.ClassFile.FieldType.byte)).before args0 about1 = true := code_word (m := ⟨1, 1⟩) (meth := k1m1) (c := k1c1) (by decide +kernel) rfl rfl rfl (by decide +kernel)
set_option maxRecDepth 65536 in
theorem w_c2 : (Jvm.Cond.code ({ cls := "com/example/epithet/epithet/store/RecordFiles", name := "wholeLinesEnd", desc := "([B)J" } : Jvm.MethodName) prog_91_method_13_code (2 : Nat) (Option.some Jvm.ClassFile.FieldType.long)).before args0 about1 = true := code_word (m := ⟨2, 0⟩) (meth := k2m0) (c := k2c0) (by decide +kernel) rfl rfl rfl (by decide +kernel)
def codes1 : List Jvm.Cond := [Jvm.Cond.code x code maxLocals ret, Jvm.Cond.code ({ cls := "com/example/epithet/epithet/store/RecordFilesWholeLinesEndPinLaw", name := "at", desc := "(JII)B" } : Jvm.MethodName) method_2_code (4 : Nat) (Option.some Jvm.ClassFile.FieldType.byte), Jvm.Cond.code ({ cls := "com/example/epithet/epithet/store/RecordFiles", name := "wholeLinesEnd", desc := "([B)J" } : Jvm.MethodName) prog_91_method_13_code (2 : Nat) (Option.some Jvm.ClassFile.FieldType.long)]
set_option maxRecDepth 65536 in
theorem codes_eq : words1.filter isCode = codes1 := rfl
theorem w_codes : ∀ c ∈ words1.filter isCode, c.before args0 about1 = true := by
  rw [codes_eq]
  intro c hc
  simp only [codes1, List.mem_cons, List.not_mem_nil, or_false] at hc
  rcases hc with rfl | rfl | rfl
  · exact w_c0
  · exact w_c1
  · exact w_c2
set_option maxRecDepth 65536 in
theorem w_t1 : words1.all (fun c => isCode c || c.before args0 about1) = true := by decide +kernel
theorem w_tables : (allAtoms (Jvm.Cond.code x code maxLocals ret :: tables_1)).before args0 about1 = true := by
  rw [allAtoms_all]
  show words1.all (fun c => c.before args0 about1) = true
  refine all_split ?_ w_codes
  rw [w_t1]
set_option maxRecDepth 65536 in
theorem w_case : (Jvm.Cond.and given_1 narrow_1).before args0 about1 = true := by decide +kernel
theorem w_applies : (headSpec (Jvm.Cond.code x code maxLocals ret :: tables_1) room_1).applies x e0.platform about1 = true :=
  (Spec.applies_iff w_frames).mpr ⟨w_running, w_runnable, w_alone, w_named, w_hears, w_ripe, w_room, w_tables⟩
theorem atStart : AtStart classFile x code maxLocals ret World_1 tables_1 room_1 Calls_1 rest_1 Pre_1 launch0 p0 e0 about1 theMethod args0 below0 :=
  ⟨lists_1, trivial, launch0.admits_env _ _ _, launch0.least_env, fairChoices_fair.cas, fairChoices_fair.clock, w_frames, w_args, w_heap, w_applies, trivial, trivial, w_case⟩
end start1
theorem witness_1 : WitnessClaimed_1 := ⟨start1.p0, start1.e0, start1.about1, start1.theMethod, start1.args0, start1.below0, start1.atStart⟩
end Jvm.Pilot.@@N@@
