import JvmDerived
import JvmDerived.Pilot.@@N@@Statement
import JvmDerived.Pilot.@@N@@Code
set_option linter.unusedVariables false
set_option linter.unusedSimpArgs false
@@BLOCK:NumsL.lean.txt@@
namespace Jvm.Pilot.@@N@@
open Jvm Jvm.ClassFile Sem Op Lib Jvm.Free Jvm.Stand Jvm.LawKit Jvm.RoadKit Bundle Jvm.Pilot.@@N@@.Jvm.D
section OwnKit
variable {p : Program} {l : Launch} {e : Env} {R : Room} {s : State} {m : MethodId} {args : Array Value} {below : List Frame} {meth : Method} {c : Code} {n0 C N : Nat} {Q : Option Value → Heap → Prop} {h : Heap} {ce sl pc q : Nat} {Ls : Array Slot} {st : List Value} {Z : State} {a0 : Array Value}
/-- the walk that stands at pc, with these locals, this stack and this heap, comes to its end as Q says -/
def Go (p : Program) (l : Launch) (e : Env) (R : Room) (s : State) (m : MethodId) (args : Array Value) (below : List Frame) (meth : Method) (c : Code) (n0 C N : Nat) (Q : Option Value → Heap → Prop) (h : Heap) (ce sl pc : Nat) (Ls : Array Slot) (st : List Value) : Prop :=
  ∀ (T : State) (locs : List Loc), Stand p l e R s m args below meth c T locs ce sl → Fr n0 locs → T.heap = h →
    ∃ (s₂ : State) (v : Option Value) (L : List Loc), Steps p.tables e below (T.setTop (mkF m pc Ls st)) s₂ ∧ s₂.status = .running ∧ Ended s₂ below (.returned v) ∧ Q v s₂.heap ∧ Fr n0 L ∧ FrameEnd s (.returned v) s₂ L C N
/-- a method's contract, at given arguments and a given heap -/
abbrev Met (l : Launch) (Z : State) (y : MethodName) (bytes : ByteArray) (maxL : Nat) (rt : Option FieldType) (ws : List Cond) (rm : Room) (as : Array Value) (h0 : Heap) (n0 : Nat) (Q : Option Value → Heap → Prop) : Prop :=
  MetFree l y (head1 (Cond.code y bytes maxL rt :: ws) rm) (fun a U => a = as ∧ Z.Warmed39 U.vm ∧ U.heap = h0) (fun _ _ _ _ _ => True) (fun _ U o U' => ∃ v L, o = .returned v ∧ (Q v U'.heap ∧ Fr n0 L) ∧ FrameEnd U o U' L rm.cells rm.slots)
theorem Met.of {y : MethodName} {bytes : ByteArray} {maxL : Nat} {rt : Option FieldType} {ws : List Cond} {rm : Room} {as : Array Value} {h0 : Heap} {Ls0 : Array Slot} (hpl : plainFor y = true) (hent : argsToLocals as maxL = Ls0)
    (body : ∀ (p : Program) (e : Env) (s : State) (m : MethodId) (below : List Frame) (meth : Method) (c : Code), p.tables.exec = Jvm.exec → c.code = bytes → c.maxLocals = maxL → meth.sig.returnType = rt → meth.locks = false → s.vm.findClass y.cls = some m.cls → meth.name = y.name → Z.Warmed39 s.vm →
      Go p l e rm s m as below meth c n0 rm.cells rm.slots Q h0 0 0 0 Ls0 []) : Met l Z y bytes maxL rt ws rm as h0 n0 Q := by
  refine MetFree.of_bodySF hpl hisR ?_
  intro p e s m args below meth c s₁ Bd hml0 hP hK
  obtain ⟨rfl, hZ, hh⟩ := hP
  have e0 : s₁.heap = h0 := by rw [← hh, Bd.state]; rfl
  obtain ⟨s₂, v, L, S, r1, r2, hq, hf, fe⟩ := body p e s m below meth c Bd.exec Bd.bytes hml0 Bd.returns Bd.notSynchronized (findClass_of_methodNamed Bd.named) (name_of_methodNamed Bd.named Bd.method).1 hZ s₁ [] (Stand.of_body Bd) (Fr.nil _) e0
  have ef : entryFrame m args maxL = mkF m 0 Ls0 [] := by simp only [entryFrame, mkF, hent]
  exact ⟨s₂, _, castTop ef S, r1, r2, v, L, rfl, ⟨hq, hf⟩, fe⟩
theorem Go.mono {ce' sl' : Nat} (hc : ce ≤ ce') (hs : sl ≤ sl') (G : Go p l e R s m args below meth c n0 C N Q h ce' sl' pc Ls st) : Go p l e R s m args below meth c n0 C N Q h ce sl pc Ls st :=
  fun T locs X Nf eT => G T locs (X.more hc hs) Nf eT
theorem Go.step {q' : Nat} {Ls' : Array Slot} {st' : List Value} (H : ∀ (T : State) (locs : List Loc) (target : State), Stand p l e R s m args below meth c T locs ce sl → T.heap = h → Steps p.tables e below (T.setTop (mkF m q' Ls' st')) target → Steps p.tables e below (T.setTop (mkF m pc Ls st)) target)
    (G : Go p l e R s m args below meth c n0 C N Q h ce sl q' Ls' st') : Go p l e R s m args below meth c n0 C N Q h ce sl pc Ls st := fun T locs X Nf eT => by
  obtain ⟨s₂, v, L, S, r⟩ := G T locs X Nf eT
  exact ⟨s₂, v, L, H T locs s₂ X eT S, r⟩
theorem Go.law {ce' sl' q' : Nat} {Ls' : Array Slot} {st' : List Value} {h' : Heap} (H : ∀ (T : State) (locs : List Loc), Stand p l e R s m args below meth c T locs ce sl → T.heap = h → ∃ T', Stand p l e R s m args below meth c T' locs ce' sl' ∧ T'.heap = h' ∧ ∀ target, Steps p.tables e below (T'.setTop (mkF m q' Ls' st')) target → Steps p.tables e below (T.setTop (mkF m pc Ls st)) target)
    (G : Go p l e R s m args below meth c n0 C N Q h' ce' sl' q' Ls' st') : Go p l e R s m args below meth c n0 C N Q h ce sl pc Ls st := fun T locs X Nf eT => by
  obtain ⟨T', X', eT', hs⟩ := H T locs X eT
  obtain ⟨s₂, v, L, S, r⟩ := G T' locs X' Nf eT'
  exact ⟨s₂, v, L, hs _ S, r⟩
theorem Go.iloadN (hx : p.tables.exec = Jvm.exec) {k : Fin 4} {v : Int32} (hd : decode c.code pc = .ok (.iload_n k, 1)) (hl : Ls[k.val]? = some (.val (.int v))) (hq : q = pc + 1) (G : Go p l e R s m args below meth c n0 C N Q h ce sl q Ls (.int v :: st)) : Go p l e R s m args below meth c n0 C N Q h ce sl pc Ls (st) := by
  subst hq
  exact Go.step (fun T locs target X _ S => XS.iloadN X.here hx rfl hd hl S) G
theorem Go.iload (hx : p.tables.exec = Jvm.exec) {k : Nat} {v : Int32} (hd : decode c.code pc = .ok (.iload k, 2)) (hl : Ls[k]? = some (.val (.int v))) (hq : q = pc + 2) (G : Go p l e R s m args below meth c n0 C N Q h ce sl q Ls (.int v :: st)) : Go p l e R s m args below meth c n0 C N Q h ce sl pc Ls (st) := by
  subst hq
  exact Go.step (fun T locs target X _ S => XS.iload X.here hx rfl hd hl S) G
theorem Go.aloadN (hx : p.tables.exec = Jvm.exec) {k : Fin 4} {v : Value} (hd : decode c.code pc = .ok (.aload_n k, 1)) (hl : Ls[k.val]? = some (.val v)) (hv : v.isRef = true) (hq : q = pc + 1) (G : Go p l e R s m args below meth c n0 C N Q h ce sl q Ls (v :: st)) : Go p l e R s m args below meth c n0 C N Q h ce sl pc Ls (st) := by
  subst hq
  exact Go.step (fun T locs target X _ S => XS.aloadN X.here hx rfl hd hl hv S) G
theorem Go.aload (hx : p.tables.exec = Jvm.exec) {k : Nat} {v : Value} (hd : decode c.code pc = .ok (.aload k, 2)) (hl : Ls[k]? = some (.val v)) (hv : v.isRef = true) (hq : q = pc + 2) (G : Go p l e R s m args below meth c n0 C N Q h ce sl q Ls (v :: st)) : Go p l e R s m args below meth c n0 C N Q h ce sl pc Ls (st) := by
  subst hq
  exact Go.step (fun T locs target X _ S => XS.aload X.here hx rfl hd hl hv S) G
theorem Go.lloadN (hx : p.tables.exec = Jvm.exec) {k : Fin 4} {v : Int64} (hd : decode c.code pc = .ok (.lload_n k, 1)) (hl : Ls[k.val]? = some (.val (.long v))) (hq : q = pc + 1) (G : Go p l e R s m args below meth c n0 C N Q h ce sl q Ls (.long v :: st)) : Go p l e R s m args below meth c n0 C N Q h ce sl pc Ls (st) := by
  subst hq
  exact Go.step (fun T locs target X _ S => XT.lloadN X.here hx rfl hd hl S) G
theorem Go.lload (hx : p.tables.exec = Jvm.exec) {k : Nat} {v : Int64} (hd : decode c.code pc = .ok (.lload k, 2)) (hl : Ls[k]? = some (.val (.long v))) (hq : q = pc + 2) (G : Go p l e R s m args below meth c n0 C N Q h ce sl q Ls (.long v :: st)) : Go p l e R s m args below meth c n0 C N Q h ce sl pc Ls (st) := by
  subst hq
  exact Go.step (fun T locs target X _ S => XT.lload X.here hx rfl hd hl S) G
theorem Go.istoreN (hx : p.tables.exec = Jvm.exec) {k : Fin 4} {x : Int32} {l' : Array Slot} (hd : decode c.code pc = .ok (.istore_n k, 1)) (hl : storeLocals Ls k.val (.int x) = some l') (hq : q = pc + 1) (G : Go p l e R s m args below meth c n0 C N Q h ce sl q l' (st)) : Go p l e R s m args below meth c n0 C N Q h ce sl pc Ls (.int x :: st) := by
  subst hq
  exact Go.step (fun T locs target X _ S => XS.istoreN X.here hx rfl hd rfl hl S) G
theorem Go.istore (hx : p.tables.exec = Jvm.exec) {k : Nat} {x : Int32} {l' : Array Slot} (hd : decode c.code pc = .ok (.istore k, 2)) (hl : storeLocals Ls k (.int x) = some l') (hq : q = pc + 2) (G : Go p l e R s m args below meth c n0 C N Q h ce sl q l' (st)) : Go p l e R s m args below meth c n0 C N Q h ce sl pc Ls (.int x :: st) := by
  subst hq
  exact Go.step (fun T locs target X _ S => XS.istore X.here hx rfl hd rfl hl S) G
theorem Go.lstoreN (hx : p.tables.exec = Jvm.exec) {k : Fin 4} {x : Int64} {l' : Array Slot} (hd : decode c.code pc = .ok (.lstore_n k, 1)) (hl : storeLocals Ls k.val (.long x) = some l') (hq : q = pc + 1) (G : Go p l e R s m args below meth c n0 C N Q h ce sl q l' (st)) : Go p l e R s m args below meth c n0 C N Q h ce sl pc Ls (.long x :: st) := by
  subst hq
  exact Go.step (fun T locs target X _ S => XT.lstoreN X.here hx rfl hd rfl hl S) G
theorem Go.lstore (hx : p.tables.exec = Jvm.exec) {k : Nat} {x : Int64} {l' : Array Slot} (hd : decode c.code pc = .ok (.lstore k, 2)) (hl : storeLocals Ls k (.long x) = some l') (hq : q = pc + 2) (G : Go p l e R s m args below meth c n0 C N Q h ce sl q l' (st)) : Go p l e R s m args below meth c n0 C N Q h ce sl pc Ls (.long x :: st) := by
  subst hq
  exact Go.step (fun T locs target X _ S => XT.lstore X.here hx rfl hd rfl hl S) G
theorem Go.astoreN (hx : p.tables.exec = Jvm.exec) {k : Fin 4} {x : Value} {l' : Array Slot} (hd : decode c.code pc = .ok (.astore_n k, 1)) (hv : x.isRef = true) (hl : storeLocals Ls k.val x = some l') (hq : q = pc + 1) (G : Go p l e R s m args below meth c n0 C N Q h ce sl q l' (st)) : Go p l e R s m args below meth c n0 C N Q h ce sl pc Ls (x :: st) := by
  subst hq
  exact Go.step (fun T locs target X _ S => XS.astoreN X.here hx rfl hd rfl hv hl S) G
theorem Go.astore (hx : p.tables.exec = Jvm.exec) {k : Nat} {x : Value} {l' : Array Slot} (hd : decode c.code pc = .ok (.astore k, 2)) (hv : x.isRef = true) (hl : storeLocals Ls k x = some l') (hq : q = pc + 2) (G : Go p l e R s m args below meth c n0 C N Q h ce sl q l' (st)) : Go p l e R s m args below meth c n0 C N Q h ce sl pc Ls (x :: st) := by
  subst hq
  exact Go.step (fun T locs target X _ S => XS.astore X.here hx rfl hd rfl hv hl S) G
theorem Go.iinc (hx : p.tables.exec = Jvm.exec) {k : Nat} {cst : Int} {x : Int32} {l' : Array Slot} (hd : decode c.code pc = .ok (.iinc k cst, 3)) (hl : Ls[k]? = some (.val (.int x))) (hl' : storeLocals Ls k (.int (x + Int32.ofInt cst)) = some l') (hq : q = pc + 3) (G : Go p l e R s m args below meth c n0 C N Q h ce sl q l' (st)) : Go p l e R s m args below meth c n0 C N Q h ce sl pc Ls (st) := by
  subst hq
  exact Go.step (fun T locs target X _ S => XS.iinc X.here hx rfl hd hl hl' S) G
theorem Go.iconst (hx : p.tables.exec = Jvm.exec) {i : Int} {z : Int32} (hd : decode c.code pc = .ok (.iconst i, 1)) (hz : Int32.ofInt i = z) (hq : q = pc + 1) (G : Go p l e R s m args below meth c n0 C N Q h ce sl q Ls (.int z :: st)) : Go p l e R s m args below meth c n0 C N Q h ce sl pc Ls (st) := by
  subst hq
  exact Go.step (fun T locs target X _ S => XS.iconst X.here hx rfl hd (by rw [hz]; exact S)) G
theorem Go.bipush (hx : p.tables.exec = Jvm.exec) {i : Int} {z : Int32} (hd : decode c.code pc = .ok (.bipush i, 2)) (hz : (Int8.ofInt i).toInt32 = z) (hq : q = pc + 2) (G : Go p l e R s m args below meth c n0 C N Q h ce sl q Ls (.int z :: st)) : Go p l e R s m args below meth c n0 C N Q h ce sl pc Ls (st) := by
  subst hq
  exact Go.step (fun T locs target X _ S => XS.bipush X.here hx rfl hd (by rw [hz]; exact S)) G
theorem Go.sipush (hx : p.tables.exec = Jvm.exec) {i : Int} {z : Int32} (hd : decode c.code pc = .ok (.sipush i, 3)) (hz : (Int16.ofInt i).toInt32 = z) (hq : q = pc + 3) (G : Go p l e R s m args below meth c n0 C N Q h ce sl q Ls (.int z :: st)) : Go p l e R s m args below meth c n0 C N Q h ce sl pc Ls (st) := by
  subst hq
  exact Go.step (fun T locs target X _ S => XS.sipush X.here hx rfl hd (by rw [hz]; exact S)) G
theorem Go.aconstNull (hx : p.tables.exec = Jvm.exec)  (hd : decode c.code pc = .ok (.aconst_null, 1))  (hq : q = pc + 1) (G : Go p l e R s m args below meth c n0 C N Q h ce sl q Ls (.null :: st)) : Go p l e R s m args below meth c n0 C N Q h ce sl pc Ls (st) := by
  subst hq
  exact Go.step (fun T locs target X _ S => XS.aconstNull X.here hx rfl hd S) G
theorem Go.lconst (hx : p.tables.exec = Jvm.exec) {k : Fin 2} {z : Int64} (hd : decode c.code pc = .ok (.lconst k, 1)) (hz : Int64.ofNat k = z) (hq : q = pc + 1) (G : Go p l e R s m args below meth c n0 C N Q h ce sl q Ls (.long z :: st)) : Go p l e R s m args below meth c n0 C N Q h ce sl pc Ls (st) := by
  subst hq
  exact Go.step (fun T locs target X _ S => XT.lconst X.here hx rfl hd (by rw [hz]; exact S)) G
theorem Go.ldcInt (hx : p.tables.exec = Jvm.exec) (hZ : Z.Warmed39 s.vm) {own : String} {index : Nat} {v : Int32} (hown : s.vm.findClass own = some m.cls) (hw : (Cond.constant own index v).before a0 Z = true) (hd : decode c.code pc = .ok (.ldc index, 2)) (hq : q = pc + 2) (G : Go p l e R s m args below meth c n0 C N Q h ce sl q Ls (.int v :: st)) : Go p l e R s m args below meth c n0 C N Q h ce sl pc Ls st := by
  subst hq
  exact Go.step (fun T locs target X _ S => X.ldcInt hx hown (mvT hZ hw) (g := mkF m pc Ls st) rfl hd target S) G
theorem Go.ldc2Long (hx : p.tables.exec = Jvm.exec) (hZ : Z.Warmed39 s.vm) {own : String} {index : Nat} {v : Int64} (hown : s.vm.findClass own = some m.cls) (hw : (Cond.constantLong own index v).before a0 Z = true) (hd : decode c.code pc = .ok (.ldc2_w index, 3)) (hq : q = pc + 3) (G : Go p l e R s m args below meth c n0 C N Q h ce sl q Ls (.long v :: st)) : Go p l e R s m args below meth c n0 C N Q h ce sl pc Ls st := by
  subst hq
  exact Go.step (fun T locs target X _ S => X.ldc2Long hx hown (mvT hZ hw) (g := mkF m pc Ls st) rfl hd target S) G
theorem Go.iadd (hx : p.tables.exec = Jvm.exec) {x y : Int32} (hd : decode c.code pc = .ok (.iadd, 1))  (hq : q = pc + 1) (G : Go p l e R s m args below meth c n0 C N Q h ce sl q Ls (.int (x + y) :: st)) : Go p l e R s m args below meth c n0 C N Q h ce sl pc Ls (.int y :: .int x :: st) := by
  subst hq
  exact Go.step (fun T locs target X _ S => XS.iadd X.here hx rfl hd rfl S) G
theorem Go.isub (hx : p.tables.exec = Jvm.exec) {x y : Int32} (hd : decode c.code pc = .ok (.isub, 1))  (hq : q = pc + 1) (G : Go p l e R s m args below meth c n0 C N Q h ce sl q Ls (.int (x - y) :: st)) : Go p l e R s m args below meth c n0 C N Q h ce sl pc Ls (.int y :: .int x :: st) := by
  subst hq
  exact Go.step (fun T locs target X _ S => XS.isub X.here hx rfl hd rfl S) G
theorem Go.iand (hx : p.tables.exec = Jvm.exec) {x y : Int32} (hd : decode c.code pc = .ok (.iand, 1))  (hq : q = pc + 1) (G : Go p l e R s m args below meth c n0 C N Q h ce sl q Ls (.int (x &&& y) :: st)) : Go p l e R s m args below meth c n0 C N Q h ce sl pc Ls (.int y :: .int x :: st) := by
  subst hq
  exact Go.step (fun T locs target X _ S => XS.iand X.here hx rfl hd rfl S) G
theorem Go.imul (hx : p.tables.exec = Jvm.exec) {x y : Int32} (hd : decode c.code pc = .ok (.imul, 1))  (hq : q = pc + 1) (G : Go p l e R s m args below meth c n0 C N Q h ce sl q Ls (.int (x * y) :: st)) : Go p l e R s m args below meth c n0 C N Q h ce sl pc Ls (.int y :: .int x :: st) := by
  subst hq
  exact Go.step (fun T locs target X _ S => XS.imul X.here hx rfl hd rfl S) G
theorem Go.idiv (hx : p.tables.exec = Jvm.exec) {x y : Int32} (hd : decode c.code pc = .ok (.idiv, 1)) (hy : y ≠ 0) (hq : q = pc + 1) (G : Go p l e R s m args below meth c n0 C N Q h ce sl q Ls (.int (x / y) :: st)) : Go p l e R s m args below meth c n0 C N Q h ce sl pc Ls (.int y :: .int x :: st) := by
  subst hq
  exact Go.step (fun T locs target X _ S => XS.idiv X.here hx rfl hd rfl hy S) G
theorem Go.irem (hx : p.tables.exec = Jvm.exec) {x y : Int32} (hd : decode c.code pc = .ok (.irem, 1)) (hy : y ≠ 0) (hq : q = pc + 1) (G : Go p l e R s m args below meth c n0 C N Q h ce sl q Ls (.int (x % y) :: st)) : Go p l e R s m args below meth c n0 C N Q h ce sl pc Ls (.int y :: .int x :: st) := by
  subst hq
  exact Go.step (fun T locs target X _ S => iremM X hx rfl hd rfl hy S) G
theorem Go.ineg (hx : p.tables.exec = Jvm.exec) {x : Int32} (hd : decode c.code pc = .ok (.ineg, 1))  (hq : q = pc + 1) (G : Go p l e R s m args below meth c n0 C N Q h ce sl q Ls (.int (-x) :: st)) : Go p l e R s m args below meth c n0 C N Q h ce sl pc Ls (.int x :: st) := by
  subst hq
  exact Go.step (fun T locs target X _ S => XS.ineg X.here hx rfl hd rfl S) G
theorem Go.ixor (hx : p.tables.exec = Jvm.exec) {x y : Int32} (hd : decode c.code pc = .ok (.ixor, 1))  (hq : q = pc + 1) (G : Go p l e R s m args below meth c n0 C N Q h ce sl q Ls (.int (x ^^^ y) :: st)) : Go p l e R s m args below meth c n0 C N Q h ce sl pc Ls (.int y :: .int x :: st) := by
  subst hq
  exact Go.step (fun T locs target X _ S => XT.ixor X.here hx rfl hd rfl S) G
theorem Go.ior (hx : p.tables.exec = Jvm.exec) {x y : Int32} (hd : decode c.code pc = .ok (.ior, 1))  (hq : q = pc + 1) (G : Go p l e R s m args below meth c n0 C N Q h ce sl q Ls (.int (x ||| y) :: st)) : Go p l e R s m args below meth c n0 C N Q h ce sl pc Ls (.int y :: .int x :: st) := by
  subst hq
  exact Go.step (fun T locs target X _ S => XT.ior X.here hx rfl hd rfl S) G
theorem Go.ishl (hx : p.tables.exec = Jvm.exec) {x y : Int32} (hd : decode c.code pc = .ok (.ishl, 1))  (hq : q = pc + 1) (G : Go p l e R s m args below meth c n0 C N Q h ce sl q Ls (.int (x <<< (y &&& 31)) :: st)) : Go p l e R s m args below meth c n0 C N Q h ce sl pc Ls (.int y :: .int x :: st) := by
  subst hq
  exact Go.step (fun T locs target X _ S => XT.ishl X.here hx rfl hd rfl S) G
theorem Go.ishr (hx : p.tables.exec = Jvm.exec) {x y : Int32} (hd : decode c.code pc = .ok (.ishr, 1))  (hq : q = pc + 1) (G : Go p l e R s m args below meth c n0 C N Q h ce sl q Ls (.int (x >>> (y &&& 31)) :: st)) : Go p l e R s m args below meth c n0 C N Q h ce sl pc Ls (.int y :: .int x :: st) := by
  subst hq
  exact Go.step (fun T locs target X _ S => XT.ishr X.here hx rfl hd rfl S) G
theorem Go.iushr (hx : p.tables.exec = Jvm.exec) {x y : Int32} (hd : decode c.code pc = .ok (.iushr, 1))  (hq : q = pc + 1) (G : Go p l e R s m args below meth c n0 C N Q h ce sl q Ls (.int (XT.ushr x y) :: st)) : Go p l e R s m args below meth c n0 C N Q h ce sl pc Ls (.int y :: .int x :: st) := by
  subst hq
  exact Go.step (fun T locs target X _ S => XT.iushr X.here hx rfl hd rfl S) G
theorem Go.ladd (hx : p.tables.exec = Jvm.exec) {x y : Int64} (hd : decode c.code pc = .ok (.ladd, 1))  (hq : q = pc + 1) (G : Go p l e R s m args below meth c n0 C N Q h ce sl q Ls (.long (x + y) :: st)) : Go p l e R s m args below meth c n0 C N Q h ce sl pc Ls (.long y :: .long x :: st) := by
  subst hq
  exact Go.step (fun T locs target X _ S => XT.ladd X.here hx rfl hd rfl S) G
theorem Go.lsub (hx : p.tables.exec = Jvm.exec) {x y : Int64} (hd : decode c.code pc = .ok (.lsub, 1))  (hq : q = pc + 1) (G : Go p l e R s m args below meth c n0 C N Q h ce sl q Ls (.long (x - y) :: st)) : Go p l e R s m args below meth c n0 C N Q h ce sl pc Ls (.long y :: .long x :: st) := by
  subst hq
  exact Go.step (fun T locs target X _ S => XT.lsub X.here hx rfl hd rfl S) G
theorem Go.lmul (hx : p.tables.exec = Jvm.exec) {x y : Int64} (hd : decode c.code pc = .ok (.lmul, 1))  (hq : q = pc + 1) (G : Go p l e R s m args below meth c n0 C N Q h ce sl q Ls (.long (x * y) :: st)) : Go p l e R s m args below meth c n0 C N Q h ce sl pc Ls (.long y :: .long x :: st) := by
  subst hq
  exact Go.step (fun T locs target X _ S => XT.lmul X.here hx rfl hd rfl S) G
theorem Go.land (hx : p.tables.exec = Jvm.exec) {x y : Int64} (hd : decode c.code pc = .ok (.land, 1))  (hq : q = pc + 1) (G : Go p l e R s m args below meth c n0 C N Q h ce sl q Ls (.long (x &&& y) :: st)) : Go p l e R s m args below meth c n0 C N Q h ce sl pc Ls (.long y :: .long x :: st) := by
  subst hq
  exact Go.step (fun T locs target X _ S => XT.land X.here hx rfl hd rfl S) G
theorem Go.lor (hx : p.tables.exec = Jvm.exec) {x y : Int64} (hd : decode c.code pc = .ok (.lor, 1))  (hq : q = pc + 1) (G : Go p l e R s m args below meth c n0 C N Q h ce sl q Ls (.long (x ||| y) :: st)) : Go p l e R s m args below meth c n0 C N Q h ce sl pc Ls (.long y :: .long x :: st) := by
  subst hq
  exact Go.step (fun T locs target X _ S => XT.lor X.here hx rfl hd rfl S) G
theorem Go.lxor (hx : p.tables.exec = Jvm.exec) {x y : Int64} (hd : decode c.code pc = .ok (.lxor, 1))  (hq : q = pc + 1) (G : Go p l e R s m args below meth c n0 C N Q h ce sl q Ls (.long (x ^^^ y) :: st)) : Go p l e R s m args below meth c n0 C N Q h ce sl pc Ls (.long y :: .long x :: st) := by
  subst hq
  exact Go.step (fun T locs target X _ S => XT.lxor X.here hx rfl hd rfl S) G
theorem Go.lshl (hx : p.tables.exec = Jvm.exec) {x : Int64} {y : Int32} (hd : decode c.code pc = .ok (.lshl, 1))  (hq : q = pc + 1) (G : Go p l e R s m args below meth c n0 C N Q h ce sl q Ls (.long (x <<< (y.toInt64 &&& 63)) :: st)) : Go p l e R s m args below meth c n0 C N Q h ce sl pc Ls (.int y :: .long x :: st) := by
  subst hq
  exact Go.step (fun T locs target X _ S => XT.lshl X.here hx rfl hd rfl S) G
theorem Go.lshr (hx : p.tables.exec = Jvm.exec) {x : Int64} {y : Int32} (hd : decode c.code pc = .ok (.lshr, 1))  (hq : q = pc + 1) (G : Go p l e R s m args below meth c n0 C N Q h ce sl q Ls (.long (x >>> (y.toInt64 &&& 63)) :: st)) : Go p l e R s m args below meth c n0 C N Q h ce sl pc Ls (.int y :: .long x :: st) := by
  subst hq
  exact Go.step (fun T locs target X _ S => XT.lshr X.here hx rfl hd rfl S) G
theorem Go.lushr (hx : p.tables.exec = Jvm.exec) {x : Int64} {y : Int32} (hd : decode c.code pc = .ok (.lushr, 1))  (hq : q = pc + 1) (G : Go p l e R s m args below meth c n0 C N Q h ce sl q Ls (.long (XT.ushrL x y) :: st)) : Go p l e R s m args below meth c n0 C N Q h ce sl pc Ls (.int y :: .long x :: st) := by
  subst hq
  exact Go.step (fun T locs target X _ S => XT.lushr X.here hx rfl hd rfl S) G
theorem Go.lrem (hx : p.tables.exec = Jvm.exec) {x y : Int64} (hd : decode c.code pc = .ok (.lrem, 1)) (hy : y ≠ 0) (hq : q = pc + 1) (G : Go p l e R s m args below meth c n0 C N Q h ce sl q Ls (.long (x - (x / y) * y) :: st)) : Go p l e R s m args below meth c n0 C N Q h ce sl pc Ls (.long y :: .long x :: st) := by
  subst hq
  exact Go.step (fun T locs target X _ S => XT.lrem X.here hx rfl hd rfl hy S) G
theorem Go.ldiv (hx : p.tables.exec = Jvm.exec) {x y : Int64} (hd : decode c.code pc = .ok (.ldiv, 1)) (hy : y ≠ 0) (hq : q = pc + 1) (G : Go p l e R s m args below meth c n0 C N Q h ce sl q Ls (.long (x / y) :: st)) : Go p l e R s m args below meth c n0 C N Q h ce sl pc Ls (.long y :: .long x :: st) := by
  subst hq
  exact Go.step (fun T locs target X _ S => XT.ldiv X.here hx rfl hd rfl hy S) G
theorem Go.lneg (hx : p.tables.exec = Jvm.exec) {x : Int64} (hd : decode c.code pc = .ok (.lneg, 1))  (hq : q = pc + 1) (G : Go p l e R s m args below meth c n0 C N Q h ce sl q Ls (.long (-x) :: st)) : Go p l e R s m args below meth c n0 C N Q h ce sl pc Ls (.long x :: st) := by
  subst hq
  exact Go.step (fun T locs target X _ S => XT.lneg X.here hx rfl hd rfl S) G
theorem Go.lcmp (hx : p.tables.exec = Jvm.exec) {x y : Int64} (hd : decode c.code pc = .ok (.lcmp, 1))  (hq : q = pc + 1) (G : Go p l e R s m args below meth c n0 C N Q h ce sl q Ls (.int (XT.cmpL x y) :: st)) : Go p l e R s m args below meth c n0 C N Q h ce sl pc Ls (.long y :: .long x :: st) := by
  subst hq
  exact Go.step (fun T locs target X _ S => XT.lcmp X.here hx rfl hd rfl S) G
theorem Go.i2l (hx : p.tables.exec = Jvm.exec) {x : Int32} (hd : decode c.code pc = .ok (.i2l, 1))  (hq : q = pc + 1) (G : Go p l e R s m args below meth c n0 C N Q h ce sl q Ls (.long (x.toInt64) :: st)) : Go p l e R s m args below meth c n0 C N Q h ce sl pc Ls (.int x :: st) := by
  subst hq
  exact Go.step (fun T locs target X _ S => XT.i2l X.here hx rfl hd rfl S) G
theorem Go.l2i (hx : p.tables.exec = Jvm.exec) {x : Int64} (hd : decode c.code pc = .ok (.l2i, 1))  (hq : q = pc + 1) (G : Go p l e R s m args below meth c n0 C N Q h ce sl q Ls (.int (x.toInt32) :: st)) : Go p l e R s m args below meth c n0 C N Q h ce sl pc Ls (.long x :: st) := by
  subst hq
  exact Go.step (fun T locs target X _ S => XT.l2i X.here hx rfl hd rfl S) G
theorem Go.i2b (hx : p.tables.exec = Jvm.exec) {x : Int32} (hd : decode c.code pc = .ok (.i2b, 1))  (hq : q = pc + 1) (G : Go p l e R s m args below meth c n0 C N Q h ce sl q Ls (.int (x.toInt8.toInt32) :: st)) : Go p l e R s m args below meth c n0 C N Q h ce sl pc Ls (.int x :: st) := by
  subst hq
  exact Go.step (fun T locs target X _ S => XT.i2b X.here hx rfl hd rfl S) G
theorem Go.i2c (hx : p.tables.exec = Jvm.exec) {x : Int32} (hd : decode c.code pc = .ok (.i2c, 1))  (hq : q = pc + 1) (G : Go p l e R s m args below meth c n0 C N Q h ce sl q Ls (.int (x.toUInt32.toUInt16.toUInt32.toInt32) :: st)) : Go p l e R s m args below meth c n0 C N Q h ce sl pc Ls (.int x :: st) := by
  subst hq
  exact Go.step (fun T locs target X _ S => XT.i2c X.here hx rfl hd rfl S) G
theorem Go.i2s (hx : p.tables.exec = Jvm.exec) {x : Int32} (hd : decode c.code pc = .ok (.i2s, 1))  (hq : q = pc + 1) (G : Go p l e R s m args below meth c n0 C N Q h ce sl q Ls (.int (x.toInt16.toInt32) :: st)) : Go p l e R s m args below meth c n0 C N Q h ce sl pc Ls (.int x :: st) := by
  subst hq
  exact Go.step (fun T locs target X _ S => XT.i2s X.here hx rfl hd rfl S) G
theorem Go.dup (hx : p.tables.exec = Jvm.exec) {x : Value} (hd : decode c.code pc = .ok (.dup, 1)) (hc : x.category = 1) (hq : q = pc + 1) (G : Go p l e R s m args below meth c n0 C N Q h ce sl q Ls (x :: x :: st)) : Go p l e R s m args below meth c n0 C N Q h ce sl pc Ls (x :: st) := by
  subst hq
  exact Go.step (fun T locs target X _ S => XS.dup X.here hx rfl hd rfl hc S) G
theorem Go.pop (hx : p.tables.exec = Jvm.exec) {x : Value} (hd : decode c.code pc = .ok (.pop, 1)) (hc : x.category = 1) (hq : q = pc + 1) (G : Go p l e R s m args below meth c n0 C N Q h ce sl q Ls (st)) : Go p l e R s m args below meth c n0 C N Q h ce sl pc Ls (x :: st) := by
  subst hq
  exact Go.step (fun T locs target X _ S => XT.pop X.here hx rfl hd rfl hc S) G
theorem Go.dupX1 (hx : p.tables.exec = Jvm.exec) {x y : Value} (hd : decode c.code pc = .ok (.dup_x1, 1)) (hc : x.category = 1) (hc' : y.category = 1) (hq : q = pc + 1) (G : Go p l e R s m args below meth c n0 C N Q h ce sl q Ls (x :: y :: x :: st)) : Go p l e R s m args below meth c n0 C N Q h ce sl pc Ls (x :: y :: st) := by
  subst hq
  exact Go.step (fun T locs target X _ S => XT.dupX1 X.here hx rfl hd rfl hc hc' S) G
theorem Go.dup2 (hx : p.tables.exec = Jvm.exec) {x y : Value} (hd : decode c.code pc = .ok (.dup2, 1)) (hc : x.category = 1) (hc' : y.category = 1) (hq : q = pc + 1) (G : Go p l e R s m args below meth c n0 C N Q h ce sl q Ls (x :: y :: x :: y :: st)) : Go p l e R s m args below meth c n0 C N Q h ce sl pc Ls (x :: y :: st) := by
  subst hq
  exact Go.step (fun T locs target X _ S => XT.dup2 X.here hx rfl hd rfl hc hc' S) G
theorem Go.dup2L (hx : p.tables.exec = Jvm.exec) {x : Int64} (hd : decode c.code pc = .ok (.dup2, 1))  (hq : q = pc + 1) (G : Go p l e R s m args below meth c n0 C N Q h ce sl q Ls (.long x :: .long x :: st)) : Go p l e R s m args below meth c n0 C N Q h ce sl pc Ls (.long x :: st) := by
  subst hq
  exact Go.step (fun T locs target X _ S => XT.dup2L X.here hx rfl hd rfl S) G
theorem Go.goto (hx : p.tables.exec = Jvm.exec) {o : Int} (hd : decode c.code pc = .ok (.goto o, 3)) (ho : 0 ≤ (pc : Int) + o) (hq : ((pc : Int) + o).toNat = q) (G : Go p l e R s m args below meth c n0 C N Q h ce sl q Ls st) : Go p l e R s m args below meth c n0 C N Q h ce sl pc Ls st :=
  Go.step (fun T locs target X _ S => XS.goto X.here hx rfl rfl hd ho hq S) G
theorem Go.icmp_eq (hx : p.tables.exec = Jvm.exec) {x y : Int32} {o : Int} {t : Nat} (hd : decode c.code pc = .ok (.if_icmp .eq o, 3)) (ho : 0 ≤ (pc : Int) + o) (ht : ((pc : Int) + o).toNat = t) (hq : q = pc + 3) (Gt : x = y → Go p l e R s m args below meth c n0 C N Q h ce sl t Ls st) (Gf : ¬ x = y → Go p l e R s m args below meth c n0 C N Q h ce sl q Ls st) : Go p l e R s m args below meth c n0 C N Q h ce sl pc Ls (.int y :: .int x :: st) := by
  subst hq
  by_cases hc : x = y
  · exact Go.step (fun T locs target X _ S => XS.icmpYes X.here hx rfl rfl hd rfl (teq hc).1 ho ht S) (Gt hc)
  · exact Go.step (fun T locs target X _ S => XS.icmpNo X.here hx rfl hd rfl (feq hc).1 S) (Gf hc)
theorem Go.if_eq (hx : p.tables.exec = Jvm.exec) {x : Int32} {o : Int} {t : Nat} (hd : decode c.code pc = .ok (.ifCond .eq o, 3)) (ho : 0 ≤ (pc : Int) + o) (ht : ((pc : Int) + o).toNat = t) (hq : q = pc + 3) (Gt : x = 0 → Go p l e R s m args below meth c n0 C N Q h ce sl t Ls st) (Gf : ¬ x = 0 → Go p l e R s m args below meth c n0 C N Q h ce sl q Ls st) : Go p l e R s m args below meth c n0 C N Q h ce sl pc Ls (.int x :: st) := by
  subst hq
  by_cases hc : x = 0
  · exact Go.step (fun T locs target X _ S => XS.ifYes X.here hx rfl rfl hd rfl ((if0 _ _).trans (teq hc).1) ho ht S) (Gt hc)
  · exact Go.step (fun T locs target X _ S => XS.ifNo X.here hx rfl hd rfl ((if0 _ _).trans (feq hc).1) S) (Gf hc)
theorem Go.icmp_ne (hx : p.tables.exec = Jvm.exec) {x y : Int32} {o : Int} {t : Nat} (hd : decode c.code pc = .ok (.if_icmp .ne o, 3)) (ho : 0 ≤ (pc : Int) + o) (ht : ((pc : Int) + o).toNat = t) (hq : q = pc + 3) (Gt : ¬ x = y → Go p l e R s m args below meth c n0 C N Q h ce sl t Ls st) (Gf : x = y → Go p l e R s m args below meth c n0 C N Q h ce sl q Ls st) : Go p l e R s m args below meth c n0 C N Q h ce sl pc Ls (.int y :: .int x :: st) := by
  subst hq
  by_cases hc : x = y
  · exact Go.step (fun T locs target X _ S => XS.icmpNo X.here hx rfl hd rfl (teq hc).2 S) (Gf hc)
  · exact Go.step (fun T locs target X _ S => XS.icmpYes X.here hx rfl rfl hd rfl (feq hc).2 ho ht S) (Gt hc)
theorem Go.if_ne (hx : p.tables.exec = Jvm.exec) {x : Int32} {o : Int} {t : Nat} (hd : decode c.code pc = .ok (.ifCond .ne o, 3)) (ho : 0 ≤ (pc : Int) + o) (ht : ((pc : Int) + o).toNat = t) (hq : q = pc + 3) (Gt : ¬ x = 0 → Go p l e R s m args below meth c n0 C N Q h ce sl t Ls st) (Gf : x = 0 → Go p l e R s m args below meth c n0 C N Q h ce sl q Ls st) : Go p l e R s m args below meth c n0 C N Q h ce sl pc Ls (.int x :: st) := by
  subst hq
  by_cases hc : x = 0
  · exact Go.step (fun T locs target X _ S => XS.ifNo X.here hx rfl hd rfl ((if0 _ _).trans (teq hc).2) S) (Gf hc)
  · exact Go.step (fun T locs target X _ S => XS.ifYes X.here hx rfl rfl hd rfl ((if0 _ _).trans (feq hc).2) ho ht S) (Gt hc)
theorem Go.icmp_lt (hx : p.tables.exec = Jvm.exec) {x y : Int32} {o : Int} {t : Nat} (hd : decode c.code pc = .ok (.if_icmp .lt o, 3)) (ho : 0 ≤ (pc : Int) + o) (ht : ((pc : Int) + o).toNat = t) (hq : q = pc + 3) (Gt : x < y → Go p l e R s m args below meth c n0 C N Q h ce sl t Ls st) (Gf : ¬ x < y → Go p l e R s m args below meth c n0 C N Q h ce sl q Ls st) : Go p l e R s m args below meth c n0 C N Q h ce sl pc Ls (.int y :: .int x :: st) := by
  subst hq
  by_cases hc : x < y
  · exact Go.step (fun T locs target X _ S => XS.icmpYes X.here hx rfl rfl hd rfl (tlt hc).1 ho ht S) (Gt hc)
  · exact Go.step (fun T locs target X _ S => XS.icmpNo X.here hx rfl hd rfl (flt hc).1 S) (Gf hc)
theorem Go.if_lt (hx : p.tables.exec = Jvm.exec) {x : Int32} {o : Int} {t : Nat} (hd : decode c.code pc = .ok (.ifCond .lt o, 3)) (ho : 0 ≤ (pc : Int) + o) (ht : ((pc : Int) + o).toNat = t) (hq : q = pc + 3) (Gt : x < 0 → Go p l e R s m args below meth c n0 C N Q h ce sl t Ls st) (Gf : ¬ x < 0 → Go p l e R s m args below meth c n0 C N Q h ce sl q Ls st) : Go p l e R s m args below meth c n0 C N Q h ce sl pc Ls (.int x :: st) := by
  subst hq
  by_cases hc : x < 0
  · exact Go.step (fun T locs target X _ S => XS.ifYes X.here hx rfl rfl hd rfl ((if0 _ _).trans (tlt hc).1) ho ht S) (Gt hc)
  · exact Go.step (fun T locs target X _ S => XS.ifNo X.here hx rfl hd rfl ((if0 _ _).trans (flt hc).1) S) (Gf hc)
theorem Go.icmp_ge (hx : p.tables.exec = Jvm.exec) {x y : Int32} {o : Int} {t : Nat} (hd : decode c.code pc = .ok (.if_icmp .ge o, 3)) (ho : 0 ≤ (pc : Int) + o) (ht : ((pc : Int) + o).toNat = t) (hq : q = pc + 3) (Gt : ¬ x < y → Go p l e R s m args below meth c n0 C N Q h ce sl t Ls st) (Gf : x < y → Go p l e R s m args below meth c n0 C N Q h ce sl q Ls st) : Go p l e R s m args below meth c n0 C N Q h ce sl pc Ls (.int y :: .int x :: st) := by
  subst hq
  by_cases hc : x < y
  · exact Go.step (fun T locs target X _ S => XS.icmpNo X.here hx rfl hd rfl (tlt hc).2.1 S) (Gf hc)
  · exact Go.step (fun T locs target X _ S => XS.icmpYes X.here hx rfl rfl hd rfl (flt hc).2.1 ho ht S) (Gt hc)
theorem Go.if_ge (hx : p.tables.exec = Jvm.exec) {x : Int32} {o : Int} {t : Nat} (hd : decode c.code pc = .ok (.ifCond .ge o, 3)) (ho : 0 ≤ (pc : Int) + o) (ht : ((pc : Int) + o).toNat = t) (hq : q = pc + 3) (Gt : ¬ x < 0 → Go p l e R s m args below meth c n0 C N Q h ce sl t Ls st) (Gf : x < 0 → Go p l e R s m args below meth c n0 C N Q h ce sl q Ls st) : Go p l e R s m args below meth c n0 C N Q h ce sl pc Ls (.int x :: st) := by
  subst hq
  by_cases hc : x < 0
  · exact Go.step (fun T locs target X _ S => XS.ifNo X.here hx rfl hd rfl ((if0 _ _).trans (tlt hc).2.1) S) (Gf hc)
  · exact Go.step (fun T locs target X _ S => XS.ifYes X.here hx rfl rfl hd rfl ((if0 _ _).trans (flt hc).2.1) ho ht S) (Gt hc)
theorem Go.icmp_gt (hx : p.tables.exec = Jvm.exec) {x y : Int32} {o : Int} {t : Nat} (hd : decode c.code pc = .ok (.if_icmp .gt o, 3)) (ho : 0 ≤ (pc : Int) + o) (ht : ((pc : Int) + o).toNat = t) (hq : q = pc + 3) (Gt : y < x → Go p l e R s m args below meth c n0 C N Q h ce sl t Ls st) (Gf : ¬ y < x → Go p l e R s m args below meth c n0 C N Q h ce sl q Ls st) : Go p l e R s m args below meth c n0 C N Q h ce sl pc Ls (.int y :: .int x :: st) := by
  subst hq
  by_cases hc : y < x
  · exact Go.step (fun T locs target X _ S => XS.icmpYes X.here hx rfl rfl hd rfl (tlt hc).2.2.1 ho ht S) (Gt hc)
  · exact Go.step (fun T locs target X _ S => XS.icmpNo X.here hx rfl hd rfl (flt hc).2.2.1 S) (Gf hc)
theorem Go.if_gt (hx : p.tables.exec = Jvm.exec) {x : Int32} {o : Int} {t : Nat} (hd : decode c.code pc = .ok (.ifCond .gt o, 3)) (ho : 0 ≤ (pc : Int) + o) (ht : ((pc : Int) + o).toNat = t) (hq : q = pc + 3) (Gt : 0 < x → Go p l e R s m args below meth c n0 C N Q h ce sl t Ls st) (Gf : ¬ 0 < x → Go p l e R s m args below meth c n0 C N Q h ce sl q Ls st) : Go p l e R s m args below meth c n0 C N Q h ce sl pc Ls (.int x :: st) := by
  subst hq
  by_cases hc : 0 < x
  · exact Go.step (fun T locs target X _ S => XS.ifYes X.here hx rfl rfl hd rfl ((if0 _ _).trans (tlt hc).2.2.1) ho ht S) (Gt hc)
  · exact Go.step (fun T locs target X _ S => XS.ifNo X.here hx rfl hd rfl ((if0 _ _).trans (flt hc).2.2.1) S) (Gf hc)
theorem Go.icmp_le (hx : p.tables.exec = Jvm.exec) {x y : Int32} {o : Int} {t : Nat} (hd : decode c.code pc = .ok (.if_icmp .le o, 3)) (ho : 0 ≤ (pc : Int) + o) (ht : ((pc : Int) + o).toNat = t) (hq : q = pc + 3) (Gt : ¬ y < x → Go p l e R s m args below meth c n0 C N Q h ce sl t Ls st) (Gf : y < x → Go p l e R s m args below meth c n0 C N Q h ce sl q Ls st) : Go p l e R s m args below meth c n0 C N Q h ce sl pc Ls (.int y :: .int x :: st) := by
  subst hq
  by_cases hc : y < x
  · exact Go.step (fun T locs target X _ S => XS.icmpNo X.here hx rfl hd rfl (tlt hc).2.2.2 S) (Gf hc)
  · exact Go.step (fun T locs target X _ S => XS.icmpYes X.here hx rfl rfl hd rfl (flt hc).2.2.2 ho ht S) (Gt hc)
theorem Go.if_le (hx : p.tables.exec = Jvm.exec) {x : Int32} {o : Int} {t : Nat} (hd : decode c.code pc = .ok (.ifCond .le o, 3)) (ho : 0 ≤ (pc : Int) + o) (ht : ((pc : Int) + o).toNat = t) (hq : q = pc + 3) (Gt : ¬ 0 < x → Go p l e R s m args below meth c n0 C N Q h ce sl t Ls st) (Gf : 0 < x → Go p l e R s m args below meth c n0 C N Q h ce sl q Ls st) : Go p l e R s m args below meth c n0 C N Q h ce sl pc Ls (.int x :: st) := by
  subst hq
  by_cases hc : 0 < x
  · exact Go.step (fun T locs target X _ S => XS.ifNo X.here hx rfl hd rfl ((if0 _ _).trans (tlt hc).2.2.2) S) (Gf hc)
  · exact Go.step (fun T locs target X _ S => XS.ifYes X.here hx rfl rfl hd rfl ((if0 _ _).trans (flt hc).2.2.2) ho ht S) (Gt hc)
theorem Go.ifnullT (hx : p.tables.exec = Jvm.exec) {b : Addr} {o : Int} {t : Nat} (hd : decode c.code pc = .ok (.ifnull o, 3)) (ho : 0 ≤ (pc : Int) + o) (ht : ((pc : Int) + o).toNat = t) (G : Go p l e R s m args below meth c n0 C N Q h ce sl t Ls st) : Go p l e R s m args below meth c n0 C N Q h ce sl pc Ls (.null :: st) :=
  Go.step (fun T locs target X _ S => XS.ifnullYes X.here hx rfl rfl hd rfl ho ht S) G
theorem Go.ifnullF (hx : p.tables.exec = Jvm.exec) {b : Addr} {o : Int} (hd : decode c.code pc = .ok (.ifnull o, 3)) (hq : q = pc + 3) (G : Go p l e R s m args below meth c n0 C N Q h ce sl q Ls st) : Go p l e R s m args below meth c n0 C N Q h ce sl pc Ls (.ref b :: st) := by
  subst hq
  exact Go.step (fun T locs target X _ S => XS.ifnullNo X.here hx rfl hd rfl S) G
theorem Go.ifnonnullT (hx : p.tables.exec = Jvm.exec) {b : Addr} {o : Int} {t : Nat} (hd : decode c.code pc = .ok (.ifnonnull o, 3)) (ho : 0 ≤ (pc : Int) + o) (ht : ((pc : Int) + o).toNat = t) (G : Go p l e R s m args below meth c n0 C N Q h ce sl t Ls st) : Go p l e R s m args below meth c n0 C N Q h ce sl pc Ls (.ref b :: st) :=
  Go.step (fun T locs target X _ S => XT.ifnonnullYes X.here hx rfl rfl hd rfl ho ht S) G
theorem Go.ifnonnullF (hx : p.tables.exec = Jvm.exec) {b : Addr} {o : Int} (hd : decode c.code pc = .ok (.ifnonnull o, 3)) (hq : q = pc + 3) (G : Go p l e R s m args below meth c n0 C N Q h ce sl q Ls st) : Go p l e R s m args below meth c n0 C N Q h ce sl pc Ls (.null :: st) := by
  subst hq
  exact Go.step (fun T locs target X _ S => XT.ifnonnullNo X.here hx rfl hd rfl S) G
theorem Go.acmp_eq (hx : p.tables.exec = Jvm.exec) {x y : Value} {o : Int} {t : Nat} (hvx : x.isRef = true) (hvy : y.isRef = true) (hd : decode c.code pc = .ok (.if_acmp .eq o, 3)) (ho : 0 ≤ (pc : Int) + o) (ht : ((pc : Int) + o).toNat = t) (hq : q = pc + 3) (Gt : x = y → Go p l e R s m args below meth c n0 C N Q h ce sl t Ls st) (Gf : ¬ x = y → Go p l e R s m args below meth c n0 C N Q h ce sl q Ls st) : Go p l e R s m args below meth c n0 C N Q h ce sl pc Ls (y :: x :: st) := by
  subst hq
  by_cases hc : x = y
  · exact Go.step (fun T locs target X _ S => XT.acmpYes X.here hx rfl rfl hd rfl hvx hvy (by simp [XT.acmp, hc]) ho ht S) (Gt hc)
  · exact Go.step (fun T locs target X _ S => XT.acmpNo X.here hx rfl hd rfl hvx hvy (by simp [XT.acmp, hc]) S) (Gf hc)
theorem Go.acmp_ne (hx : p.tables.exec = Jvm.exec) {x y : Value} {o : Int} {t : Nat} (hvx : x.isRef = true) (hvy : y.isRef = true) (hd : decode c.code pc = .ok (.if_acmp .ne o, 3)) (ho : 0 ≤ (pc : Int) + o) (ht : ((pc : Int) + o).toNat = t) (hq : q = pc + 3) (Gt : ¬ x = y → Go p l e R s m args below meth c n0 C N Q h ce sl t Ls st) (Gf : x = y → Go p l e R s m args below meth c n0 C N Q h ce sl q Ls st) : Go p l e R s m args below meth c n0 C N Q h ce sl pc Ls (y :: x :: st) := by
  subst hq
  by_cases hc : x = y
  · exact Go.step (fun T locs target X _ S => XT.acmpNo X.here hx rfl hd rfl hvx hvy (by simp [XT.acmp, hc]) S) (Gf hc)
  · exact Go.step (fun T locs target X _ S => XT.acmpYes X.here hx rfl rfl hd rfl hvx hvy (by simp [XT.acmp, hc]) ho ht S) (Gt hc)
theorem Go.retV (hx : p.tables.exec = Jvm.exec) {wv : Value} {t : FieldType} {i : Instr} (hret : meth.sig.returnType = some t) (hlk : meth.locks = false) (hn : narrow t wv = wv)
    (hi : (i = .ireturn ∧ (t = .int ∨ t = .boolean ∨ t = .byte ∨ t = .char ∨ t = .short) ∧ ∃ z, wv = .int z) ∨ (i = .lreturn ∧ t = .long ∧ ∃ z, wv = .long z) ∨ (i = .dreturn ∧ t = .double ∧ ∃ z, wv = .double z) ∨ (i = .freturn ∧ t = .float ∧ ∃ z, wv = .float z) ∨ (i = .areturn ∧ t.isReference = true ∧ wv.isRef = true))
    (hd : decode c.code pc = .ok (i, 1)) (hc : ce ≤ C) (hs : sl ≤ N) (hQ : Q (some wv) h) : Go p l e R s m args below meth c n0 C N Q h ce sl pc Ls (wv :: st) := fun T locs X Nf eT => by
  obtain ⟨fs, hr, hrun, hended, hW, hsame⟩ := X.leave (v := some wv) (fun hh => by rw [hret] at hh; cases hh)
  refine ⟨_, _, _, retOut X hx hret hn hi hd hr, hrun, hended, ?_, Nf, ⟨_, rfl⟩, hW, hsame.mono hc hs⟩
  show Q _ T.heap
  rw [eT]; exact hQ
theorem Go.retI (hx : p.tables.exec = Jvm.exec) {z : Int32} (hret : meth.sig.returnType = some .int) (hlk : meth.locks = false) (hd : decode c.code pc = .ok (.ireturn, 1)) (hc : ce ≤ C) (hs : sl ≤ N) (hQ : Q (some (.int z)) h) : Go p l e R s m args below meth c n0 C N Q h ce sl pc Ls (.int z :: st) :=
  Go.retV hx hret hlk rfl (Or.inl ⟨rfl, Or.inl rfl, _, rfl⟩) hd hc hs hQ
theorem Go.retL (hx : p.tables.exec = Jvm.exec) {z : Int64} (hret : meth.sig.returnType = some .long) (hlk : meth.locks = false) (hd : decode c.code pc = .ok (.lreturn, 1)) (hc : ce ≤ C) (hs : sl ≤ N) (hQ : Q (some (.long z)) h) : Go p l e R s m args below meth c n0 C N Q h ce sl pc Ls (.long z :: st) :=
  Go.retV hx hret hlk rfl (Or.inr (Or.inl ⟨rfl, rfl, _, rfl⟩)) hd hc hs hQ
theorem Go.retA (hx : p.tables.exec = Jvm.exec) {wv : Value} {t : FieldType} (hret : meth.sig.returnType = some t) (ht : t.isReference = true) (hv : wv.isRef = true) (hlk : meth.locks = false) (hd : decode c.code pc = .ok (.areturn, 1)) (hc : ce ≤ C) (hs : sl ≤ N) (hQ : Q (some wv) h) : Go p l e R s m args below meth c n0 C N Q h ce sl pc Ls (wv :: st) :=
  Go.retV hx hret hlk (by cases wv <;> cases t <;> simp_all [Value.isRef, FieldType.isReference, narrow]) (Or.inr (Or.inr (Or.inr (Or.inr ⟨rfl, ht, hv⟩)))) hd hc hs hQ
theorem Go.retN (hx : p.tables.exec = Jvm.exec) {z : Int32} {t : FieldType} (hret : meth.sig.returnType = some t) (ht : t = .boolean ∨ t = .byte ∨ t = .char ∨ t = .short) (hlk : meth.locks = false) (hd : decode c.code pc = .ok (.ireturn, 1)) (hc : ce ≤ C) (hs : sl ≤ N) (hQ : Q (some (.int (nar t z))) h) : Go p l e R s m args below meth c n0 C N Q h ce sl pc Ls (.int z :: st) := fun T locs X Nf eT => by
  obtain ⟨fs, hr, hrun, hended, hW, hsame⟩ := X.leave (v := some (.int (nar t z))) (fun hh => by rw [hret] at hh; cases hh)
  refine ⟨_, _, _, Jvm.RoadKit.retN X hx hret ht hd hr, hrun, hended, ?_, Nf, ⟨_, rfl⟩, hW, hsame.mono hc hs⟩
  show Q _ T.heap
  rw [eT]; exact hQ
theorem Go.ret0 (hx : p.tables.exec = Jvm.exec) (hret : meth.sig.returnType = none) (hlk : meth.locks = false) (hd : decode c.code pc = .ok (.return_, 1)) (hc : ce ≤ C) (hs : sl ≤ N) (hQ : Q none h) : Go p l e R s m args below meth c n0 C N Q h ce sl pc Ls [] := fun T locs X Nf eT => by
  obtain ⟨fs, hr, hrun, hended, hW, hsame⟩ := X.leave (v := none) (fun _ => rfl)
  refine ⟨_, _, _, X.returnOut hx hret hd hr, hrun, hended, ?_, Nf, ⟨_, rfl⟩, hW, hsame.mono hc hs⟩
  show Q _ T.heap
  rw [eT]; exact hQ
theorem Go.getF (hx : p.tables.exec = Jvm.exec) (hZ : Z.Warmed39 s.vm) {own R0 O n d host : String} {index : Nat} (hown : s.vm.findClass own = some m.cls) (hw : (Cond.fieldLink own index R0 n d).before a0 Z = true ∨ (Cond.fieldLinkNest own index R0 n d host).before a0 Z = true) (via : Via Z R0 O n d) {a : Addr} {v : Value} (F : Fld Z h a O n d v) (hd : decode c.code pc = .ok (.getfield index, 3)) (hq : q = pc + 3) (G : Go p l e R s m args below meth c n0 C N Q h ce sl q Ls (v :: st)) : Go p l e R s m args below meth c n0 C N Q h ce sl pc Ls (.ref a :: st) := by
  subst hq
  exact Go.law (fun T locs X eT => Jvm.RoadKit.getF X hx hZ hown hw via eT F (g := mkF m pc Ls (.ref a :: st)) rfl rfl hd) G
theorem Go.getS (hx : p.tables.exec = Jvm.exec) (hZ : Z.Warmed39 s.vm) {own R0 O n d host : String} {index : Nat} (hown : s.vm.findClass own = some m.cls) (hw : (Cond.fieldLink own index R0 n d).before a0 Z = true ∨ (Cond.fieldLinkNest own index R0 n d host).before a0 Z = true) (via : Via Z R0 O n d) {v : Value} (F : Sta Z h O n d v) (hd : decode c.code pc = .ok (.getstatic index, 3)) (hq : q = pc + 3) (G : Go p l e R s m args below meth c n0 C N Q h ce sl q Ls (v :: st)) : Go p l e R s m args below meth c n0 C N Q h ce sl pc Ls st := by
  subst hq
  exact Go.law (fun T locs X eT => Jvm.RoadKit.getS2 (host := host) X hx hZ hown hw via eT F (g := mkF m pc Ls st) rfl hd) G
theorem Go.putF (hx : p.tables.exec = Jvm.exec) (hZ : Z.Warmed39 s.vm) {own R0 O n d host C' : String} {index kk : Nat} {ty : FieldType} (hown : s.vm.findClass own = some m.cls) (hw : (Cond.fieldLink own index R0 n d).before a0 Z = true ∨ (Cond.fieldLinkNest own index R0 n d host).before a0 Z = true) (via : Via Z R0 O n d) {a : Addr} {v old : Value} (F : Fld Z h a O n d old) (E : Exa Z h a C') (L : (Cond.lays C' O n d).before a0 Z = true ∨ ((Cond.laysFinal C' O n d).before a0 Z = true ∧ own = O ∧ meth.name = "<init>")) (wi : (Cond.instantiable C' kk).before a0 Z = true)
    (hty : parseFieldDescriptor d = some ty) (hn : narrow ty v = v) (hf : fits ty v = true) (ha : n0 ≤ a) (hd : decode c.code pc = .ok (.putfield index, 3)) (hq : q = pc + 3) (G : ∀ h', Wr h h' a (Jvm.RoadKit.slotOf Z O n d) v → Go p l e R s m args below meth c n0 C N Q h' ce sl q Ls st) : Go p l e R s m args below meth c n0 C N Q h ce sl pc Ls (v :: .ref a :: st) := fun T locs X Nf eT => by
  subst hq
  obtain ⟨T', h', X', eT', W, hs⟩ := Jvm.RoadKit.putF X hx hZ hown hw via eT F E L wi hty hn hf (g := mkF m pc Ls (v :: .ref a :: st)) rfl rfl hd
  obtain ⟨s₂, v', L', S, r⟩ := G h' W T' _ X' (Fr.snoc X' Nf ha) eT'
  exact ⟨s₂, v', L', hs _ S, r⟩
theorem Go.newO (hx : p.tables.exec = Jvm.exec) (hZ : Z.Warmed39 s.vm) {own C' : String} {index n ce' sl' : Nat} (hown : s.vm.findClass own = some m.cls) (w1 : (Cond.classLink own index C').before a0 Z = true) (wi : (Cond.instantiable C' n).before a0 Z = true) (wz : (Cond.initialized C').before a0 Z = true) (hd : decode c.code pc = .ok (.new index, 3)) (hq : q = pc + 3) (hce : ce + 1 = ce') (hsl : sl + n = sl') (hc : ce' ≤ R.cells) (hl : sl' ≤ R.slots)
    (G : ∀ (h' : Heap) (a : Addr), a = h.size → Ext h h' → Exa Z h' a C' → (∀ {O nm d : String} {ty : FieldType}, Laid Z a0 C' O nm d → parseFieldDescriptor d = some ty → Fld Z h' a O nm d (defaultValue ty)) → Go p l e R s m args below meth c n0 C N Q h' ce' sl' q Ls (.ref a :: st)) : Go p l e R s m args below meth c n0 C N Q h ce sl pc Ls st := fun T locs X Nf eT => by
  subst hq hce hsl
  obtain ⟨T', h', X', eT', E, A, D, -, hs⟩ := Jvm.RoadKit.newO X hx hZ hown w1 wi wz eT (g := mkF m pc Ls st) rfl hd hc hl
  obtain ⟨s₂, v', L', S, r⟩ := G h' _ rfl E A D T' _ X' Nf eT'
  exact ⟨s₂, v', L', hs _ S, r⟩
theorem Go.newP (hx : p.tables.exec = Jvm.exec) (hZ : Z.Warmed39 s.vm) {aty : ArrayType} {cap ce' sl' : Nat} (wa : (Cond.arrayClass (newarray.typeOf aty)).before a0 Z = true) {n : Int32} (hn : ¬ n < 0) (hcap : n.toNatClampNeg ≤ cap) (hd : decode c.code pc = .ok (.newarray aty, 2)) (hq : q = pc + 2) (hb : cap * 8 ≤ 536870912) (hce : ce + 1 = ce') (hsl : sl + cap = sl') (hc : ce' ≤ R.cells) (hl : sl' ≤ R.slots)
    (G : ∀ (h' : Heap) (a : Addr) (k : ClassId), a = h.size → Ext h h' → Arv Z h' a k (newarray.typeOf aty) n [] (defaultValue (newarray.typeOf aty)) → Go p l e R s m args below meth c n0 C N Q h' ce' sl' q Ls (.ref a :: st)) : Go p l e R s m args below meth c n0 C N Q h ce sl pc Ls (.int n :: st) := fun T locs X Nf eT => by
  subst hq hce hsl
  obtain ⟨T', h', k, X', eT', E, A, hs⟩ := Jvm.RoadKit.newP X hx hZ wa eT (g := mkF m pc Ls (.int n :: st)) rfl hd rfl hn hcap hb hc hl
  obtain ⟨s₂, v', L', S, r⟩ := G h' _ k rfl E (Arv.new A hn) T' _ X' Nf eT'
  exact ⟨s₂, v', L', hs _ S, r⟩
theorem Go.newR (hx : p.tables.exec = Jvm.exec) (hZ : Z.Warmed39 s.vm) {own C' : String} {index cap ce' sl' : Nat} (hown : s.vm.findClass own = some m.cls) (w1 : (Cond.classLink own index C').before a0 Z = true) (w2 : (Cond.arrayOver (.object C')).before a0 Z = true) {n : Int32} (hn : ¬ n < 0) (hcap : n.toNatClampNeg ≤ cap) (hd : decode c.code pc = .ok (.anewarray index, 3)) (hq : q = pc + 3) (hb : cap * 8 ≤ 536870912) (hce : ce + 1 = ce') (hsl : sl + cap = sl') (hc : ce' ≤ R.cells) (hl : sl' ≤ R.slots)
    (G : ∀ (h' : Heap) (a : Addr) (k : ClassId), a = h.size → Ext h h' → Arv Z h' a k (.object C') n [] .null → Ovr Z k C' → Go p l e R s m args below meth c n0 C N Q h' ce' sl' q Ls (.ref a :: st)) : Go p l e R s m args below meth c n0 C N Q h ce sl pc Ls (.int n :: st) := fun T locs X Nf eT => by
  subst hq hce hsl
  obtain ⟨T', h', k, X', eT', E, A, O, hs⟩ := Jvm.RoadKit.newR X hx hZ hown w1 w2 eT (g := mkF m pc Ls (.int n :: st)) rfl hd rfl hn hcap hb hc hl
  obtain ⟨s₂, v', L', S, r⟩ := G h' _ k rfl E (Arv.new A hn) O T' _ X' Nf eT'
  exact ⟨s₂, v', L', hs _ S, r⟩
theorem Go.initO (hx : p.tables.exec = Jvm.exec) (hZ : Z.Warmed39 s.vm) {own : String} {idx : Nat} (hown : s.vm.findClass own = some m.cls) (w1 : (Cond.methodLink own idx Lib.objectInit).before a0 Z = true) (w2 : (Cond.instanceMethod Lib.objectInit).before a0 Z = true) (w3 : (Cond.code Lib.objectInit ⟨#[0xb1]⟩ 1 none).before a0 Z = true) (hsize : Ls.size = c.maxLocals) {a : Addr} (hd : decode c.code pc = .ok (.invokespecial idx, 3)) (hq : q = pc + 3) (hf : 1 ≤ R.frames) (hl : (st.map fun v => v.category).sum + 12 ≤ R.locals) (G : Go p l e R s m args below meth c n0 C N Q h ce sl q Ls st) : Go p l e R s m args below meth c n0 C N Q h ce sl pc Ls (.ref a :: st) := by
  subst hq
  exact Go.law (fun T locs X eT => Jvm.RoadKit.initO X hx hZ hown w1 w2 w3 eT (g := mkF m pc Ls (.ref a :: st)) rfl hsize rfl hd hf (W := (st.map fun v => v.category).sum) (by show 2 * 0 + _ ≤ _; omega) hl) G
theorem Go.castY (hx : p.tables.exec = Jvm.exec) (hZ : Z.Warmed39 s.vm) {own K : String} {index : Nat} (hown : s.vm.findClass own = some m.cls) (w1 : (Cond.classLink own index K).before a0 Z = true) {a : Addr} (F : Ins Z h a K true) (hd : decode c.code pc = .ok (.checkcast index, 3)) (hq : q = pc + 3) (G : Go p l e R s m args below meth c n0 C N Q h ce sl q Ls (.ref a :: st)) : Go p l e R s m args below meth c n0 C N Q h ce sl pc Ls (.ref a :: st) := by
  subst hq
  exact Go.law (fun T locs X eT => Jvm.RoadKit.castY X hx hZ hown w1 eT F (g := mkF m pc Ls (.ref a :: st)) rfl rfl hd) G
theorem Go.instY (hx : p.tables.exec = Jvm.exec) (hZ : Z.Warmed39 s.vm) {own K : String} {index : Nat} (hown : s.vm.findClass own = some m.cls) (w1 : (Cond.classLink own index K).before a0 Z = true) {a : Addr} (F : Ins Z h a K true) (hd : decode c.code pc = .ok (.instanceof index, 3)) (hq : q = pc + 3) (G : Go p l e R s m args below meth c n0 C N Q h ce sl q Ls (.int 1 :: st)) : Go p l e R s m args below meth c n0 C N Q h ce sl pc Ls (.ref a :: st) := by
  subst hq
  exact Go.law (fun T locs X eT => Jvm.RoadKit.instY X hx hZ hown w1 eT F (g := mkF m pc Ls (.ref a :: st)) rfl rfl hd) G
theorem Go.alen (hx : p.tables.exec = Jvm.exec) (hZ : Z.Warmed39 s.vm) {a : Addr} {k : ClassId} {ty : FieldType} {n : Int32} {vs : List Value} {dv : Value} (A : Arv Z h a k ty n vs dv) (hd : decode c.code pc = .ok (.arraylength, 1)) (hq : q = pc + 1) (G : Go p l e R s m args below meth c n0 C N Q h ce sl q Ls (.int n :: st)) : Go p l e R s m args below meth c n0 C N Q h ce sl pc Ls (.ref a :: st) := by
  subst hq
  obtain ⟨cl, Ar, q1, S1, N1, H1, F1⟩ := A
  refine Go.step (fun T locs target X eT S => X.arraylength hx (by rw [eT]; exact Ar.1) (State.isArrayOf_alike hZ.alike Ar.2.1) (g := mkF m pc Ls (.ref a :: st)) rfl rfl hd target ?_) G
  rw [len_of S1 N1]; exact S
theorem Go.baload (hx : p.tables.exec = Jvm.exec) (hZ : Z.Warmed39 s.vm) {a : Addr} {k : ClassId} {n j : Int32} {vs : List Value} {dv v : Value} (A : Arv Z h a k .byte n vs dv) (hj : ¬ j < 0 ∧ j < n) (hv : vs.getD j.toNatClampNeg dv = v) (hd : decode c.code pc = .ok (.baload, 1)) (hq : q = pc + 1) (G : Go p l e R s m args below meth c n0 C N Q h ce sl q Ls (v :: st)) : Go p l e R s m args below meth c n0 C N Q h ce sl pc Ls (.int j :: .ref a :: st) := by
  subst hq
  obtain ⟨cl, Ar, q1, S1, N1, H1, F1⟩ := A
  exact Go.step (fun T locs target X eT S => X.baloadBytes hx (by rw [eT]; exact Ar.1) (State.isArrayOf_alike hZ.alike Ar.2.1) Ar.2.2 (inb_of S1 hj) (H1.at (inb_of S1 hj) hv) (g := mkF m pc Ls (.int j :: .ref a :: st)) rfl rfl hd target S) G
theorem Go.zaload (hx : p.tables.exec = Jvm.exec) (hZ : Z.Warmed39 s.vm) {a : Addr} {k : ClassId} {n j : Int32} {vs : List Value} {dv v : Value} (A : Arv Z h a k .boolean n vs dv) (hj : ¬ j < 0 ∧ j < n) (hv : vs.getD j.toNatClampNeg dv = v) (hd : decode c.code pc = .ok (.baload, 1)) (hq : q = pc + 1) (G : Go p l e R s m args below meth c n0 C N Q h ce sl q Ls (v :: st)) : Go p l e R s m args below meth c n0 C N Q h ce sl pc Ls (.int j :: .ref a :: st) := by
  subst hq
  obtain ⟨cl, Ar, q1, S1, N1, H1, F1⟩ := A
  exact Go.step (fun T locs target X eT S => X.baloadBooleans hx (by rw [eT]; exact Ar.1) (State.isArrayOf_alike hZ.alike Ar.2.1) Ar.2.2 (inb_of S1 hj) (H1.at (inb_of S1 hj) hv) (g := mkF m pc Ls (.int j :: .ref a :: st)) rfl rfl hd target S) G
theorem Go.caload (hx : p.tables.exec = Jvm.exec) (hZ : Z.Warmed39 s.vm) {a : Addr} {k : ClassId} {n j : Int32} {vs : List Value} {dv v : Value} (A : Arv Z h a k .char n vs dv) (hj : ¬ j < 0 ∧ j < n) (hv : vs.getD j.toNatClampNeg dv = v) (hd : decode c.code pc = .ok (.caload, 1)) (hq : q = pc + 1) (G : Go p l e R s m args below meth c n0 C N Q h ce sl q Ls (v :: st)) : Go p l e R s m args below meth c n0 C N Q h ce sl pc Ls (.int j :: .ref a :: st) := by
  subst hq
  obtain ⟨cl, Ar, q1, S1, N1, H1, F1⟩ := A
  exact Go.step (fun T locs target X eT S => X.caload hx (by rw [eT]; exact Ar.1) (State.isArrayOf_alike hZ.alike Ar.2.1) Ar.2.2 (inb_of S1 hj) (H1.at (inb_of S1 hj) hv) (g := mkF m pc Ls (.int j :: .ref a :: st)) rfl rfl hd target S) G
theorem Go.saload (hx : p.tables.exec = Jvm.exec) (hZ : Z.Warmed39 s.vm) {a : Addr} {k : ClassId} {n j : Int32} {vs : List Value} {dv v : Value} (A : Arv Z h a k .short n vs dv) (hj : ¬ j < 0 ∧ j < n) (hv : vs.getD j.toNatClampNeg dv = v) (hd : decode c.code pc = .ok (.saload, 1)) (hq : q = pc + 1) (G : Go p l e R s m args below meth c n0 C N Q h ce sl q Ls (v :: st)) : Go p l e R s m args below meth c n0 C N Q h ce sl pc Ls (.int j :: .ref a :: st) := by
  subst hq
  obtain ⟨cl, Ar, q1, S1, N1, H1, F1⟩ := A
  exact Go.step (fun T locs target X eT S => X.saload hx (by rw [eT]; exact Ar.1) (State.isArrayOf_alike hZ.alike Ar.2.1) Ar.2.2 (inb_of S1 hj) (H1.at (inb_of S1 hj) hv) (g := mkF m pc Ls (.int j :: .ref a :: st)) rfl rfl hd target S) G
theorem Go.iaload (hx : p.tables.exec = Jvm.exec) (hZ : Z.Warmed39 s.vm) {a : Addr} {k : ClassId} {n j : Int32} {vs : List Value} {dv v : Value} (A : Arv Z h a k .int n vs dv) (hj : ¬ j < 0 ∧ j < n) (hv : vs.getD j.toNatClampNeg dv = v) (hd : decode c.code pc = .ok (.iaload, 1)) (hq : q = pc + 1) (G : Go p l e R s m args below meth c n0 C N Q h ce sl q Ls (v :: st)) : Go p l e R s m args below meth c n0 C N Q h ce sl pc Ls (.int j :: .ref a :: st) := by
  subst hq
  obtain ⟨cl, Ar, q1, S1, N1, H1, F1⟩ := A
  exact Go.step (fun T locs target X eT S => X.iaload hx (by rw [eT]; exact Ar.1) (State.isArrayOf_alike hZ.alike Ar.2.1) Ar.2.2 (inb_of S1 hj) (H1.at (inb_of S1 hj) hv) (g := mkF m pc Ls (.int j :: .ref a :: st)) rfl rfl hd target S) G
theorem Go.laload (hx : p.tables.exec = Jvm.exec) (hZ : Z.Warmed39 s.vm) {a : Addr} {k : ClassId} {n j : Int32} {vs : List Value} {dv v : Value} (A : Arv Z h a k .long n vs dv) (hj : ¬ j < 0 ∧ j < n) (hv : vs.getD j.toNatClampNeg dv = v) (hd : decode c.code pc = .ok (.laload, 1)) (hq : q = pc + 1) (G : Go p l e R s m args below meth c n0 C N Q h ce sl q Ls (v :: st)) : Go p l e R s m args below meth c n0 C N Q h ce sl pc Ls (.int j :: .ref a :: st) := by
  subst hq
  obtain ⟨cl, Ar, q1, S1, N1, H1, F1⟩ := A
  exact Go.step (fun T locs target X eT S => X.laload hx (by rw [eT]; exact Ar.1) (State.isArrayOf_alike hZ.alike Ar.2.1) Ar.2.2 (inb_of S1 hj) (H1.at (inb_of S1 hj) hv) (g := mkF m pc Ls (.int j :: .ref a :: st)) rfl rfl hd target S) G
theorem Go.aaload (hx : p.tables.exec = Jvm.exec) (hZ : Z.Warmed39 s.vm) {a : Addr} {k : ClassId} {ty : FieldType} {n j : Int32} {vs : List Value} {dv v : Value} (A : Arv Z h a k ty n vs dv) (hty : ty.isReference = true) (hj : ¬ j < 0 ∧ j < n) (hv : vs.getD j.toNatClampNeg dv = v) (hd : decode c.code pc = .ok (.aaload, 1)) (hq : q = pc + 1) (G : Go p l e R s m args below meth c n0 C N Q h ce sl q Ls (v :: st)) : Go p l e R s m args below meth c n0 C N Q h ce sl pc Ls (.int j :: .ref a :: st) := by
  subst hq
  obtain ⟨cl, Ar, q1, S1, N1, H1, F1⟩ := A
  exact Go.step (fun T locs target X eT S => X.aaload hx (by rw [eT]; exact Ar.1) (State.isArrayOf_alike hZ.alike Ar.2.1) hty Ar.2.2 (inb_of S1 hj) (H1.at (inb_of S1 hj) hv) (g := mkF m pc Ls (.int j :: .ref a :: st)) rfl rfl hd target S) G
theorem Go.bastore (hx : p.tables.exec = Jvm.exec) (hZ : Z.Warmed39 s.vm) {a : Addr} {k : ClassId} {n j x : Int32} {vs : List Value} {dv : Value} (A : Arv Z h a k .byte n vs dv) (hj : ¬ j < 0 ∧ j < n) (i : Nat) (hi : j.toNatClampNeg = i) (hlen : i < vs.length) (ha : n0 ≤ a) (hd : decode c.code pc = .ok (.bastore, 1)) (hq : q = pc + 1)
    (G : ∀ h', Wr h h' a j.toNatClampNeg (.int (nar .byte x)) → Arv Z h' a k .byte n (vs.set i (.int (nar .byte x))) dv → Go p l e R s m args below meth c n0 C N Q h' ce sl q Ls st) : Go p l e R s m args below meth c n0 C N Q h ce sl pc Ls (.int x :: .int j :: .ref a :: st) := fun T locs X Nf eT => by
  subst hq
  obtain ⟨cl, Ar, q1, S1, N1, H1, F1⟩ := A
  obtain ⟨T', h', X', eT', W, hs⟩ := stB X hx hZ eT Ar (inb_of S1 hj) (g := mkF m pc Ls (.int x :: .int j :: .ref a :: st)) rfl rfl hd
  obtain ⟨s₂, v', L', S, r⟩ := G h' W (Arv.set Ar q1 S1 N1 H1 F1 (fits_nar_byte _) W i hi hlen) T' _ X' (Fr.snoc X' Nf ha) eT'
  exact ⟨s₂, v', L', hs _ S, r⟩
theorem Go.zastore (hx : p.tables.exec = Jvm.exec) (hZ : Z.Warmed39 s.vm) {a : Addr} {k : ClassId} {n j x : Int32} {vs : List Value} {dv : Value} (A : Arv Z h a k .boolean n vs dv) (hj : ¬ j < 0 ∧ j < n) (i : Nat) (hi : j.toNatClampNeg = i) (hlen : i < vs.length) (ha : n0 ≤ a) (hd : decode c.code pc = .ok (.bastore, 1)) (hq : q = pc + 1)
    (G : ∀ h', Wr h h' a j.toNatClampNeg (.int (nar .boolean x)) → Arv Z h' a k .boolean n (vs.set i (.int (nar .boolean x))) dv → Go p l e R s m args below meth c n0 C N Q h' ce sl q Ls st) : Go p l e R s m args below meth c n0 C N Q h ce sl pc Ls (.int x :: .int j :: .ref a :: st) := fun T locs X Nf eT => by
  subst hq
  obtain ⟨cl, Ar, q1, S1, N1, H1, F1⟩ := A
  obtain ⟨T', h', X', eT', W, hs⟩ := stZ X hx hZ eT Ar (inb_of S1 hj) (g := mkF m pc Ls (.int x :: .int j :: .ref a :: st)) rfl rfl hd
  obtain ⟨s₂, v', L', S, r⟩ := G h' W (Arv.set Ar q1 S1 N1 H1 F1 (fits_nar_bool _) W i hi hlen) T' _ X' (Fr.snoc X' Nf ha) eT'
  exact ⟨s₂, v', L', hs _ S, r⟩
theorem Go.castore (hx : p.tables.exec = Jvm.exec) (hZ : Z.Warmed39 s.vm) {a : Addr} {k : ClassId} {n j x : Int32} {vs : List Value} {dv : Value} (A : Arv Z h a k .char n vs dv) (hj : ¬ j < 0 ∧ j < n) (i : Nat) (hi : j.toNatClampNeg = i) (hlen : i < vs.length) (ha : n0 ≤ a) (hd : decode c.code pc = .ok (.castore, 1)) (hq : q = pc + 1)
    (G : ∀ h', Wr h h' a j.toNatClampNeg (.int (nar .char x)) → Arv Z h' a k .char n (vs.set i (.int (nar .char x))) dv → Go p l e R s m args below meth c n0 C N Q h' ce sl q Ls st) : Go p l e R s m args below meth c n0 C N Q h ce sl pc Ls (.int x :: .int j :: .ref a :: st) := fun T locs X Nf eT => by
  subst hq
  obtain ⟨cl, Ar, q1, S1, N1, H1, F1⟩ := A
  obtain ⟨T', h', X', eT', W, hs⟩ := stC X hx hZ eT Ar (inb_of S1 hj) (g := mkF m pc Ls (.int x :: .int j :: .ref a :: st)) rfl rfl hd
  obtain ⟨s₂, v', L', S, r⟩ := G h' W (Arv.set Ar q1 S1 N1 H1 F1 (fits_nar_char _) W i hi hlen) T' _ X' (Fr.snoc X' Nf ha) eT'
  exact ⟨s₂, v', L', hs _ S, r⟩
theorem Go.sastore (hx : p.tables.exec = Jvm.exec) (hZ : Z.Warmed39 s.vm) {a : Addr} {k : ClassId} {n j x : Int32} {vs : List Value} {dv : Value} (A : Arv Z h a k .short n vs dv) (hj : ¬ j < 0 ∧ j < n) (i : Nat) (hi : j.toNatClampNeg = i) (hlen : i < vs.length) (ha : n0 ≤ a) (hd : decode c.code pc = .ok (.sastore, 1)) (hq : q = pc + 1)
    (G : ∀ h', Wr h h' a j.toNatClampNeg (.int (nar .short x)) → Arv Z h' a k .short n (vs.set i (.int (nar .short x))) dv → Go p l e R s m args below meth c n0 C N Q h' ce sl q Ls st) : Go p l e R s m args below meth c n0 C N Q h ce sl pc Ls (.int x :: .int j :: .ref a :: st) := fun T locs X Nf eT => by
  subst hq
  obtain ⟨cl, Ar, q1, S1, N1, H1, F1⟩ := A
  obtain ⟨T', h', X', eT', W, hs⟩ := stS X hx hZ eT Ar (inb_of S1 hj) (g := mkF m pc Ls (.int x :: .int j :: .ref a :: st)) rfl rfl hd
  obtain ⟨s₂, v', L', S, r⟩ := G h' W (Arv.set Ar q1 S1 N1 H1 F1 (fits_nar_short _) W i hi hlen) T' _ X' (Fr.snoc X' Nf ha) eT'
  exact ⟨s₂, v', L', hs _ S, r⟩
theorem Go.iastore (hx : p.tables.exec = Jvm.exec) (hZ : Z.Warmed39 s.vm) {a : Addr} {k : ClassId} {n j x : Int32} {vs : List Value} {dv : Value} (A : Arv Z h a k .int n vs dv) (hj : ¬ j < 0 ∧ j < n) (i : Nat) (hi : j.toNatClampNeg = i) (hlen : i < vs.length) (ha : n0 ≤ a) (hd : decode c.code pc = .ok (.iastore, 1)) (hq : q = pc + 1)
    (G : ∀ h', Wr h h' a j.toNatClampNeg (.int x) → Arv Z h' a k .int n (vs.set i (.int x)) dv → Go p l e R s m args below meth c n0 C N Q h' ce sl q Ls st) : Go p l e R s m args below meth c n0 C N Q h ce sl pc Ls (.int x :: .int j :: .ref a :: st) := fun T locs X Nf eT => by
  subst hq
  obtain ⟨cl, Ar, q1, S1, N1, H1, F1⟩ := A
  obtain ⟨T', h', X', eT', W, hs⟩ := stI X hx hZ eT Ar (inb_of S1 hj) (g := mkF m pc Ls (.int x :: .int j :: .ref a :: st)) rfl rfl hd
  obtain ⟨s₂, v', L', S, r⟩ := G h' W (Arv.set Ar q1 S1 N1 H1 F1 (rfl) W i hi hlen) T' _ X' (Fr.snoc X' Nf ha) eT'
  exact ⟨s₂, v', L', hs _ S, r⟩
theorem Go.aastore (hx : p.tables.exec = Jvm.exec) (hZ : Z.Warmed39 s.vm) {a : Addr} {k : ClassId} {C' : String} {n j : Int32} {x : Value} {vs : List Value} {dv : Value} (A : Arv Z h a k (.object C') n vs dv) (F : Sto Z h a x) (hxr : x.isRef = true) (hj : ¬ j < 0 ∧ j < n) (i : Nat) (hi : j.toNatClampNeg = i) (hlen : i < vs.length) (ha : n0 ≤ a) (hd : decode c.code pc = .ok (.aastore, 1)) (hq : q = pc + 1)
    (G : ∀ h', Wr h h' a j.toNatClampNeg x → Arv Z h' a k (.object C') n (vs.set i x) dv → Go p l e R s m args below meth c n0 C N Q h' ce sl q Ls st) : Go p l e R s m args below meth c n0 C N Q h ce sl pc Ls (x :: .int j :: .ref a :: st) := fun T locs X Nf eT => by
  subst hq
  obtain ⟨cl, Ar, q1, S1, N1, H1, F1⟩ := A
  obtain ⟨T', h', X', eT', W, hs⟩ := stR X hx hZ eT Ar (inb_of S1 hj) rfl F (g := mkF m pc Ls (x :: .int j :: .ref a :: st)) rfl rfl hd
  obtain ⟨s₂, v', L', S, r⟩ := G h' W (Arv.set Ar q1 S1 N1 H1 F1 (by rcases ref_cases hxr with rfl | ⟨y, rfl⟩ <;> rfl) W i hi hlen) T' _ X' (Fr.snoc X' Nf ha) eT'
  exact ⟨s₂, v', L', hs _ S, r⟩
theorem Go.callS (hx : p.tables.exec = Jvm.exec) (hZ : Z.Warmed39 s.vm) {own : String} {index : Nat} {y : MethodName} {bytes : ByteArray} {maxL : Nat} {rt r' : Option FieldType} {ps : List FieldType} {rm : Room} {Qc : Option Value → Heap → Prop} {argsL rest : List Value} {ce' sl' : Nat} (hown : s.vm.findClass own = some m.cls) (w1 : (Cond.methodLink own index y).before a0 Z = true) (w2 : (Cond.static y).before a0 Z = true) (w3 : (Cond.initialized y.cls).before a0 Z = true) (w4 : (Cond.code y bytes maxL rt).before a0 Z = true) (hy : y.cls ≠ "java/lang/invoke/MethodHandle" ∧ y.cls ≠ "java/lang/invoke/VarHandle")
    (hM : Met l Z y bytes maxL rt [] rm argsL.toArray h n0 Qc) (hsize : Ls.size = c.maxLocals) (hpd : parseMethodDescriptor y.desc = some ⟨ps, r'⟩) (hlen : argsL.length = ps.length) (hst : st = argsL.reverse ++ rest) (hd : decode c.code pc = .ok (.invokestatic index, 3)) (hq : q = pc + 3) (hf : rm.frames + 1 ≤ R.frames) (hl : (rest.map fun v => v.category).sum + (maxL + 11) + rm.locals ≤ R.locals) (hce : ce + rm.cells = ce') (hsl : sl + rm.slots = sl') (hc : ce' ≤ R.cells) (hs : sl' ≤ R.slots)
    (G : ∀ (v : Option Value) (h' : Heap), Qc v h' → Go p l e R s m args below meth c n0 C N Q h' ce' sl' q Ls (v.toList ++ rest)) : Go p l e R s m args below meth c n0 C N Q h ce sl pc Ls st := fun T locs X Nf eT => by
  subst hq hce hsl
  obtain ⟨v, _, ⟨T', L', k', n'⟩, -, X', ⟨Lc, ⟨hQ, hF⟩, hl1, hl2, hl3⟩, hst'⟩ := Jvm.LawKit.callS X hx hown (mvT hZ w1) (mvT hZ w2) (mvT hZ w3) (mvT hZ w4) hy (backOf (W := (rest.map fun v => v.category).sum) (Q := fun v h' L => Qc v h' ∧ Fr n0 L) hM hZ w4 w3 hf hl) (g := mkF m pc Ls st) rfl hsize (argsL := argsL) (rest := rest) (lenOf hpd hlen) hst (by show 2 * 0 + _ ≤ _; omega) hd (fun _ _ => ⟨rfl, eT, hc, hs⟩)
  dsimp only [Pt.U, Pt.locs, Pt.cells, Pt.slots] at X' hl1 hl2 hl3 hst' hQ
  subst hl1 hl2 hl3
  obtain ⟨s₂, v', L'', S, r⟩ := G v _ hQ T' _ X' (Fr.app Nf hF) rfl
  exact ⟨s₂, v', L'', hst' _ S, r⟩
theorem Go.callI (hx : p.tables.exec = Jvm.exec) (hZ : Z.Warmed39 s.vm) {own : String} {index : Nat} {y : MethodName} {bytes : ByteArray} {maxL : Nat} {r' : Option FieldType} {ps : List FieldType} {rm : Room} {Qc : Option Value → Heap → Prop} {a : Addr} {argsL rest : List Value} {ce' sl' : Nat} (hown : s.vm.findClass own = some m.cls) (hnm : y.name = "<init>") (w1 : (Cond.methodLink own index y).before a0 Z = true) (w2 : (Cond.instanceMethod y).before a0 Z = true) (w3 : (Cond.initialized y.cls).before a0 Z = true) (w4 : (Cond.code y bytes maxL none).before a0 Z = true) (hy : y.cls ≠ "java/lang/invoke/MethodHandle" ∧ y.cls ≠ "java/lang/invoke/VarHandle")
    (hM : Met l Z y bytes maxL none [] rm (.ref a :: argsL).toArray h n0 Qc) (hsize : Ls.size = c.maxLocals) (hpd : parseMethodDescriptor y.desc = some ⟨ps, r'⟩) (hlen : argsL.length = ps.length) (hst : st = argsL.reverse ++ .ref a :: rest) (hd : decode c.code pc = .ok (.invokespecial index, 3)) (hq : q = pc + 3) (hf : rm.frames + 1 ≤ R.frames) (hl : (rest.map fun v => v.category).sum + (maxL + 11) + rm.locals ≤ R.locals) (hce : ce + rm.cells = ce') (hsl : sl + rm.slots = sl') (hc : ce' ≤ R.cells) (hs : sl' ≤ R.slots)
    (G : ∀ (v : Option Value) (h' : Heap), Qc v h' → Go p l e R s m args below meth c n0 C N Q h' ce' sl' q Ls (v.toList ++ rest)) : Go p l e R s m args below meth c n0 C N Q h ce sl pc Ls st := fun T locs X Nf eT => by
  subst hq hce hsl
  obtain ⟨v, _, ⟨T', L', k', n'⟩, -, X', ⟨Lc, ⟨hQ, hF⟩, hl1, hl2, hl3⟩, hst'⟩ := X.specialBack hx hnm hown (mvT hZ w1) (mvT hZ w2) (mvT hZ w4) hy (backOf (W := (rest.map fun v => v.category).sum) (Q := fun v h' L => Qc v h' ∧ Fr n0 L) hM hZ w4 w3 hf hl) (g := mkF m pc Ls st) rfl hsize (Steps.refl _) (a := a) (argsL := argsL) (rest := rest) (lenOf hpd hlen) hst (by show 2 * 0 + _ ≤ _; omega) hd (fun _ _ => ⟨rfl, eT, hc, hs⟩)
  dsimp only [Pt.U, Pt.locs, Pt.cells, Pt.slots] at X' hl1 hl2 hl3 hst' hQ
  subst hl1 hl2 hl3
  obtain ⟨s₂, v', L'', S, r⟩ := G v _ hQ T' _ X' (Fr.app Nf hF) rfl
  exact ⟨s₂, v', L'', hst'.trans S, r⟩
theorem Go.callV (hx : p.tables.exec = Jvm.exec) (hZ : Z.Warmed39 s.vm) {own C' : String} {index : Nat} {y z : MethodName} {bytes : ByteArray} {maxL : Nat} {rt r' : Option FieldType} {ps : List FieldType} {rm : Room} {Qc : Option Value → Heap → Prop} {a : Addr} {argsL rest : List Value} {ce' sl' : Nat} (hown : s.vm.findClass own = some m.cls) (w1 : (Cond.methodLink own index y).before a0 Z = true) (w2 : (Cond.declares y).before a0 Z = true) (hnf : NotFace s y) (w5 : (Cond.selects C' y z).before a0 Z = true) (w6 : (Cond.instanceMethod z).before a0 Z = true) (w3 : (Cond.initialized z.cls).before a0 Z = true) (w4 : (Cond.code z bytes maxL rt).before a0 Z = true) (hy : y.cls ≠ "java/lang/invoke/MethodHandle" ∧ y.cls ≠ "java/lang/invoke/VarHandle")
    (E : Exa Z h a C') (hM : Met l Z z bytes maxL rt [] rm (.ref a :: argsL).toArray h n0 Qc) (hsize : Ls.size = c.maxLocals) (hpd : parseMethodDescriptor y.desc = some ⟨ps, r'⟩) (hlen : argsL.length = ps.length) (hst : st = argsL.reverse ++ .ref a :: rest) (hd : decode c.code pc = .ok (.invokevirtual index, 3)) (hq : q = pc + 3) (hf : rm.frames + 1 ≤ R.frames) (hl : (rest.map fun v => v.category).sum + (maxL + 11) + rm.locals ≤ R.locals) (hce : ce + rm.cells = ce') (hsl : sl + rm.slots = sl') (hc : ce' ≤ R.cells) (hs : sl' ≤ R.slots)
    (G : ∀ (v : Option Value) (h' : Heap), Qc v h' → Go p l e R s m args below meth c n0 C N Q h' ce' sl' q Ls (v.toList ++ rest)) : Go p l e R s m args below meth c n0 C N Q h ce sl pc Ls st := fun T locs X Nf eT => by
  subst hq hce hsl
  obtain ⟨cB, kB, qa, qb, qc⟩ := isOf hZ eT E
  obtain ⟨v, _, ⟨T', L', k', n'⟩, -, X', ⟨Lc, ⟨hQ, hF⟩, hl1, hl2, hl3⟩, hst'⟩ := X.virtualBack hx hown (mvT hZ w1) (mvT hZ w2) hnf (mvT hZ w5) (mvT hZ w6) hy (backOf (W := (rest.map fun v => v.category).sum) (Q := fun v h' L => Qc v h' ∧ Fr n0 L) hM hZ w4 w3 hf hl) qa qc (g := mkF m pc Ls st) rfl hsize (Steps.refl _) (argsL := argsL) (rest := rest) (lenOf hpd hlen) hst (by show 2 * 0 + _ ≤ _; omega) hd (fun _ _ => ⟨rfl, eT, hc, hs⟩)
  dsimp only [Pt.U, Pt.locs, Pt.cells, Pt.slots] at X' hl1 hl2 hl3 hst' hQ
  subst hl1 hl2 hl3
  obtain ⟨s₂, v', L'', S, r⟩ := G v _ hQ T' _ X' (Fr.app Nf hF) rfl
  exact ⟨s₂, v', L'', hst'.trans S, r⟩
theorem Go.instNull (hx : p.tables.exec = Jvm.exec) {index : Nat} (hd : decode c.code pc = .ok (.instanceof index, 3)) (hq : q = pc + 3) (G : Go p l e R s m args below meth c n0 C N Q h ce sl q Ls (.int 0 :: st)) : Go p l e R s m args below meth c n0 C N Q h ce sl pc Ls (.null :: st) := by
  subst hq
  exact Go.step (fun T locs target X eT S => X.instanceofNull hx (g := mkF m pc Ls (.null :: st)) rfl rfl hd target S) G
theorem Go.castNull (hx : p.tables.exec = Jvm.exec) {index : Nat} (hd : decode c.code pc = .ok (.checkcast index, 3)) (hq : q = pc + 3) (G : Go p l e R s m args below meth c n0 C N Q h ce sl q Ls (.null :: st)) : Go p l e R s m args below meth c n0 C N Q h ce sl pc Ls (.null :: st) := by
  subst hq
  exact Go.step (fun T locs target X eT S => X.checkcastNull hx (g := mkF m pc Ls (.null :: st)) rfl rfl hd target S) G
theorem Go.instNo (hx : p.tables.exec = Jvm.exec) (hZ : Z.Warmed39 s.vm) {own K C' : String} {index : Nat} (hown : s.vm.findClass own = some m.cls) (w1 : (Cond.classLink own index K).before a0 Z = true) {a : Addr} (E : Exa Z h a C') (F : ∃ c t, Z.vm.findClass C' = some c ∧ Z.vm.findClass K = some t ∧ Z.vm.assignable c t = false) (hd : decode c.code pc = .ok (.instanceof index, 3)) (hq : q = pc + 3) (G : Go p l e R s m args below meth c n0 C N Q h ce sl q Ls (.int 0 :: st)) : Go p l e R s m args below meth c n0 C N Q h ce sl pc Ls (.ref a :: st) := by
  subst hq
  exact Go.law (fun T locs X eT => Jvm.RoadKit.instNo X hx hZ hown w1 eT E F (g := mkF m pc Ls (.ref a :: st)) rfl rfl hd) G
theorem Go.aaloadC (hx : p.tables.exec = Jvm.exec) (hZ : Z.Warmed39 s.vm) {a : Addr} {cl : Cell} {ty : FieldType} {j : Int32} {v : Value} (A : Arr Z h a cl ty) (hty : ty.isReference = true) (hj : ¬ (j < 0 ∨ cl.slots.size ≤ j.toNatClampNeg)) (hv : cl.slots[j.toNatClampNeg]? = some v) (hd : decode c.code pc = .ok (.aaload, 1)) (hq : q = pc + 1) (G : Go p l e R s m args below meth c n0 C N Q h ce sl q Ls (v :: st)) : Go p l e R s m args below meth c n0 C N Q h ce sl pc Ls (.int j :: .ref a :: st) := by
  subst hq
  exact Go.step (fun T locs target X eT S => X.aaload hx (by rw [eT]; exact A.1) (State.isArrayOf_alike hZ.alike A.2.1) hty A.2.2 hj hv (g := mkF m pc Ls (.int j :: .ref a :: st)) rfl rfl hd target S) G
theorem cat_ref {v : Value} (hv : v.isRef = true) : v.category = 1 := by rcases ref_cases hv with rfl | ⟨x, rfl⟩ <;> rfl
theorem nar_ref {v : Value} {t : FieldType} (hv : v.isRef = true) (ht : t.isReference = true) : narrow t v = v := by rcases ref_cases hv with rfl | ⟨x, rfl⟩ <;> cases t <;> rfl
theorem fits_of_ref {v : Value} {t : FieldType} (hv : v.isRef = true) (ht : t.isReference = true) : fits t v = true := by rcases ref_cases hv with rfl | ⟨x, rfl⟩ <;> cases t <;> first | rfl | cases ht
theorem cmpL_gt (x y : Int64) : (0 : Int32) < XT.cmpL x y ↔ y < x := by
  unfold XT.cmpL; split <;> (try split) <;> simp_all <;> decide
theorem cmpL_lt (x y : Int64) : XT.cmpL x y < (0 : Int32) ↔ x < y := by
  unfold XT.cmpL; split <;> (try split) <;> simp_all [Int64.lt_iff_toInt_lt, ← Int64.toInt_inj, Int32.lt_iff_toInt_lt] <;> omega
theorem cmpL_eq (x y : Int64) : XT.cmpL x y = (0 : Int32) ↔ x = y := by
  unfold XT.cmpL; split <;> (try split) <;> simp_all [Int64.lt_iff_toInt_lt, ← Int64.toInt_inj] <;> omega
theorem ns_root {K O : String} {kn : Nat} (w1 : (Cond.noSuperclass O).before a0 Z = true) (wk : (Cond.instantiable K kn).before a0 Z = true) (hn : O ≠ K) : NS Z O K := by
  obtain ⟨c, k, h1, h2, h3, -, -⟩ := Cond.noSuperclass_spec w1
  obtain ⟨t, kt, g1, -⟩ := Cond.instantiable_spec wk
  have ne := ids_ne h1 g1 hn
  refine ⟨c, t, h1, g1, fun fuel => ?_⟩
  cases fuel with
  | zero => rfl
  | succ f => simp [Vm.isSubclassAux, ne, h2, h3]
theorem ns_no {C' S K : String} {kn : Nat} (w1 : (Cond.superclass C' S).before a0 Z = true) (wk : (Cond.instantiable K kn).before a0 Z = true) (nn : NS Z C' K) (hn : C' ≠ K) : ∃ c t, Z.vm.findClass C' = some c ∧ Z.vm.findClass K = some t ∧ Z.vm.assignable c t = false := by
  obtain ⟨c, t, h0, g0, n3⟩ := nn
  obtain ⟨p, k, kp, h1, h2, h3, h4, h5, -, h7⟩ := Cond.superclass_spec h0 w1
  obtain ⟨t', kt, g1, g2, g5, g7, -⟩ := Cond.instantiable_spec wk
  cases g0.symm.trans g1
  have g8 : kt.isInterface = false := by rw [Bool.or_eq_false_iff] at g7; exact g7.1
  have ne := ids_ne h0 g0 hn
  refine ⟨c, t, h0, g0, ?_⟩
  show Z.vm.assignableAux (255 + 1) c t = false
  simp [Vm.assignableAux, ne, h2, g2, h5, g5, g8, Vm.isSubclass, n3]
end OwnKit
theorem rem9 (x : Int32) : (x &&& (2147483647 : Int32)) % (9 : Int32) = (0 : Int32) ∨ (x &&& (2147483647 : Int32)) % (9 : Int32) = (1 : Int32) ∨ (x &&& (2147483647 : Int32)) % (9 : Int32) = (2 : Int32) ∨ (x &&& (2147483647 : Int32)) % (9 : Int32) = (3 : Int32) ∨ (x &&& (2147483647 : Int32)) % (9 : Int32) = (4 : Int32) ∨ (x &&& (2147483647 : Int32)) % (9 : Int32) = (5 : Int32) ∨ (x &&& (2147483647 : Int32)) % (9 : Int32) = (6 : Int32) ∨ (x &&& (2147483647 : Int32)) % (9 : Int32) = (7 : Int32) ∨ (x &&& (2147483647 : Int32)) % (9 : Int32) = (8 : Int32) := by
  have e1 : (x &&& 2147483647).toInt = x.toInt % 2 ^ 31 := Jvm.Kit.i32_mask x 2147483647 (k := 31) (by decide) (by decide)
  have e2 := Jvm.Kit.i32_rem_nonneg (x := x &&& 2147483647) (y := 9) (by omega)
  have e3 : (9 : Int32).toInt = 9 := rfl
  rw [e3] at e2
  have f0 : (0 : Int32).toInt = 0 := rfl
  have f1 : (1 : Int32).toInt = 1 := rfl
  have f2 : (2 : Int32).toInt = 2 := rfl
  have f3 : (3 : Int32).toInt = 3 := rfl
  have f4 : (4 : Int32).toInt = 4 := rfl
  have f5 : (5 : Int32).toInt = 5 := rfl
  have f6 : (6 : Int32).toInt = 6 := rfl
  have f7 : (7 : Int32).toInt = 7 := rfl
  have f8 : (8 : Int32).toInt = 8 := rfl
  simp only [← Int32.toInt_inj]
  omega
theorem ord_at {args : Array Value} {s : State} {t : Term} {a : Addr} {C n d : String} {z : Int32} (hq : (Cond.eq (.field t C n d) (.int z)).value args s none s [] = some true) (ht : t.eval args s none [] s = some (.ref a)) : s.fieldOf? a C n d = some (.int z) := by
  obtain ⟨xv, yv, e1, e2, k1, k2⟩ := cmp_v (Or.inl hq)
  have e3 : yv = .int z := Option.some.inj (e2.symm.trans (Term.int_eval z))
  subst e3
  obtain ⟨w, rfl⟩ := k2
  have e4 := gotT (Cond.eq_ints e1 (Term.int_eval z)) hq
  subst e4
  rw [← fld_at ht]; exact e1
def sel (k : Int32) (b0 b1 b2 b3 b4 b5 b6 b7 b8 : Addr) : Addr := if k = 0 then b0 else if k = 1 then b1 else if k = 2 then b2 else if k = 3 then b3 else if k = 4 then b4 else if k = 5 then b5 else if k = 6 then b6 else if k = 7 then b7 else b8
theorem d0_0 : decode method_3_code 0 = .ok (.iload_n 0, 1) := by decide +kernel
theorem d0_1 : decode method_3_code 1 = .ok (.ifCond .ne 7, 3) := by decide +kernel
theorem d0_4 : decode method_3_code 4 = .ok (.getstatic 20, 3) := by decide +kernel
theorem d0_7 : decode method_3_code 7 = .ok (.areturn, 1) := by decide +kernel
theorem d0_8 : decode method_3_code 8 = .ok (.iload_n 0, 1) := by decide +kernel
theorem d0_9 : decode method_3_code 9 = .ok (.iconst 1, 1) := by decide +kernel
theorem d0_10 : decode method_3_code 10 = .ok (.if_icmp .ne 7, 3) := by decide +kernel
theorem d0_13 : decode method_3_code 13 = .ok (.getstatic 24, 3) := by decide +kernel
theorem d0_16 : decode method_3_code 16 = .ok (.areturn, 1) := by decide +kernel
theorem d0_17 : decode method_3_code 17 = .ok (.iload_n 0, 1) := by decide +kernel
theorem d0_18 : decode method_3_code 18 = .ok (.iconst 2, 1) := by decide +kernel
theorem d0_19 : decode method_3_code 19 = .ok (.if_icmp .ne 7, 3) := by decide +kernel
theorem d0_22 : decode method_3_code 22 = .ok (.getstatic 27, 3) := by decide +kernel
theorem d0_25 : decode method_3_code 25 = .ok (.areturn, 1) := by decide +kernel
theorem d0_26 : decode method_3_code 26 = .ok (.iload_n 0, 1) := by decide +kernel
theorem d0_27 : decode method_3_code 27 = .ok (.iconst 3, 1) := by decide +kernel
theorem d0_28 : decode method_3_code 28 = .ok (.if_icmp .ne 7, 3) := by decide +kernel
theorem d0_31 : decode method_3_code 31 = .ok (.getstatic 30, 3) := by decide +kernel
theorem d0_34 : decode method_3_code 34 = .ok (.areturn, 1) := by decide +kernel
theorem d0_35 : decode method_3_code 35 = .ok (.iload_n 0, 1) := by decide +kernel
theorem d0_36 : decode method_3_code 36 = .ok (.iconst 4, 1) := by decide +kernel
theorem d0_37 : decode method_3_code 37 = .ok (.if_icmp .ne 7, 3) := by decide +kernel
theorem d0_40 : decode method_3_code 40 = .ok (.getstatic 33, 3) := by decide +kernel
theorem d0_43 : decode method_3_code 43 = .ok (.areturn, 1) := by decide +kernel
theorem d0_44 : decode method_3_code 44 = .ok (.iload_n 0, 1) := by decide +kernel
theorem d0_45 : decode method_3_code 45 = .ok (.iconst 5, 1) := by decide +kernel
theorem d0_46 : decode method_3_code 46 = .ok (.if_icmp .ne 7, 3) := by decide +kernel
theorem d0_49 : decode method_3_code 49 = .ok (.getstatic 36, 3) := by decide +kernel
theorem d0_52 : decode method_3_code 52 = .ok (.areturn, 1) := by decide +kernel
theorem d0_53 : decode method_3_code 53 = .ok (.iload_n 0, 1) := by decide +kernel
theorem d0_54 : decode method_3_code 54 = .ok (.bipush 6, 2) := by decide +kernel
theorem d0_56 : decode method_3_code 56 = .ok (.if_icmp .ne 7, 3) := by decide +kernel
theorem d0_59 : decode method_3_code 59 = .ok (.getstatic 39, 3) := by decide +kernel
theorem d0_62 : decode method_3_code 62 = .ok (.areturn, 1) := by decide +kernel
theorem d0_63 : decode method_3_code 63 = .ok (.iload_n 0, 1) := by decide +kernel
theorem d0_64 : decode method_3_code 64 = .ok (.bipush 7, 2) := by decide +kernel
theorem d0_66 : decode method_3_code 66 = .ok (.if_icmp .ne 7, 3) := by decide +kernel
theorem d0_69 : decode method_3_code 69 = .ok (.getstatic 42, 3) := by decide +kernel
theorem d0_72 : decode method_3_code 72 = .ok (.areturn, 1) := by decide +kernel
theorem d0_73 : decode method_3_code 73 = .ok (.getstatic 45, 3) := by decide +kernel
theorem d0_76 : decode method_3_code 76 = .ok (.areturn, 1) := by decide +kernel
theorem pl_0 : plainFor (⟨"com/example/resolvent/resolvent/term/KindIsNamePinLaw", "pick", "(I)Lcom/example/resolvent/resolvent/term/Token$Kind;"⟩ : MethodName) = true := plainFor_of_name (by first | (simp [plainName, overriddenIn]; done) | decide +kernel)
set_option maxRecDepth 65536 in
set_option maxHeartbeats 40000000 in
theorem rm1 (l : Launch) (Z : State) (a0 : Array Value) (hw : ∀ d ∈ tables_1, d.before a0 Z = true) (k : Int32) (b0 b1 b2 b3 b4 b5 b6 b7 b8 : Addr) (h0 : Heap) (n0 : Nat) (Z0 : n0 ≤ h0.size) (S0 : Sta Z h0 "com/example/resolvent/resolvent/term/Token$Kind" "NAME" "Lcom/example/resolvent/resolvent/term/Token$Kind;" (.ref b0)) (S1 : Sta Z h0 "com/example/resolvent/resolvent/term/Token$Kind" "QUOTED_NAME" "Lcom/example/resolvent/resolvent/term/Token$Kind;" (.ref b1)) (S2 : Sta Z h0 "com/example/resolvent/resolvent/term/Token$Kind" "DEFINED_WORD" "Lcom/example/resolvent/resolvent/term/Token$Kind;" (.ref b2)) (S3 : Sta Z h0 "com/example/resolvent/resolvent/term/Token$Kind" "VARIABLE" "Lcom/example/resolvent/resolvent/term/Token$Kind;" (.ref b3)) (S4 : Sta Z h0 "com/example/resolvent/resolvent/term/Token$Kind" "INTEGER" "Lcom/example/resolvent/resolvent/term/Token$Kind;" (.ref b4)) (S5 : Sta Z h0 "com/example/resolvent/resolvent/term/Token$Kind" "PUNCTUATION" "Lcom/example/resolvent/resolvent/term/Token$Kind;" (.ref b5)) (S6 : Sta Z h0 "com/example/resolvent/resolvent/term/Token$Kind" "CODE_LIST" "Lcom/example/resolvent/resolvent/term/Token$Kind;" (.ref b6)) (S7 : Sta Z h0 "com/example/resolvent/resolvent/term/Token$Kind" "FULL_STOP" "Lcom/example/resolvent/resolvent/term/Token$Kind;" (.ref b7)) (S8 : Sta Z h0 "com/example/resolvent/resolvent/term/Token$Kind" "END" "Lcom/example/resolvent/resolvent/term/Token$Kind;" (.ref b8)) :
    Met l Z (⟨"com/example/resolvent/resolvent/term/KindIsNamePinLaw", "pick", "(I)Lcom/example/resolvent/resolvent/term/Token$Kind;"⟩ : MethodName) method_3_code 1 (Option.some (FieldType.object "com/example/resolvent/resolvent/term/Token$Kind")) [] ({ frames := 0, cells := 0, slots := 0, locals := 0 } : Room) #[(.int k)] h0 n0 (fun v h => v = some (.ref (sel k b0 b1 b2 b3 b4 b5 b6 b7 b8)) ∧ h0 = h) := by
  refine Met.of (Ls0 := #[.val (.int k)]) pl_0 (by first | rfl | simp [argsToLocals, Value.category]) ?_
  intro p e s m below meth c hx hby hml hret hlk hown hnm hZ
  refine Go.iloadN (q := 1) hx (hb hby d0_0) rfl rfl ?_
  refine Go.if_ne (q := 4) (t := 8) hx (hb hby d0_1) (by decide) rfl rfl (fun hc1 => ?_) (fun hc1 => ?_)
  · skip
    refine Go.iloadN (q := 9) hx (hb hby d0_8) rfl rfl ?_
    refine Go.iconst (q := 10) (z := (1 : Int32)) hx (hb hby d0_9) rfl rfl ?_
    refine Go.icmp_ne (q := 13) (t := 17) hx (hb hby d0_10) (by decide) rfl rfl (fun hc10 => ?_) (fun hc10 => ?_)
    · skip
      refine Go.iloadN (q := 18) hx (hb hby d0_17) rfl rfl ?_
      refine Go.iconst (q := 19) (z := (2 : Int32)) hx (hb hby d0_18) rfl rfl ?_
      refine Go.icmp_ne (q := 22) (t := 26) hx (hb hby d0_19) (by decide) rfl rfl (fun hc19 => ?_) (fun hc19 => ?_)
      · skip
        refine Go.iloadN (q := 27) hx (hb hby d0_26) rfl rfl ?_
        refine Go.iconst (q := 28) (z := (3 : Int32)) hx (hb hby d0_27) rfl rfl ?_
        refine Go.icmp_ne (q := 31) (t := 35) hx (hb hby d0_28) (by decide) rfl rfl (fun hc28 => ?_) (fun hc28 => ?_)
        · skip
          refine Go.iloadN (q := 36) hx (hb hby d0_35) rfl rfl ?_
          refine Go.iconst (q := 37) (z := (4 : Int32)) hx (hb hby d0_36) rfl rfl ?_
          refine Go.icmp_ne (q := 40) (t := 44) hx (hb hby d0_37) (by decide) rfl rfl (fun hc37 => ?_) (fun hc37 => ?_)
          · skip
            refine Go.iloadN (q := 45) hx (hb hby d0_44) rfl rfl ?_
            refine Go.iconst (q := 46) (z := (5 : Int32)) hx (hb hby d0_45) rfl rfl ?_
            refine Go.icmp_ne (q := 49) (t := 53) hx (hb hby d0_46) (by decide) rfl rfl (fun hc46 => ?_) (fun hc46 => ?_)
            · skip
              refine Go.iloadN (q := 54) hx (hb hby d0_53) rfl rfl ?_
              refine Go.bipush (q := 56) (z := (6 : Int32)) hx (hb hby d0_54) rfl rfl ?_
              refine Go.icmp_ne (q := 59) (t := 63) hx (hb hby d0_56) (by decide) rfl rfl (fun hc56 => ?_) (fun hc56 => ?_)
              · skip
                refine Go.iloadN (q := 64) hx (hb hby d0_63) rfl rfl ?_
                refine Go.bipush (q := 66) (z := (7 : Int32)) hx (hb hby d0_64) rfl rfl ?_
                refine Go.icmp_ne (q := 69) (t := 73) hx (hb hby d0_66) (by decide) rfl rfl (fun hc66 => ?_) (fun hc66 => ?_)
                · skip
                  refine Go.getS (q := 76) hx hZ hown (host := "") (Or.inl (hw _ (List.mem_of_getElem? (i := 26) rfl))) Via.refl S8 (hb hby d0_73) rfl ?_
                  refine Go.retA hx hret rfl (by rfl) hlk (hb hby d0_76) (by decide) (by decide) ?_
                  exact ⟨by simp [sel, hc1, hc10, hc19, hc28, hc37, hc46, hc56, hc66], rfl⟩
                · skip
                  refine Go.getS (q := 72) hx hZ hown (host := "") (Or.inl (hw _ (List.mem_of_getElem? (i := 22) rfl))) Via.refl S7 (hb hby d0_69) rfl ?_
                  refine Go.retA hx hret rfl (by rfl) hlk (hb hby d0_72) (by decide) (by decide) ?_
                  exact ⟨by simp [sel, hc1, hc10, hc19, hc28, hc37, hc46, hc56, hc66], rfl⟩
              · skip
                refine Go.getS (q := 62) hx hZ hown (host := "") (Or.inl (hw _ (List.mem_of_getElem? (i := 28) rfl))) Via.refl S6 (hb hby d0_59) rfl ?_
                refine Go.retA hx hret rfl (by rfl) hlk (hb hby d0_62) (by decide) (by decide) ?_
                exact ⟨by simp [sel, hc1, hc10, hc19, hc28, hc37, hc46, hc56], rfl⟩
            · skip
              refine Go.getS (q := 52) hx hZ hown (host := "") (Or.inl (hw _ (List.mem_of_getElem? (i := 30) rfl))) Via.refl S5 (hb hby d0_49) rfl ?_
              refine Go.retA hx hret rfl (by rfl) hlk (hb hby d0_52) (by decide) (by decide) ?_
              exact ⟨by simp [sel, hc1, hc10, hc19, hc28, hc37, hc46], rfl⟩
          · skip
            refine Go.getS (q := 43) hx hZ hown (host := "") (Or.inl (hw _ (List.mem_of_getElem? (i := 24) rfl))) Via.refl S4 (hb hby d0_40) rfl ?_
            refine Go.retA hx hret rfl (by rfl) hlk (hb hby d0_43) (by decide) (by decide) ?_
            exact ⟨by simp [sel, hc1, hc10, hc19, hc28, hc37], rfl⟩
        · skip
          refine Go.getS (q := 34) hx hZ hown (host := "") (Or.inl (hw _ (List.mem_of_getElem? (i := 14) rfl))) Via.refl S3 (hb hby d0_31) rfl ?_
          refine Go.retA hx hret rfl (by rfl) hlk (hb hby d0_34) (by decide) (by decide) ?_
          exact ⟨by simp [sel, hc1, hc10, hc19, hc28], rfl⟩
      · skip
        refine Go.getS (q := 25) hx hZ hown (host := "") (Or.inl (hw _ (List.mem_of_getElem? (i := 20) rfl))) Via.refl S2 (hb hby d0_22) rfl ?_
        refine Go.retA hx hret rfl (by rfl) hlk (hb hby d0_25) (by decide) (by decide) ?_
        exact ⟨by simp [sel, hc1, hc10, hc19], rfl⟩
    · skip
      refine Go.getS (q := 16) hx hZ hown (host := "") (Or.inl (hw _ (List.mem_of_getElem? (i := 21) rfl))) Via.refl S1 (hb hby d0_13) rfl ?_
      refine Go.retA hx hret rfl (by rfl) hlk (hb hby d0_16) (by decide) (by decide) ?_
      exact ⟨by simp [sel, hc1, hc10], rfl⟩
  · skip
    refine Go.getS (q := 7) hx hZ hown (host := "") (Or.inl (hw _ (List.mem_of_getElem? (i := 5) rfl))) Via.refl S0 (hb hby d0_4) rfl ?_
    refine Go.retA hx hret rfl (by rfl) hlk (hb hby d0_7) (by decide) (by decide) ?_
    exact ⟨by simp [sel, hc1], rfl⟩
def isN (a b0 b1 b2 : Addr) : Int32 := if a = b0 then 1 else if a = b1 then 1 else if a = b2 then 1 else 0
theorem d1_0 : decode prog_119_method_4_code 0 = .ok (.aload_n 0, 1) := by decide +kernel
theorem d1_1 : decode prog_119_method_4_code 1 = .ok (.getstatic 3, 3) := by decide +kernel
theorem d1_4 : decode prog_119_method_4_code 4 = .ok (.if_acmp .eq 17, 3) := by decide +kernel
theorem d1_7 : decode prog_119_method_4_code 7 = .ok (.aload_n 0, 1) := by decide +kernel
theorem d1_8 : decode prog_119_method_4_code 8 = .ok (.getstatic 7, 3) := by decide +kernel
theorem d1_11 : decode prog_119_method_4_code 11 = .ok (.if_acmp .eq 10, 3) := by decide +kernel
theorem d1_14 : decode prog_119_method_4_code 14 = .ok (.aload_n 0, 1) := by decide +kernel
theorem d1_15 : decode prog_119_method_4_code 15 = .ok (.getstatic 10, 3) := by decide +kernel
theorem d1_18 : decode prog_119_method_4_code 18 = .ok (.if_acmp .ne 7, 3) := by decide +kernel
theorem d1_21 : decode prog_119_method_4_code 21 = .ok (.iconst 1, 1) := by decide +kernel
theorem d1_22 : decode prog_119_method_4_code 22 = .ok (.goto 4, 3) := by decide +kernel
theorem d1_25 : decode prog_119_method_4_code 25 = .ok (.iconst 0, 1) := by decide +kernel
theorem d1_26 : decode prog_119_method_4_code 26 = .ok (.ireturn, 1) := by decide +kernel
theorem pl_1 : plainFor (⟨"com/example/resolvent/resolvent/term/Token$Kind", "isName", "()Z"⟩ : MethodName) = true := plainFor_of_name (by first | (simp [plainName, overriddenIn]; done) | decide +kernel)
set_option maxRecDepth 65536 in
set_option maxHeartbeats 40000000 in
theorem rm2 (l : Launch) (Z : State) (a0 : Array Value) (hw : ∀ d ∈ tables_1, d.before a0 Z = true) (a b0 b1 b2 : Addr) (h0 : Heap) (n0 : Nat) (Z0 : n0 ≤ h0.size) (S0 : Sta Z h0 "com/example/resolvent/resolvent/term/Token$Kind" "NAME" "Lcom/example/resolvent/resolvent/term/Token$Kind;" (.ref b0)) (S1 : Sta Z h0 "com/example/resolvent/resolvent/term/Token$Kind" "QUOTED_NAME" "Lcom/example/resolvent/resolvent/term/Token$Kind;" (.ref b1)) (S2 : Sta Z h0 "com/example/resolvent/resolvent/term/Token$Kind" "DEFINED_WORD" "Lcom/example/resolvent/resolvent/term/Token$Kind;" (.ref b2)) :
    Met l Z (⟨"com/example/resolvent/resolvent/term/Token$Kind", "isName", "()Z"⟩ : MethodName) prog_119_method_4_code 1 (Option.some FieldType.boolean) [] ({ frames := 0, cells := 0, slots := 0, locals := 0 } : Room) #[(.ref a)] h0 n0 (fun v h => v = some (.int (isN a b0 b1 b2)) ∧ h0 = h) := by
  refine Met.of (Ls0 := #[.val (.ref a)]) pl_1 (by first | rfl | simp [argsToLocals, Value.category]) ?_
  intro p e s m below meth c hx hby hml hret hlk hown hnm hZ
  refine Go.aloadN (q := 1) hx (hb hby d1_0) rfl (by rfl) rfl ?_
  refine Go.getS (q := 4) hx hZ hown (host := "") (Or.inl (hw _ (List.mem_of_getElem? (i := 13) rfl))) Via.refl S0 (hb hby d1_1) rfl ?_
  refine Go.acmp_eq (q := 7) (t := 21) hx (by rfl) (by rfl) (hb hby d1_4) (by decide) rfl rfl (fun hc4 => ?_) (fun hc4 => ?_)
  · skip
    refine Go.iconst (q := 22) (z := (1 : Int32)) hx (hb hby d1_21) rfl rfl ?_
    refine Go.goto (q := 26) hx (hb hby d1_22) (by decide) rfl ?_
    refine Go.retN hx (t := .boolean) hret (by simp) hlk (hb hby d1_26) (by decide) (by decide) ?_
    exact ⟨by simp only [Value.ref.injEq] at hc4; simp [isN, nar, hc4], rfl⟩
  · skip
    refine Go.aloadN (q := 8) hx (hb hby d1_7) rfl (by rfl) rfl ?_
    refine Go.getS (q := 11) hx hZ hown (host := "") (Or.inl (hw _ (List.mem_of_getElem? (i := 16) rfl))) Via.refl S1 (hb hby d1_8) rfl ?_
    refine Go.acmp_eq (q := 14) (t := 21) hx (by rfl) (by rfl) (hb hby d1_11) (by decide) rfl rfl (fun hc11 => ?_) (fun hc11 => ?_)
    · skip
      refine Go.iconst (q := 22) (z := (1 : Int32)) hx (hb hby d1_21) rfl rfl ?_
      refine Go.goto (q := 26) hx (hb hby d1_22) (by decide) rfl ?_
      refine Go.retN hx (t := .boolean) hret (by simp) hlk (hb hby d1_26) (by decide) (by decide) ?_
      exact ⟨by simp only [Value.ref.injEq] at hc4 hc11; simp [isN, nar, hc4, hc11], rfl⟩
    · skip
      refine Go.aloadN (q := 15) hx (hb hby d1_14) rfl (by rfl) rfl ?_
      refine Go.getS (q := 18) hx hZ hown (host := "") (Or.inl (hw _ (List.mem_of_getElem? (i := 18) rfl))) Via.refl S2 (hb hby d1_15) rfl ?_
      refine Go.acmp_ne (q := 21) (t := 25) hx (by rfl) (by rfl) (hb hby d1_18) (by decide) rfl rfl (fun hc18 => ?_) (fun hc18 => ?_)
      · skip
        refine Go.iconst (q := 26) (z := (0 : Int32)) hx (hb hby d1_25) rfl rfl ?_
        refine Go.retN hx (t := .boolean) hret (by simp) hlk (hb hby d1_26) (by decide) (by decide) ?_
        exact ⟨by simp only [Value.ref.injEq] at hc4 hc11 hc18; simp [isN, nar, hc4, hc11, hc18], rfl⟩
      · skip
        refine Go.iconst (q := 22) (z := (1 : Int32)) hx (hb hby d1_21) rfl rfl ?_
        refine Go.goto (q := 26) hx (hb hby d1_22) (by decide) rfl ?_
        refine Go.retN hx (t := .boolean) hret (by simp) hlk (hb hby d1_26) (by decide) (by decide) ?_
        exact ⟨by simp only [Value.ref.injEq] at hc4 hc11 hc18; simp [isN, nar, hc4, hc11, hc18], rfl⟩
theorem pl_2 : plainFor (⟨"com/example/resolvent/resolvent/term/KindIsNamePinLaw", "law", "(I)Z"⟩ : MethodName) = true := plainFor_of_name (by first | (simp [plainName, overriddenIn]; done) | decide +kernel)
theorem pd_0 : parseMethodDescriptor "(I)Lcom/example/resolvent/resolvent/term/Token$Kind;" = some ⟨[.int], some (.object "com/example/resolvent/resolvent/term/Token$Kind")⟩ := by decide +kernel
theorem pd_1 : parseMethodDescriptor "()Z" = some ⟨[], some .boolean⟩ := by decide +kernel
set_option maxRecDepth 65536 in
set_option maxHeartbeats 40000000 in
theorem rm0 (l : Launch) (Z : State) (a0 : Array Value) (hw : ∀ d ∈ tables_1, d.before a0 Z = true) (p1 : Int32) (b0 b1 b2 b3 b4 b5 b6 b7 b8 : Addr) (h0 : Heap) (n0 : Nat) (Z0 : n0 ≤ h0.size) (S0 : Sta Z h0 "com/example/resolvent/resolvent/term/Token$Kind" "NAME" "Lcom/example/resolvent/resolvent/term/Token$Kind;" (.ref b0)) (S1 : Sta Z h0 "com/example/resolvent/resolvent/term/Token$Kind" "QUOTED_NAME" "Lcom/example/resolvent/resolvent/term/Token$Kind;" (.ref b1)) (S2 : Sta Z h0 "com/example/resolvent/resolvent/term/Token$Kind" "DEFINED_WORD" "Lcom/example/resolvent/resolvent/term/Token$Kind;" (.ref b2)) (S3 : Sta Z h0 "com/example/resolvent/resolvent/term/Token$Kind" "VARIABLE" "Lcom/example/resolvent/resolvent/term/Token$Kind;" (.ref b3)) (S4 : Sta Z h0 "com/example/resolvent/resolvent/term/Token$Kind" "INTEGER" "Lcom/example/resolvent/resolvent/term/Token$Kind;" (.ref b4)) (S5 : Sta Z h0 "com/example/resolvent/resolvent/term/Token$Kind" "PUNCTUATION" "Lcom/example/resolvent/resolvent/term/Token$Kind;" (.ref b5)) (S6 : Sta Z h0 "com/example/resolvent/resolvent/term/Token$Kind" "CODE_LIST" "Lcom/example/resolvent/resolvent/term/Token$Kind;" (.ref b6)) (S7 : Sta Z h0 "com/example/resolvent/resolvent/term/Token$Kind" "FULL_STOP" "Lcom/example/resolvent/resolvent/term/Token$Kind;" (.ref b7)) (S8 : Sta Z h0 "com/example/resolvent/resolvent/term/Token$Kind" "END" "Lcom/example/resolvent/resolvent/term/Token$Kind;" (.ref b8)) (E0 : Exa Z h0 b0 "com/example/resolvent/resolvent/term/Token$Kind") (F0 : Fld Z h0 b0 "java/lang/Enum" "ordinal" "I" (.int 0)) (E1 : Exa Z h0 b1 "com/example/resolvent/resolvent/term/Token$Kind") (F1 : Fld Z h0 b1 "java/lang/Enum" "ordinal" "I" (.int 1)) (E2 : Exa Z h0 b2 "com/example/resolvent/resolvent/term/Token$Kind") (F2 : Fld Z h0 b2 "java/lang/Enum" "ordinal" "I" (.int 2)) (E3 : Exa Z h0 b3 "com/example/resolvent/resolvent/term/Token$Kind") (F3 : Fld Z h0 b3 "java/lang/Enum" "ordinal" "I" (.int 3)) (E4 : Exa Z h0 b4 "com/example/resolvent/resolvent/term/Token$Kind") (F4 : Fld Z h0 b4 "java/lang/Enum" "ordinal" "I" (.int 4)) (E5 : Exa Z h0 b5 "com/example/resolvent/resolvent/term/Token$Kind") (F5 : Fld Z h0 b5 "java/lang/Enum" "ordinal" "I" (.int 5)) (E6 : Exa Z h0 b6 "com/example/resolvent/resolvent/term/Token$Kind") (F6 : Fld Z h0 b6 "java/lang/Enum" "ordinal" "I" (.int 6)) (E7 : Exa Z h0 b7 "com/example/resolvent/resolvent/term/Token$Kind") (F7 : Fld Z h0 b7 "java/lang/Enum" "ordinal" "I" (.int 7)) (E8 : Exa Z h0 b8 "com/example/resolvent/resolvent/term/Token$Kind") (F8 : Fld Z h0 b8 "java/lang/Enum" "ordinal" "I" (.int 8)) :
    Met l Z x code maxLocals ret tables_1 room_1 #[(.int p1)] h0 n0 (fun v h => v = some (.int 1)) := by
  refine Met.of (Ls0 := #[.val (.int p1), .unset, .unset, .unset]) pl_2 (by first | rfl | simp [argsToLocals, Value.category]) ?_
  intro p e s m below meth c hx hby hml hret hlk hown hnm hZ
  have ne0_1 : b0 ≠ b1 := F0.ne F1 (by decide)
  have ne0_2 : b0 ≠ b2 := F0.ne F2 (by decide)
  have ne1_0 : b1 ≠ b0 := F1.ne F0 (by decide)
  have ne1_2 : b1 ≠ b2 := F1.ne F2 (by decide)
  have ne2_0 : b2 ≠ b0 := F2.ne F0 (by decide)
  have ne2_1 : b2 ≠ b1 := F2.ne F1 (by decide)
  have ne3_0 : b3 ≠ b0 := F3.ne F0 (by decide)
  have ne3_1 : b3 ≠ b1 := F3.ne F1 (by decide)
  have ne3_2 : b3 ≠ b2 := F3.ne F2 (by decide)
  have ne4_0 : b4 ≠ b0 := F4.ne F0 (by decide)
  have ne4_1 : b4 ≠ b1 := F4.ne F1 (by decide)
  have ne4_2 : b4 ≠ b2 := F4.ne F2 (by decide)
  have ne5_0 : b5 ≠ b0 := F5.ne F0 (by decide)
  have ne5_1 : b5 ≠ b1 := F5.ne F1 (by decide)
  have ne5_2 : b5 ≠ b2 := F5.ne F2 (by decide)
  have ne6_0 : b6 ≠ b0 := F6.ne F0 (by decide)
  have ne6_1 : b6 ≠ b1 := F6.ne F1 (by decide)
  have ne6_2 : b6 ≠ b2 := F6.ne F2 (by decide)
  have ne7_0 : b7 ≠ b0 := F7.ne F0 (by decide)
  have ne7_1 : b7 ≠ b1 := F7.ne F1 (by decide)
  have ne7_2 : b7 ≠ b2 := F7.ne F2 (by decide)
  have ne8_0 : b8 ≠ b0 := F8.ne F0 (by decide)
  have ne8_1 : b8 ≠ b1 := F8.ne F1 (by decide)
  have ne8_2 : b8 ≠ b2 := F8.ne F2 (by decide)
  refine Go.iloadN (q := 1) hx (hb hby at_0) rfl rfl ?_
  refine Go.ldcInt (q := 3) hx hZ hown (hw _ (List.mem_of_getElem? (i := 0) rfl)) (hb hby at_1) rfl ?_
  refine Go.iand (q := 4) hx (hb hby at_3) rfl ?_
  refine Go.bipush (q := 6) (z := (9 : Int32)) hx (hb hby at_4) rfl rfl ?_
  refine Go.irem (q := 7) hx (hb hby at_6) (by decide) rfl ?_
  have hk1 : (p1 &&& (2147483647 : Int32)) % (9 : Int32) = (0 : Int32) ∨ (p1 &&& (2147483647 : Int32)) % (9 : Int32) = (1 : Int32) ∨ (p1 &&& (2147483647 : Int32)) % (9 : Int32) = (2 : Int32) ∨ (p1 &&& (2147483647 : Int32)) % (9 : Int32) = (3 : Int32) ∨ (p1 &&& (2147483647 : Int32)) % (9 : Int32) = (4 : Int32) ∨ (p1 &&& (2147483647 : Int32)) % (9 : Int32) = (5 : Int32) ∨ (p1 &&& (2147483647 : Int32)) % (9 : Int32) = (6 : Int32) ∨ (p1 &&& (2147483647 : Int32)) % (9 : Int32) = (7 : Int32) ∨ (p1 &&& (2147483647 : Int32)) % (9 : Int32) = (8 : Int32) := rem9 p1
  rcases hk1 with hk1 | hk1 | hk1 | hk1 | hk1 | hk1 | hk1 | hk1 | hk1
  · rw [hk1]
    refine Go.istoreN (q := 8) (l' := #[.val (.int p1), .val (.int (0 : Int32)), .unset, .unset]) hx (hb hby at_7) rfl rfl ?_
    refine Go.iloadN (q := 9) hx (hb hby at_8) rfl rfl ?_
    refine Go.callS (q := 12) hx hZ (argsL := [(.int (0 : Int32))]) (rest := []) hown (hw _ (List.mem_of_getElem? (i := 1) rfl)) (hw _ (List.mem_of_getElem? (i := 2) rfl)) (hw _ (List.mem_of_getElem? (i := 3) rfl)) (hw _ (List.mem_of_getElem? (i := 4) rfl)) (by decide) (rm1 l Z a0 hw (0 : Int32) b0 b1 b2 b3 b4 b5 b6 b7 b8 h0 n0 Z0 S0 S1 S2 S3 S4 S5 S6 S7 S8) (by rw [hml]; rfl) pd_0 rfl rfl (hb hby at_9) rfl (by decide) (Nat.le_of_ble_eq_true rfl) (ce' := 0) (sl' := 0) rfl rfl (by decide) (by decide) (fun v2 h3 hQ4 => ?_)
    obtain ⟨rfl, rfl⟩ := hQ4
    show Go _ _ _ _ _ _ _ _ _ _ _ _ _ _ _ 0 0 12 #[.val (.int p1), .val (.int (0 : Int32)), .unset, .unset] [(.ref b0)]
    refine Go.astoreN (q := 13) (l' := #[.val (.int p1), .val (.int (0 : Int32)), .val (.ref b0), .unset]) hx (hb hby at_12) (by rfl) rfl rfl ?_
    refine Go.iloadN (q := 14) hx (hb hby at_13) rfl rfl ?_
    refine Go.iconst (q := 15) (z := (2 : Int32)) hx (hb hby at_14) rfl rfl ?_
    refine Go.icmp_gt (q := 18) (t := 22) hx (hb hby at_15) (by decide) rfl rfl (fun hc15 => absurd hc15 (by decide)) (fun hc15 => ?_)
    refine Go.iconst (q := 19) (z := (1 : Int32)) hx (hb hby at_18) rfl rfl ?_
    refine Go.goto (q := 23) hx (hb hby at_19) (by decide) rfl ?_
    refine Go.istoreN (q := 24) (l' := #[.val (.int p1), .val (.int (0 : Int32)), .val (.ref b0), .val (.int (1 : Int32))]) hx (hb hby at_23) rfl rfl ?_
    refine Go.aloadN (q := 25) hx (hb hby at_24) rfl (by rfl) rfl ?_
    refine Go.callV (q := 28) hx hZ (a := b0) (argsL := []) (rest := []) hown (hw _ (List.mem_of_getElem? (i := 8) rfl)) (hw _ (List.mem_of_getElem? (i := 9) rfl)) (notFace_of_selects (args := #[]) (mvT hZ (hw _ (List.mem_of_getElem? (i := 11) rfl)))) (hw _ (List.mem_of_getElem? (i := 11) rfl)) (hw _ (List.mem_of_getElem? (i := 10) rfl)) (hw _ (List.mem_of_getElem? (i := 6) rfl)) (hw _ (List.mem_of_getElem? (i := 12) rfl)) (by decide) E0 (rm2 l Z a0 hw b0 b0 b1 b2 h0 n0 Z0 S0 S1 S2) (by rw [hml]; rfl) pd_1 rfl rfl (hb hby at_25) rfl (by decide) (Nat.le_of_ble_eq_true rfl) (ce' := 0) (sl' := 0) rfl rfl (by decide) (by decide) (fun v5 h6 hQ7 => ?_)
    obtain ⟨rfl, rfl⟩ := hQ7
    have q2 : isN b0 b0 b1 b2 = (1 : Int32) := by simp [isN]
    rw [q2]
    show Go _ _ _ _ _ _ _ _ _ _ _ _ _ _ _ 0 0 28 #[.val (.int p1), .val (.int (0 : Int32)), .val (.ref b0), .val (.int (1 : Int32))] [(.int (1 : Int32))]
    refine Go.iloadN (q := 29) hx (hb hby at_28) rfl rfl ?_
    refine Go.icmp_ne (q := 32) (t := 36) hx (hb hby at_29) (by decide) rfl rfl (fun hc29 => absurd rfl hc29) (fun hc29 => ?_)
    refine Go.iconst (q := 33) (z := (1 : Int32)) hx (hb hby at_32) rfl rfl ?_
    refine Go.goto (q := 37) hx (hb hby at_33) (by decide) rfl ?_
    refine Go.retN hx (t := .boolean) hret (by simp) hlk (hb hby at_37) (by decide) (by decide) ?_
    rfl
  · rw [hk1]
    refine Go.istoreN (q := 8) (l' := #[.val (.int p1), .val (.int (1 : Int32)), .unset, .unset]) hx (hb hby at_7) rfl rfl ?_
    refine Go.iloadN (q := 9) hx (hb hby at_8) rfl rfl ?_
    refine Go.callS (q := 12) hx hZ (argsL := [(.int (1 : Int32))]) (rest := []) hown (hw _ (List.mem_of_getElem? (i := 1) rfl)) (hw _ (List.mem_of_getElem? (i := 2) rfl)) (hw _ (List.mem_of_getElem? (i := 3) rfl)) (hw _ (List.mem_of_getElem? (i := 4) rfl)) (by decide) (rm1 l Z a0 hw (1 : Int32) b0 b1 b2 b3 b4 b5 b6 b7 b8 h0 n0 Z0 S0 S1 S2 S3 S4 S5 S6 S7 S8) (by rw [hml]; rfl) pd_0 rfl rfl (hb hby at_9) rfl (by decide) (Nat.le_of_ble_eq_true rfl) (ce' := 0) (sl' := 0) rfl rfl (by decide) (by decide) (fun v8 h9 hQ10 => ?_)
    obtain ⟨rfl, rfl⟩ := hQ10
    show Go _ _ _ _ _ _ _ _ _ _ _ _ _ _ _ 0 0 12 #[.val (.int p1), .val (.int (1 : Int32)), .unset, .unset] [(.ref b1)]
    refine Go.astoreN (q := 13) (l' := #[.val (.int p1), .val (.int (1 : Int32)), .val (.ref b1), .unset]) hx (hb hby at_12) (by rfl) rfl rfl ?_
    refine Go.iloadN (q := 14) hx (hb hby at_13) rfl rfl ?_
    refine Go.iconst (q := 15) (z := (2 : Int32)) hx (hb hby at_14) rfl rfl ?_
    refine Go.icmp_gt (q := 18) (t := 22) hx (hb hby at_15) (by decide) rfl rfl (fun hc15 => absurd hc15 (by decide)) (fun hc15 => ?_)
    refine Go.iconst (q := 19) (z := (1 : Int32)) hx (hb hby at_18) rfl rfl ?_
    refine Go.goto (q := 23) hx (hb hby at_19) (by decide) rfl ?_
    refine Go.istoreN (q := 24) (l' := #[.val (.int p1), .val (.int (1 : Int32)), .val (.ref b1), .val (.int (1 : Int32))]) hx (hb hby at_23) rfl rfl ?_
    refine Go.aloadN (q := 25) hx (hb hby at_24) rfl (by rfl) rfl ?_
    refine Go.callV (q := 28) hx hZ (a := b1) (argsL := []) (rest := []) hown (hw _ (List.mem_of_getElem? (i := 8) rfl)) (hw _ (List.mem_of_getElem? (i := 9) rfl)) (notFace_of_selects (args := #[]) (mvT hZ (hw _ (List.mem_of_getElem? (i := 11) rfl)))) (hw _ (List.mem_of_getElem? (i := 11) rfl)) (hw _ (List.mem_of_getElem? (i := 10) rfl)) (hw _ (List.mem_of_getElem? (i := 6) rfl)) (hw _ (List.mem_of_getElem? (i := 12) rfl)) (by decide) E1 (rm2 l Z a0 hw b1 b0 b1 b2 h0 n0 Z0 S0 S1 S2) (by rw [hml]; rfl) pd_1 rfl rfl (hb hby at_25) rfl (by decide) (Nat.le_of_ble_eq_true rfl) (ce' := 0) (sl' := 0) rfl rfl (by decide) (by decide) (fun v11 h12 hQ13 => ?_)
    obtain ⟨rfl, rfl⟩ := hQ13
    have q2 : isN b1 b0 b1 b2 = (1 : Int32) := by simp [isN, ne1_0]
    rw [q2]
    show Go _ _ _ _ _ _ _ _ _ _ _ _ _ _ _ 0 0 28 #[.val (.int p1), .val (.int (1 : Int32)), .val (.ref b1), .val (.int (1 : Int32))] [(.int (1 : Int32))]
    refine Go.iloadN (q := 29) hx (hb hby at_28) rfl rfl ?_
    refine Go.icmp_ne (q := 32) (t := 36) hx (hb hby at_29) (by decide) rfl rfl (fun hc29 => absurd rfl hc29) (fun hc29 => ?_)
    refine Go.iconst (q := 33) (z := (1 : Int32)) hx (hb hby at_32) rfl rfl ?_
    refine Go.goto (q := 37) hx (hb hby at_33) (by decide) rfl ?_
    refine Go.retN hx (t := .boolean) hret (by simp) hlk (hb hby at_37) (by decide) (by decide) ?_
    rfl
  · rw [hk1]
    refine Go.istoreN (q := 8) (l' := #[.val (.int p1), .val (.int (2 : Int32)), .unset, .unset]) hx (hb hby at_7) rfl rfl ?_
    refine Go.iloadN (q := 9) hx (hb hby at_8) rfl rfl ?_
    refine Go.callS (q := 12) hx hZ (argsL := [(.int (2 : Int32))]) (rest := []) hown (hw _ (List.mem_of_getElem? (i := 1) rfl)) (hw _ (List.mem_of_getElem? (i := 2) rfl)) (hw _ (List.mem_of_getElem? (i := 3) rfl)) (hw _ (List.mem_of_getElem? (i := 4) rfl)) (by decide) (rm1 l Z a0 hw (2 : Int32) b0 b1 b2 b3 b4 b5 b6 b7 b8 h0 n0 Z0 S0 S1 S2 S3 S4 S5 S6 S7 S8) (by rw [hml]; rfl) pd_0 rfl rfl (hb hby at_9) rfl (by decide) (Nat.le_of_ble_eq_true rfl) (ce' := 0) (sl' := 0) rfl rfl (by decide) (by decide) (fun v14 h15 hQ16 => ?_)
    obtain ⟨rfl, rfl⟩ := hQ16
    show Go _ _ _ _ _ _ _ _ _ _ _ _ _ _ _ 0 0 12 #[.val (.int p1), .val (.int (2 : Int32)), .unset, .unset] [(.ref b2)]
    refine Go.astoreN (q := 13) (l' := #[.val (.int p1), .val (.int (2 : Int32)), .val (.ref b2), .unset]) hx (hb hby at_12) (by rfl) rfl rfl ?_
    refine Go.iloadN (q := 14) hx (hb hby at_13) rfl rfl ?_
    refine Go.iconst (q := 15) (z := (2 : Int32)) hx (hb hby at_14) rfl rfl ?_
    refine Go.icmp_gt (q := 18) (t := 22) hx (hb hby at_15) (by decide) rfl rfl (fun hc15 => absurd hc15 (by decide)) (fun hc15 => ?_)
    refine Go.iconst (q := 19) (z := (1 : Int32)) hx (hb hby at_18) rfl rfl ?_
    refine Go.goto (q := 23) hx (hb hby at_19) (by decide) rfl ?_
    refine Go.istoreN (q := 24) (l' := #[.val (.int p1), .val (.int (2 : Int32)), .val (.ref b2), .val (.int (1 : Int32))]) hx (hb hby at_23) rfl rfl ?_
    refine Go.aloadN (q := 25) hx (hb hby at_24) rfl (by rfl) rfl ?_
    refine Go.callV (q := 28) hx hZ (a := b2) (argsL := []) (rest := []) hown (hw _ (List.mem_of_getElem? (i := 8) rfl)) (hw _ (List.mem_of_getElem? (i := 9) rfl)) (notFace_of_selects (args := #[]) (mvT hZ (hw _ (List.mem_of_getElem? (i := 11) rfl)))) (hw _ (List.mem_of_getElem? (i := 11) rfl)) (hw _ (List.mem_of_getElem? (i := 10) rfl)) (hw _ (List.mem_of_getElem? (i := 6) rfl)) (hw _ (List.mem_of_getElem? (i := 12) rfl)) (by decide) E2 (rm2 l Z a0 hw b2 b0 b1 b2 h0 n0 Z0 S0 S1 S2) (by rw [hml]; rfl) pd_1 rfl rfl (hb hby at_25) rfl (by decide) (Nat.le_of_ble_eq_true rfl) (ce' := 0) (sl' := 0) rfl rfl (by decide) (by decide) (fun v17 h18 hQ19 => ?_)
    obtain ⟨rfl, rfl⟩ := hQ19
    have q2 : isN b2 b0 b1 b2 = (1 : Int32) := by simp [isN, ne2_0, ne2_1]
    rw [q2]
    show Go _ _ _ _ _ _ _ _ _ _ _ _ _ _ _ 0 0 28 #[.val (.int p1), .val (.int (2 : Int32)), .val (.ref b2), .val (.int (1 : Int32))] [(.int (1 : Int32))]
    refine Go.iloadN (q := 29) hx (hb hby at_28) rfl rfl ?_
    refine Go.icmp_ne (q := 32) (t := 36) hx (hb hby at_29) (by decide) rfl rfl (fun hc29 => absurd rfl hc29) (fun hc29 => ?_)
    refine Go.iconst (q := 33) (z := (1 : Int32)) hx (hb hby at_32) rfl rfl ?_
    refine Go.goto (q := 37) hx (hb hby at_33) (by decide) rfl ?_
    refine Go.retN hx (t := .boolean) hret (by simp) hlk (hb hby at_37) (by decide) (by decide) ?_
    rfl
  · rw [hk1]
    refine Go.istoreN (q := 8) (l' := #[.val (.int p1), .val (.int (3 : Int32)), .unset, .unset]) hx (hb hby at_7) rfl rfl ?_
    refine Go.iloadN (q := 9) hx (hb hby at_8) rfl rfl ?_
    refine Go.callS (q := 12) hx hZ (argsL := [(.int (3 : Int32))]) (rest := []) hown (hw _ (List.mem_of_getElem? (i := 1) rfl)) (hw _ (List.mem_of_getElem? (i := 2) rfl)) (hw _ (List.mem_of_getElem? (i := 3) rfl)) (hw _ (List.mem_of_getElem? (i := 4) rfl)) (by decide) (rm1 l Z a0 hw (3 : Int32) b0 b1 b2 b3 b4 b5 b6 b7 b8 h0 n0 Z0 S0 S1 S2 S3 S4 S5 S6 S7 S8) (by rw [hml]; rfl) pd_0 rfl rfl (hb hby at_9) rfl (by decide) (Nat.le_of_ble_eq_true rfl) (ce' := 0) (sl' := 0) rfl rfl (by decide) (by decide) (fun v20 h21 hQ22 => ?_)
    obtain ⟨rfl, rfl⟩ := hQ22
    show Go _ _ _ _ _ _ _ _ _ _ _ _ _ _ _ 0 0 12 #[.val (.int p1), .val (.int (3 : Int32)), .unset, .unset] [(.ref b3)]
    refine Go.astoreN (q := 13) (l' := #[.val (.int p1), .val (.int (3 : Int32)), .val (.ref b3), .unset]) hx (hb hby at_12) (by rfl) rfl rfl ?_
    refine Go.iloadN (q := 14) hx (hb hby at_13) rfl rfl ?_
    refine Go.iconst (q := 15) (z := (2 : Int32)) hx (hb hby at_14) rfl rfl ?_
    refine Go.icmp_gt (q := 18) (t := 22) hx (hb hby at_15) (by decide) rfl rfl (fun hc15 => ?_) (fun hc15 => absurd hc15 (by decide))
    refine Go.iconst (q := 23) (z := (0 : Int32)) hx (hb hby at_22) rfl rfl ?_
    refine Go.istoreN (q := 24) (l' := #[.val (.int p1), .val (.int (3 : Int32)), .val (.ref b3), .val (.int (0 : Int32))]) hx (hb hby at_23) rfl rfl ?_
    refine Go.aloadN (q := 25) hx (hb hby at_24) rfl (by rfl) rfl ?_
    refine Go.callV (q := 28) hx hZ (a := b3) (argsL := []) (rest := []) hown (hw _ (List.mem_of_getElem? (i := 8) rfl)) (hw _ (List.mem_of_getElem? (i := 9) rfl)) (notFace_of_selects (args := #[]) (mvT hZ (hw _ (List.mem_of_getElem? (i := 11) rfl)))) (hw _ (List.mem_of_getElem? (i := 11) rfl)) (hw _ (List.mem_of_getElem? (i := 10) rfl)) (hw _ (List.mem_of_getElem? (i := 6) rfl)) (hw _ (List.mem_of_getElem? (i := 12) rfl)) (by decide) E3 (rm2 l Z a0 hw b3 b0 b1 b2 h0 n0 Z0 S0 S1 S2) (by rw [hml]; rfl) pd_1 rfl rfl (hb hby at_25) rfl (by decide) (Nat.le_of_ble_eq_true rfl) (ce' := 0) (sl' := 0) rfl rfl (by decide) (by decide) (fun v23 h24 hQ25 => ?_)
    obtain ⟨rfl, rfl⟩ := hQ25
    have q2 : isN b3 b0 b1 b2 = (0 : Int32) := by simp [isN, ne3_0, ne3_1, ne3_2]
    rw [q2]
    show Go _ _ _ _ _ _ _ _ _ _ _ _ _ _ _ 0 0 28 #[.val (.int p1), .val (.int (3 : Int32)), .val (.ref b3), .val (.int (0 : Int32))] [(.int (0 : Int32))]
    refine Go.iloadN (q := 29) hx (hb hby at_28) rfl rfl ?_
    refine Go.icmp_ne (q := 32) (t := 36) hx (hb hby at_29) (by decide) rfl rfl (fun hc29 => absurd rfl hc29) (fun hc29 => ?_)
    refine Go.iconst (q := 33) (z := (1 : Int32)) hx (hb hby at_32) rfl rfl ?_
    refine Go.goto (q := 37) hx (hb hby at_33) (by decide) rfl ?_
    refine Go.retN hx (t := .boolean) hret (by simp) hlk (hb hby at_37) (by decide) (by decide) ?_
    rfl
  · rw [hk1]
    refine Go.istoreN (q := 8) (l' := #[.val (.int p1), .val (.int (4 : Int32)), .unset, .unset]) hx (hb hby at_7) rfl rfl ?_
    refine Go.iloadN (q := 9) hx (hb hby at_8) rfl rfl ?_
    refine Go.callS (q := 12) hx hZ (argsL := [(.int (4 : Int32))]) (rest := []) hown (hw _ (List.mem_of_getElem? (i := 1) rfl)) (hw _ (List.mem_of_getElem? (i := 2) rfl)) (hw _ (List.mem_of_getElem? (i := 3) rfl)) (hw _ (List.mem_of_getElem? (i := 4) rfl)) (by decide) (rm1 l Z a0 hw (4 : Int32) b0 b1 b2 b3 b4 b5 b6 b7 b8 h0 n0 Z0 S0 S1 S2 S3 S4 S5 S6 S7 S8) (by rw [hml]; rfl) pd_0 rfl rfl (hb hby at_9) rfl (by decide) (Nat.le_of_ble_eq_true rfl) (ce' := 0) (sl' := 0) rfl rfl (by decide) (by decide) (fun v26 h27 hQ28 => ?_)
    obtain ⟨rfl, rfl⟩ := hQ28
    show Go _ _ _ _ _ _ _ _ _ _ _ _ _ _ _ 0 0 12 #[.val (.int p1), .val (.int (4 : Int32)), .unset, .unset] [(.ref b4)]
    refine Go.astoreN (q := 13) (l' := #[.val (.int p1), .val (.int (4 : Int32)), .val (.ref b4), .unset]) hx (hb hby at_12) (by rfl) rfl rfl ?_
    refine Go.iloadN (q := 14) hx (hb hby at_13) rfl rfl ?_
    refine Go.iconst (q := 15) (z := (2 : Int32)) hx (hb hby at_14) rfl rfl ?_
    refine Go.icmp_gt (q := 18) (t := 22) hx (hb hby at_15) (by decide) rfl rfl (fun hc15 => ?_) (fun hc15 => absurd hc15 (by decide))
    refine Go.iconst (q := 23) (z := (0 : Int32)) hx (hb hby at_22) rfl rfl ?_
    refine Go.istoreN (q := 24) (l' := #[.val (.int p1), .val (.int (4 : Int32)), .val (.ref b4), .val (.int (0 : Int32))]) hx (hb hby at_23) rfl rfl ?_
    refine Go.aloadN (q := 25) hx (hb hby at_24) rfl (by rfl) rfl ?_
    refine Go.callV (q := 28) hx hZ (a := b4) (argsL := []) (rest := []) hown (hw _ (List.mem_of_getElem? (i := 8) rfl)) (hw _ (List.mem_of_getElem? (i := 9) rfl)) (notFace_of_selects (args := #[]) (mvT hZ (hw _ (List.mem_of_getElem? (i := 11) rfl)))) (hw _ (List.mem_of_getElem? (i := 11) rfl)) (hw _ (List.mem_of_getElem? (i := 10) rfl)) (hw _ (List.mem_of_getElem? (i := 6) rfl)) (hw _ (List.mem_of_getElem? (i := 12) rfl)) (by decide) E4 (rm2 l Z a0 hw b4 b0 b1 b2 h0 n0 Z0 S0 S1 S2) (by rw [hml]; rfl) pd_1 rfl rfl (hb hby at_25) rfl (by decide) (Nat.le_of_ble_eq_true rfl) (ce' := 0) (sl' := 0) rfl rfl (by decide) (by decide) (fun v29 h30 hQ31 => ?_)
    obtain ⟨rfl, rfl⟩ := hQ31
    have q2 : isN b4 b0 b1 b2 = (0 : Int32) := by simp [isN, ne4_0, ne4_1, ne4_2]
    rw [q2]
    show Go _ _ _ _ _ _ _ _ _ _ _ _ _ _ _ 0 0 28 #[.val (.int p1), .val (.int (4 : Int32)), .val (.ref b4), .val (.int (0 : Int32))] [(.int (0 : Int32))]
    refine Go.iloadN (q := 29) hx (hb hby at_28) rfl rfl ?_
    refine Go.icmp_ne (q := 32) (t := 36) hx (hb hby at_29) (by decide) rfl rfl (fun hc29 => absurd rfl hc29) (fun hc29 => ?_)
    refine Go.iconst (q := 33) (z := (1 : Int32)) hx (hb hby at_32) rfl rfl ?_
    refine Go.goto (q := 37) hx (hb hby at_33) (by decide) rfl ?_
    refine Go.retN hx (t := .boolean) hret (by simp) hlk (hb hby at_37) (by decide) (by decide) ?_
    rfl
  · rw [hk1]
    refine Go.istoreN (q := 8) (l' := #[.val (.int p1), .val (.int (5 : Int32)), .unset, .unset]) hx (hb hby at_7) rfl rfl ?_
    refine Go.iloadN (q := 9) hx (hb hby at_8) rfl rfl ?_
    refine Go.callS (q := 12) hx hZ (argsL := [(.int (5 : Int32))]) (rest := []) hown (hw _ (List.mem_of_getElem? (i := 1) rfl)) (hw _ (List.mem_of_getElem? (i := 2) rfl)) (hw _ (List.mem_of_getElem? (i := 3) rfl)) (hw _ (List.mem_of_getElem? (i := 4) rfl)) (by decide) (rm1 l Z a0 hw (5 : Int32) b0 b1 b2 b3 b4 b5 b6 b7 b8 h0 n0 Z0 S0 S1 S2 S3 S4 S5 S6 S7 S8) (by rw [hml]; rfl) pd_0 rfl rfl (hb hby at_9) rfl (by decide) (Nat.le_of_ble_eq_true rfl) (ce' := 0) (sl' := 0) rfl rfl (by decide) (by decide) (fun v32 h33 hQ34 => ?_)
    obtain ⟨rfl, rfl⟩ := hQ34
    show Go _ _ _ _ _ _ _ _ _ _ _ _ _ _ _ 0 0 12 #[.val (.int p1), .val (.int (5 : Int32)), .unset, .unset] [(.ref b5)]
    refine Go.astoreN (q := 13) (l' := #[.val (.int p1), .val (.int (5 : Int32)), .val (.ref b5), .unset]) hx (hb hby at_12) (by rfl) rfl rfl ?_
    refine Go.iloadN (q := 14) hx (hb hby at_13) rfl rfl ?_
    refine Go.iconst (q := 15) (z := (2 : Int32)) hx (hb hby at_14) rfl rfl ?_
    refine Go.icmp_gt (q := 18) (t := 22) hx (hb hby at_15) (by decide) rfl rfl (fun hc15 => ?_) (fun hc15 => absurd hc15 (by decide))
    refine Go.iconst (q := 23) (z := (0 : Int32)) hx (hb hby at_22) rfl rfl ?_
    refine Go.istoreN (q := 24) (l' := #[.val (.int p1), .val (.int (5 : Int32)), .val (.ref b5), .val (.int (0 : Int32))]) hx (hb hby at_23) rfl rfl ?_
    refine Go.aloadN (q := 25) hx (hb hby at_24) rfl (by rfl) rfl ?_
    refine Go.callV (q := 28) hx hZ (a := b5) (argsL := []) (rest := []) hown (hw _ (List.mem_of_getElem? (i := 8) rfl)) (hw _ (List.mem_of_getElem? (i := 9) rfl)) (notFace_of_selects (args := #[]) (mvT hZ (hw _ (List.mem_of_getElem? (i := 11) rfl)))) (hw _ (List.mem_of_getElem? (i := 11) rfl)) (hw _ (List.mem_of_getElem? (i := 10) rfl)) (hw _ (List.mem_of_getElem? (i := 6) rfl)) (hw _ (List.mem_of_getElem? (i := 12) rfl)) (by decide) E5 (rm2 l Z a0 hw b5 b0 b1 b2 h0 n0 Z0 S0 S1 S2) (by rw [hml]; rfl) pd_1 rfl rfl (hb hby at_25) rfl (by decide) (Nat.le_of_ble_eq_true rfl) (ce' := 0) (sl' := 0) rfl rfl (by decide) (by decide) (fun v35 h36 hQ37 => ?_)
    obtain ⟨rfl, rfl⟩ := hQ37
    have q2 : isN b5 b0 b1 b2 = (0 : Int32) := by simp [isN, ne5_0, ne5_1, ne5_2]
    rw [q2]
    show Go _ _ _ _ _ _ _ _ _ _ _ _ _ _ _ 0 0 28 #[.val (.int p1), .val (.int (5 : Int32)), .val (.ref b5), .val (.int (0 : Int32))] [(.int (0 : Int32))]
    refine Go.iloadN (q := 29) hx (hb hby at_28) rfl rfl ?_
    refine Go.icmp_ne (q := 32) (t := 36) hx (hb hby at_29) (by decide) rfl rfl (fun hc29 => absurd rfl hc29) (fun hc29 => ?_)
    refine Go.iconst (q := 33) (z := (1 : Int32)) hx (hb hby at_32) rfl rfl ?_
    refine Go.goto (q := 37) hx (hb hby at_33) (by decide) rfl ?_
    refine Go.retN hx (t := .boolean) hret (by simp) hlk (hb hby at_37) (by decide) (by decide) ?_
    rfl
  · rw [hk1]
    refine Go.istoreN (q := 8) (l' := #[.val (.int p1), .val (.int (6 : Int32)), .unset, .unset]) hx (hb hby at_7) rfl rfl ?_
    refine Go.iloadN (q := 9) hx (hb hby at_8) rfl rfl ?_
    refine Go.callS (q := 12) hx hZ (argsL := [(.int (6 : Int32))]) (rest := []) hown (hw _ (List.mem_of_getElem? (i := 1) rfl)) (hw _ (List.mem_of_getElem? (i := 2) rfl)) (hw _ (List.mem_of_getElem? (i := 3) rfl)) (hw _ (List.mem_of_getElem? (i := 4) rfl)) (by decide) (rm1 l Z a0 hw (6 : Int32) b0 b1 b2 b3 b4 b5 b6 b7 b8 h0 n0 Z0 S0 S1 S2 S3 S4 S5 S6 S7 S8) (by rw [hml]; rfl) pd_0 rfl rfl (hb hby at_9) rfl (by decide) (Nat.le_of_ble_eq_true rfl) (ce' := 0) (sl' := 0) rfl rfl (by decide) (by decide) (fun v38 h39 hQ40 => ?_)
    obtain ⟨rfl, rfl⟩ := hQ40
    show Go _ _ _ _ _ _ _ _ _ _ _ _ _ _ _ 0 0 12 #[.val (.int p1), .val (.int (6 : Int32)), .unset, .unset] [(.ref b6)]
    refine Go.astoreN (q := 13) (l' := #[.val (.int p1), .val (.int (6 : Int32)), .val (.ref b6), .unset]) hx (hb hby at_12) (by rfl) rfl rfl ?_
    refine Go.iloadN (q := 14) hx (hb hby at_13) rfl rfl ?_
    refine Go.iconst (q := 15) (z := (2 : Int32)) hx (hb hby at_14) rfl rfl ?_
    refine Go.icmp_gt (q := 18) (t := 22) hx (hb hby at_15) (by decide) rfl rfl (fun hc15 => ?_) (fun hc15 => absurd hc15 (by decide))
    refine Go.iconst (q := 23) (z := (0 : Int32)) hx (hb hby at_22) rfl rfl ?_
    refine Go.istoreN (q := 24) (l' := #[.val (.int p1), .val (.int (6 : Int32)), .val (.ref b6), .val (.int (0 : Int32))]) hx (hb hby at_23) rfl rfl ?_
    refine Go.aloadN (q := 25) hx (hb hby at_24) rfl (by rfl) rfl ?_
    refine Go.callV (q := 28) hx hZ (a := b6) (argsL := []) (rest := []) hown (hw _ (List.mem_of_getElem? (i := 8) rfl)) (hw _ (List.mem_of_getElem? (i := 9) rfl)) (notFace_of_selects (args := #[]) (mvT hZ (hw _ (List.mem_of_getElem? (i := 11) rfl)))) (hw _ (List.mem_of_getElem? (i := 11) rfl)) (hw _ (List.mem_of_getElem? (i := 10) rfl)) (hw _ (List.mem_of_getElem? (i := 6) rfl)) (hw _ (List.mem_of_getElem? (i := 12) rfl)) (by decide) E6 (rm2 l Z a0 hw b6 b0 b1 b2 h0 n0 Z0 S0 S1 S2) (by rw [hml]; rfl) pd_1 rfl rfl (hb hby at_25) rfl (by decide) (Nat.le_of_ble_eq_true rfl) (ce' := 0) (sl' := 0) rfl rfl (by decide) (by decide) (fun v41 h42 hQ43 => ?_)
    obtain ⟨rfl, rfl⟩ := hQ43
    have q2 : isN b6 b0 b1 b2 = (0 : Int32) := by simp [isN, ne6_0, ne6_1, ne6_2]
    rw [q2]
    show Go _ _ _ _ _ _ _ _ _ _ _ _ _ _ _ 0 0 28 #[.val (.int p1), .val (.int (6 : Int32)), .val (.ref b6), .val (.int (0 : Int32))] [(.int (0 : Int32))]
    refine Go.iloadN (q := 29) hx (hb hby at_28) rfl rfl ?_
    refine Go.icmp_ne (q := 32) (t := 36) hx (hb hby at_29) (by decide) rfl rfl (fun hc29 => absurd rfl hc29) (fun hc29 => ?_)
    refine Go.iconst (q := 33) (z := (1 : Int32)) hx (hb hby at_32) rfl rfl ?_
    refine Go.goto (q := 37) hx (hb hby at_33) (by decide) rfl ?_
    refine Go.retN hx (t := .boolean) hret (by simp) hlk (hb hby at_37) (by decide) (by decide) ?_
    rfl
  · rw [hk1]
    refine Go.istoreN (q := 8) (l' := #[.val (.int p1), .val (.int (7 : Int32)), .unset, .unset]) hx (hb hby at_7) rfl rfl ?_
    refine Go.iloadN (q := 9) hx (hb hby at_8) rfl rfl ?_
    refine Go.callS (q := 12) hx hZ (argsL := [(.int (7 : Int32))]) (rest := []) hown (hw _ (List.mem_of_getElem? (i := 1) rfl)) (hw _ (List.mem_of_getElem? (i := 2) rfl)) (hw _ (List.mem_of_getElem? (i := 3) rfl)) (hw _ (List.mem_of_getElem? (i := 4) rfl)) (by decide) (rm1 l Z a0 hw (7 : Int32) b0 b1 b2 b3 b4 b5 b6 b7 b8 h0 n0 Z0 S0 S1 S2 S3 S4 S5 S6 S7 S8) (by rw [hml]; rfl) pd_0 rfl rfl (hb hby at_9) rfl (by decide) (Nat.le_of_ble_eq_true rfl) (ce' := 0) (sl' := 0) rfl rfl (by decide) (by decide) (fun v44 h45 hQ46 => ?_)
    obtain ⟨rfl, rfl⟩ := hQ46
    show Go _ _ _ _ _ _ _ _ _ _ _ _ _ _ _ 0 0 12 #[.val (.int p1), .val (.int (7 : Int32)), .unset, .unset] [(.ref b7)]
    refine Go.astoreN (q := 13) (l' := #[.val (.int p1), .val (.int (7 : Int32)), .val (.ref b7), .unset]) hx (hb hby at_12) (by rfl) rfl rfl ?_
    refine Go.iloadN (q := 14) hx (hb hby at_13) rfl rfl ?_
    refine Go.iconst (q := 15) (z := (2 : Int32)) hx (hb hby at_14) rfl rfl ?_
    refine Go.icmp_gt (q := 18) (t := 22) hx (hb hby at_15) (by decide) rfl rfl (fun hc15 => ?_) (fun hc15 => absurd hc15 (by decide))
    refine Go.iconst (q := 23) (z := (0 : Int32)) hx (hb hby at_22) rfl rfl ?_
    refine Go.istoreN (q := 24) (l' := #[.val (.int p1), .val (.int (7 : Int32)), .val (.ref b7), .val (.int (0 : Int32))]) hx (hb hby at_23) rfl rfl ?_
    refine Go.aloadN (q := 25) hx (hb hby at_24) rfl (by rfl) rfl ?_
    refine Go.callV (q := 28) hx hZ (a := b7) (argsL := []) (rest := []) hown (hw _ (List.mem_of_getElem? (i := 8) rfl)) (hw _ (List.mem_of_getElem? (i := 9) rfl)) (notFace_of_selects (args := #[]) (mvT hZ (hw _ (List.mem_of_getElem? (i := 11) rfl)))) (hw _ (List.mem_of_getElem? (i := 11) rfl)) (hw _ (List.mem_of_getElem? (i := 10) rfl)) (hw _ (List.mem_of_getElem? (i := 6) rfl)) (hw _ (List.mem_of_getElem? (i := 12) rfl)) (by decide) E7 (rm2 l Z a0 hw b7 b0 b1 b2 h0 n0 Z0 S0 S1 S2) (by rw [hml]; rfl) pd_1 rfl rfl (hb hby at_25) rfl (by decide) (Nat.le_of_ble_eq_true rfl) (ce' := 0) (sl' := 0) rfl rfl (by decide) (by decide) (fun v47 h48 hQ49 => ?_)
    obtain ⟨rfl, rfl⟩ := hQ49
    have q2 : isN b7 b0 b1 b2 = (0 : Int32) := by simp [isN, ne7_0, ne7_1, ne7_2]
    rw [q2]
    show Go _ _ _ _ _ _ _ _ _ _ _ _ _ _ _ 0 0 28 #[.val (.int p1), .val (.int (7 : Int32)), .val (.ref b7), .val (.int (0 : Int32))] [(.int (0 : Int32))]
    refine Go.iloadN (q := 29) hx (hb hby at_28) rfl rfl ?_
    refine Go.icmp_ne (q := 32) (t := 36) hx (hb hby at_29) (by decide) rfl rfl (fun hc29 => absurd rfl hc29) (fun hc29 => ?_)
    refine Go.iconst (q := 33) (z := (1 : Int32)) hx (hb hby at_32) rfl rfl ?_
    refine Go.goto (q := 37) hx (hb hby at_33) (by decide) rfl ?_
    refine Go.retN hx (t := .boolean) hret (by simp) hlk (hb hby at_37) (by decide) (by decide) ?_
    rfl
  · rw [hk1]
    refine Go.istoreN (q := 8) (l' := #[.val (.int p1), .val (.int (8 : Int32)), .unset, .unset]) hx (hb hby at_7) rfl rfl ?_
    refine Go.iloadN (q := 9) hx (hb hby at_8) rfl rfl ?_
    refine Go.callS (q := 12) hx hZ (argsL := [(.int (8 : Int32))]) (rest := []) hown (hw _ (List.mem_of_getElem? (i := 1) rfl)) (hw _ (List.mem_of_getElem? (i := 2) rfl)) (hw _ (List.mem_of_getElem? (i := 3) rfl)) (hw _ (List.mem_of_getElem? (i := 4) rfl)) (by decide) (rm1 l Z a0 hw (8 : Int32) b0 b1 b2 b3 b4 b5 b6 b7 b8 h0 n0 Z0 S0 S1 S2 S3 S4 S5 S6 S7 S8) (by rw [hml]; rfl) pd_0 rfl rfl (hb hby at_9) rfl (by decide) (Nat.le_of_ble_eq_true rfl) (ce' := 0) (sl' := 0) rfl rfl (by decide) (by decide) (fun v50 h51 hQ52 => ?_)
    obtain ⟨rfl, rfl⟩ := hQ52
    show Go _ _ _ _ _ _ _ _ _ _ _ _ _ _ _ 0 0 12 #[.val (.int p1), .val (.int (8 : Int32)), .unset, .unset] [(.ref b8)]
    refine Go.astoreN (q := 13) (l' := #[.val (.int p1), .val (.int (8 : Int32)), .val (.ref b8), .unset]) hx (hb hby at_12) (by rfl) rfl rfl ?_
    refine Go.iloadN (q := 14) hx (hb hby at_13) rfl rfl ?_
    refine Go.iconst (q := 15) (z := (2 : Int32)) hx (hb hby at_14) rfl rfl ?_
    refine Go.icmp_gt (q := 18) (t := 22) hx (hb hby at_15) (by decide) rfl rfl (fun hc15 => ?_) (fun hc15 => absurd hc15 (by decide))
    refine Go.iconst (q := 23) (z := (0 : Int32)) hx (hb hby at_22) rfl rfl ?_
    refine Go.istoreN (q := 24) (l' := #[.val (.int p1), .val (.int (8 : Int32)), .val (.ref b8), .val (.int (0 : Int32))]) hx (hb hby at_23) rfl rfl ?_
    refine Go.aloadN (q := 25) hx (hb hby at_24) rfl (by rfl) rfl ?_
    refine Go.callV (q := 28) hx hZ (a := b8) (argsL := []) (rest := []) hown (hw _ (List.mem_of_getElem? (i := 8) rfl)) (hw _ (List.mem_of_getElem? (i := 9) rfl)) (notFace_of_selects (args := #[]) (mvT hZ (hw _ (List.mem_of_getElem? (i := 11) rfl)))) (hw _ (List.mem_of_getElem? (i := 11) rfl)) (hw _ (List.mem_of_getElem? (i := 10) rfl)) (hw _ (List.mem_of_getElem? (i := 6) rfl)) (hw _ (List.mem_of_getElem? (i := 12) rfl)) (by decide) E8 (rm2 l Z a0 hw b8 b0 b1 b2 h0 n0 Z0 S0 S1 S2) (by rw [hml]; rfl) pd_1 rfl rfl (hb hby at_25) rfl (by decide) (Nat.le_of_ble_eq_true rfl) (ce' := 0) (sl' := 0) rfl rfl (by decide) (by decide) (fun v53 h54 hQ55 => ?_)
    obtain ⟨rfl, rfl⟩ := hQ55
    have q2 : isN b8 b0 b1 b2 = (0 : Int32) := by simp [isN, ne8_0, ne8_1, ne8_2]
    rw [q2]
    show Go _ _ _ _ _ _ _ _ _ _ _ _ _ _ _ 0 0 28 #[.val (.int p1), .val (.int (8 : Int32)), .val (.ref b8), .val (.int (0 : Int32))] [(.int (0 : Int32))]
    refine Go.iloadN (q := 29) hx (hb hby at_28) rfl rfl ?_
    refine Go.icmp_ne (q := 32) (t := 36) hx (hb hby at_29) (by decide) rfl rfl (fun hc29 => absurd rfl hc29) (fun hc29 => ?_)
    refine Go.iconst (q := 33) (z := (1 : Int32)) hx (hb hby at_32) rfl rfl ?_
    refine Go.goto (q := 37) hx (hb hby at_33) (by decide) rfl ?_
    refine Go.retN hx (t := .boolean) hret (by simp) hlk (hb hby at_37) (by decide) (by decide) ?_
    rfl
set_option maxRecDepth 65536 in
set_option maxHeartbeats 40000000 in
theorem comes_1 {Post : Tables → Env → Array Value → State → Outcome → State → Prop} (hpost : ∀ tb e args s v u, (limb_1_1.after args s (.returned v) u = true ∧ limb_1_2.after args s (.returned v) u = true ∧ True) → FrameEnd s (.returned v) u (Jvm.fieldLocs frame_1_writes args s ++ Jvm.arrayLocs frame_1_arrays args s ++ Jvm.staticLocs frame_1_statics s) 0 0 → Post tb e args s (.returned v) u) :
    ArmFor flags0 classFile x code maxLocals ret World_1 tables_1 room_1 Calls_1 rest_1 Pre_1 Post := by
  intro l hfl _ _ p e ha hc hk s m args below hf hA hF happ hP
  obtain ⟨hcalls, hrest, hpre⟩ := hP
  obtain ⟨-, -, -, hnamed, -, -, -, hat⟩ := (Spec.applies_iff hf).mp happ
  obtain ⟨hg, hn⟩ := and_e (Cond.before_iff.mp (show (Jvm.Cond.and given_1 narrow_1).before args s = true from hpre))
  obtain ⟨hcnt, hk0⟩ := and_e hg
  obtain ⟨w0, rfl⟩ : ∃ w0 : Value, args = #[w0] := by
    have hs : args.size = 1 := by simpa [Cond.value, given_1] using hcnt
    obtain ⟨L⟩ := args
    match L, hs with
    | [w0], _ => exact ⟨w0, rfl⟩
  have hw := fun d (hd : d ∈ tables_1) => atoms_spec (ws := Jvm.Cond.code x code maxLocals ret :: tables_1) hat d (List.mem_cons_of_mem _ hd)
  have hfit : Fit s := fun {y c} hc i hi => by
    obtain ⟨ha, rfl⟩ := Array.getElem?_eq_some_iff.mp hc
    have q := List.all_eq_true.mp ((Array.all_eq_true_iff_forall_mem.mp hF) _ (Array.getElem_mem ha)) i (List.mem_range.mpr hi)
    simpa [Array.getElem?_eq_getElem hi] using q
  obtain ⟨i0, ei0⟩ := is_v hk0
  obtain rfl : w0 = (.int i0) := Option.some.inj ei0
  have q0 := hn
  obtain ⟨z0, q1⟩ := and_e q0
  obtain ⟨z1, q2⟩ := and_e q1
  obtain ⟨z2, q3⟩ := and_e q2
  obtain ⟨z3, q4⟩ := and_e q3
  obtain ⟨z4, q5⟩ := and_e q4
  obtain ⟨z5, q6⟩ := and_e q5
  obtain ⟨z6, q7⟩ := and_e q6
  obtain ⟨z7, q8⟩ := and_e q7
  obtain ⟨z8, q9⟩ := and_e q8
  obtain ⟨z9, q10⟩ := and_e q9
  obtain ⟨z10, q11⟩ := and_e q10
  obtain ⟨z11, q12⟩ := and_e q11
  obtain ⟨z12, q13⟩ := and_e q12
  obtain ⟨z13, q14⟩ := and_e q13
  obtain ⟨z14, q15⟩ := and_e q14
  obtain ⟨z15, q16⟩ := and_e q15
  obtain ⟨z16, q17⟩ := and_e q16
  obtain ⟨b0, v0⟩ := exa_v z0
  have E0 := Exa.start v0 z0
  have F0 := Fld.start (ord_at z3 v0)
  have S0 := Sta.start v0 (Or.inr ⟨(hw _ (List.mem_of_getElem? (i := 6) rfl)), (hw _ (List.mem_of_getElem? (i := 7) rfl))⟩)
  obtain ⟨b1, v1⟩ := exa_v z4
  have E1 := Exa.start v1 z4
  have F1 := Fld.start (ord_at z5 v1)
  have S1 := Sta.start v1 (Or.inr ⟨(hw _ (List.mem_of_getElem? (i := 6) rfl)), (hw _ (List.mem_of_getElem? (i := 17) rfl))⟩)
  obtain ⟨b2, v2⟩ := exa_v z6
  have E2 := Exa.start v2 z6
  have F2 := Fld.start (ord_at z7 v2)
  have S2 := Sta.start v2 (Or.inr ⟨(hw _ (List.mem_of_getElem? (i := 6) rfl)), (hw _ (List.mem_of_getElem? (i := 19) rfl))⟩)
  obtain ⟨b3, v3⟩ := exa_v z1
  have E3 := Exa.start v3 z1
  have F3 := Fld.start (ord_at z2 v3)
  have S3 := Sta.start v3 (Or.inr ⟨(hw _ (List.mem_of_getElem? (i := 6) rfl)), (hw _ (List.mem_of_getElem? (i := 15) rfl))⟩)
  obtain ⟨b4, v4⟩ := exa_v z10
  have E4 := Exa.start v4 z10
  have F4 := Fld.start (ord_at z11 v4)
  have S4 := Sta.start v4 (Or.inr ⟨(hw _ (List.mem_of_getElem? (i := 6) rfl)), (hw _ (List.mem_of_getElem? (i := 25) rfl))⟩)
  obtain ⟨b5, v5⟩ := exa_v z16
  have E5 := Exa.start v5 z16
  have F5 := Fld.start (ord_at q17 v5)
  have S5 := Sta.start v5 (Or.inr ⟨(hw _ (List.mem_of_getElem? (i := 6) rfl)), (hw _ (List.mem_of_getElem? (i := 31) rfl))⟩)
  obtain ⟨b6, v6⟩ := exa_v z14
  have E6 := Exa.start v6 z14
  have F6 := Fld.start (ord_at z15 v6)
  have S6 := Sta.start v6 (Or.inr ⟨(hw _ (List.mem_of_getElem? (i := 6) rfl)), (hw _ (List.mem_of_getElem? (i := 29) rfl))⟩)
  obtain ⟨b7, v7⟩ := exa_v z8
  have E7 := Exa.start v7 z8
  have F7 := Fld.start (ord_at z9 v7)
  have S7 := Sta.start v7 (Or.inr ⟨(hw _ (List.mem_of_getElem? (i := 6) rfl)), (hw _ (List.mem_of_getElem? (i := 23) rfl))⟩)
  obtain ⟨b8, v8⟩ := exa_v z12
  have E8 := Exa.start v8 z12
  have F8 := Fld.start (ord_at z13 v8)
  have S8 := Sta.start v8 (Or.inr ⟨(hw _ (List.mem_of_getElem? (i := 6) rfl)), (hw _ (List.mem_of_getElem? (i := 27) rfl))⟩)
  obtain ⟨n, o, h1, h2, h3, _, L, rfl, ⟨rfl, N⟩, hq⟩ := rm0 l s _ hw i0 b0 b1 b2 b3 b4 b5 b6 b7 b8 s.heap s.heap.size (Nat.le_refl _) S0 S1 S2 S3 S4 S5 S6 S7 S8 E0 F0 E1 F1 E2 F2 E3 F3 E4 F4 E5 F5 E6 F6 E7 F7 E8 F8 p e ha hc hk s m _ below hf ((Spec.applies_iff_loose hf).mp happ).1 ⟨rfl, State.Warmed39.refl s, rfl⟩ trivial
  refine ⟨n, _, h1, h2, h3, hpost _ _ _ _ _ _ ⟨Cond.after_iff.mpr rfl, Cond.after_iff.mpr (eq_i res_at (Term.int_eval (1)) rfl), trivial⟩ ⟨hq.1, hq.2.1, (hq.2.2.sift fun y hy => Or.inr (N y hy)).mono (by decide) (by decide)⟩⟩
theorem main_1_1 : Claimed_1_1 := comes_1 fun _ _ _ _ _ _ h hF => ⟨h.1, hF⟩
theorem main_1_2 : Claimed_1_2 := comes_1 fun _ _ _ _ _ _ h hF => ⟨h.2.1, hF⟩
end Jvm.Pilot.@@N@@
namespace Jvm.Pilot.@@N@@
open Jvm Jvm.ClassFile Sem Op Lib Jvm.Free Jvm.Stand Jvm.Pilot.@@N@@.Jvm.D
/-! MADE BY PROGRAM (witnessworld.py) out of the Statement's table words and the real class files: 12 classes; the members and pool entries that the words name. The judged class is class 1, her method 1. -/
namespace start1
open Jvm.ClassFile
def u (s : String) : CpInfo := .utf8 (stringToUtf16 s)
/-- a pool by its gaps: so many unusable entries, then the entry; so many at the end -/
def gap : Nat → List CpInfo → List CpInfo
  | 0, r => r
  | n + 1, r => .unusable :: gap n r
def poolList (es : List (Nat × CpInfo)) (last : Nat) : List CpInfo := es.foldr (fun e r => gap e.1 (e.2 :: r)) (gap last [])
def pool (es : List (Nat × CpInfo)) (last : Nat) : Array CpInfo := ⟨poolList es last⟩
def fileOf (pool : Array CpInfo) (this : Nat) (attrs : Array Attribute := #[]) (ms : Array MethodInfo := #[]) (fl : Nat := 33) (sup : Nat := 0) (ifs : Array Nat := #[]) (fds : Array FieldInfo := #[]) : ClassFile where
  minorVersion := 0
  majorVersion := 65
  constantPool := pool
  accessFlags := fl
  thisClass := this
  superClass := sup
  interfaces := ifs
  fields := fds
  methods := ms
  attributes := attrs
def plain (name : String) (sup : Option ClassId) : Class where
  name := name
  kind := .ordinary
  loader := none
  accessFlags := 33
  super := sup
  interfaces := #[]
  cf := none
  fields := #[]
  methods := #[]
  instanceTypes := #[]
  staticTypes := #[]
  resolved := #[]
  callSites := []
  init := .initialized
  statics := none
  mirror := none

def pool0 : Array CpInfo := pool [(5, u "<init>"), (0, u "()V"), (1, .class_ 10), (1, u "java/lang/Object")] 113

def k0m0 : Method := { name := "<init>", desc := "()V", sig := { parameters := [], returnType := none }, accessFlags := 1, code := none }
/-- java/lang/Object -/
def k0 : Class := { plain "java/lang/Object" none with
  accessFlags := 33
  interfaces := #[]
  cf := some (fileOf pool0 8 #[] #[{ accessFlags := 1, nameIndex := 5, descriptorIndex := 6, attributes := #[] }] 33 0 #[] #[])
  fields := #[]
  methods := #[k0m0]
  instanceTypes := #[]
  staticTypes := #[]
  resolved := Array.replicate 124 none
  statics := none }

def pool1 : Array CpInfo := pool [(2, .class_ 4), (1, u "java/lang/Object"), (0, u "<init>"), (0, u "()V"), (0, .integer 2147483647), (0, .methodref 9 10), (0, .class_ 11), (0, .nameAndType 12 13), (0, u "com/example/resolvent/resolvent/term/KindIsNamePinLaw"), (0, u "pick"), (0, u "(I)Lcom/example/resolvent/resolvent/term/Token$Kind;"), (0, .methodref 15 16), (0, .class_ 17), (0, .nameAndType 18 19), (0, u "com/example/resolvent/resolvent/term/Token$Kind"), (0, u "isName"), (0, u "()Z"), (0, .fieldref 15 21), (0, .nameAndType 22 23), (0, u "NAME"), (0, u "Lcom/example/resolvent/resolvent/term/Token$Kind;"), (0, .fieldref 15 25), (0, .nameAndType 26 23), (0, u "QUOTED_NAME"), (0, .fieldref 15 28), (0, .nameAndType 29 23), (0, u "DEFINED_WORD"), (0, .fieldref 15 31), (0, .nameAndType 32 23), (0, u "VARIABLE"), (0, .fieldref 15 34), (0, .nameAndType 35 23), (0, u "INTEGER"), (0, .fieldref 15 37), (0, .nameAndType 38 23), (0, u "PUNCTUATION"), (0, .fieldref 15 40), (0, .nameAndType 41 23), (0, u "CODE_LIST"), (0, .fieldref 15 43), (0, .nameAndType 44 23), (0, u "FULL_STOP"), (0, .fieldref 15 46), (0, .nameAndType 47 23), (0, u "END"), (2, u "law"), (0, u "(I)Z")] 7

def k1m0 : Method := { name := "<init>", desc := "()V", sig := { parameters := [], returnType := none }, accessFlags := 1, code := none }
def k1c1 : Code := { maxStack := 2, maxLocals := 4, code := code, exceptionTable := #[], attributes := #[] }
def k1m1 : Method := { name := "law", desc := "(I)Z", sig := { parameters := [.int], returnType := some .boolean }, accessFlags := 9, code := some k1c1 }
def k1c2 : Code := { maxStack := 2, maxLocals := 1, code := method_3_code, exceptionTable := #[], attributes := #[] }
def k1m2 : Method := { name := "pick", desc := "(I)Lcom/example/resolvent/resolvent/term/Token$Kind;", sig := { parameters := [.int], returnType := some (.object "com/example/resolvent/resolvent/term/Token$Kind") }, accessFlags := 10, code := some k1c2 }
/-- com/example/resolvent/resolvent/term/KindIsNamePinLaw -/
def k1 : Class := { plain "com/example/resolvent/resolvent/term/KindIsNamePinLaw" (some 0) with
  accessFlags := 49
  interfaces := #[]
  cf := some (fileOf pool1 9 #[] #[{ accessFlags := 1, nameIndex := 5, descriptorIndex := 6, attributes := #[] }, { accessFlags := 9, nameIndex := 50, descriptorIndex := 51, attributes := #[] }, { accessFlags := 10, nameIndex := 12, descriptorIndex := 13, attributes := #[] }] 49 2 #[] #[])
  fields := #[]
  methods := #[k1m0, k1m1, k1m2]
  instanceTypes := #[]
  staticTypes := #[]
  resolved := Array.replicate 59 none
  statics := none }

def pool2 : Array CpInfo := pool [(1, .class_ 2), (0, u "java/lang/constant/Constable"), (0, .class_ 4), (0, u "java/lang/Object")] 6

/-- java/lang/constant/Constable -/
def k2 : Class := { plain "java/lang/constant/Constable" (some 0) with
  accessFlags := 1537
  interfaces := #[]
  cf := some (fileOf pool2 1 #[] #[] 1537 3 #[] #[])
  fields := #[]
  methods := #[]
  instanceTypes := #[]
  staticTypes := #[]
  resolved := Array.replicate 11 none
  statics := none }

def pool3 : Array CpInfo := pool [(1, .class_ 2), (0, u "java/lang/Comparable"), (0, .class_ 4), (0, u "java/lang/Object")] 7

/-- java/lang/Comparable -/
def k3 : Class := { plain "java/lang/Comparable" (some 0) with
  accessFlags := 1537
  interfaces := #[]
  cf := some (fileOf pool3 1 #[] #[] 1537 3 #[] #[])
  fields := #[]
  methods := #[]
  instanceTypes := #[]
  staticTypes := #[]
  resolved := Array.replicate 12 none
  statics := none }

def pool4 : Array CpInfo := pool [(1, .class_ 2), (0, u "java/io/Serializable"), (0, .class_ 4), (0, u "java/lang/Object")] 2

/-- java/io/Serializable -/
def k4 : Class := { plain "java/io/Serializable" (some 0) with
  accessFlags := 1537
  interfaces := #[]
  cf := some (fileOf pool4 1 #[] #[] 1537 3 #[] #[])
  fields := #[]
  methods := #[]
  instanceTypes := #[]
  staticTypes := #[]
  resolved := Array.replicate 7 none
  statics := none }

def pool5 : Array CpInfo := pool [(2, .class_ 4), (1, u "java/lang/Enum"), (0, u "name"), (0, u "Ljava/lang/String;"), (2, u "ordinal"), (0, u "I"), (1, .class_ 14), (1, u "java/lang/Object"), (4, u "hash"), (86, .class_ 108), (1, u "java/lang/Enum$EnumDesc"), (2, .class_ 112), (0, u "java/lang/constant/Constable"), (0, .class_ 114), (0, u "java/lang/Comparable"), (0, .class_ 116), (0, u "java/io/Serializable")] 87

/-- java/lang/Enum -/
def k5 : Class := { plain "java/lang/Enum" (some 0) with
  accessFlags := 1057
  interfaces := #[2, 3, 4]
  cf := some (fileOf pool5 2 #[.nestMembers #[106]] #[] 1057 12 #[111, 113, 115] #[{ accessFlags := 18, nameIndex := 5, descriptorIndex := 6, attributes := #[] }, { accessFlags := 18, nameIndex := 9, descriptorIndex := 10, attributes := #[] }, { accessFlags := 2, nameIndex := 19, descriptorIndex := 10, attributes := #[] }])
  fields := #[{ name := "name", type := (.object "java/lang/String"), accessFlags := 18, slot := 0, constantValue := 0 }, { name := "ordinal", type := .int, accessFlags := 18, slot := 1, constantValue := 0 }, { name := "hash", type := .int, accessFlags := 2, slot := 2, constantValue := 0 }]
  methods := #[]
  instanceTypes := #[(.object "java/lang/String"), .int, .int]
  staticTypes := #[]
  resolved := Array.replicate 204 none
  statics := none }

def pool6 : Array CpInfo := pool [(1, .class_ 2), (0, u "com/example/resolvent/resolvent/term/Token$Kind"), (0, .fieldref 1 4), (0, .nameAndType 5 6), (0, u "NAME"), (0, u "Lcom/example/resolvent/resolvent/term/Token$Kind;"), (0, .fieldref 1 8), (0, .nameAndType 9 6), (0, u "QUOTED_NAME"), (0, .fieldref 1 11), (0, .nameAndType 12 6), (0, u "DEFINED_WORD"), (2, u "VARIABLE"), (2, u "INTEGER"), (2, u "PUNCTUATION"), (2, u "CODE_LIST"), (2, u "FULL_STOP"), (2, u "END"), (2, u "$VALUES"), (0, u "[Lcom/example/resolvent/resolvent/term/Token$Kind;"), (6, .class_ 43), (1, u "java/lang/Enum"), (27, u "isName"), (0, u "()Z"), (6, .class_ 80), (0, u "com/example/resolvent/resolvent/term/Token")] 2

def k6c0 : Code := { maxStack := 2, maxLocals := 1, code := prog_119_method_4_code, exceptionTable := #[], attributes := #[] }
def k6m0 : Method := { name := "isName", desc := "()Z", sig := { parameters := [], returnType := some .boolean }, accessFlags := 0, code := some k6c0 }
/-- com/example/resolvent/resolvent/term/Token$Kind -/
def k6 : Class := { plain "com/example/resolvent/resolvent/term/Token$Kind" (some 5) with
  accessFlags := 16432
  interfaces := #[]
  cf := some (fileOf pool6 1 #[.nestHost 79] #[{ accessFlags := 0, nameIndex := 71, descriptorIndex := 72, attributes := #[] }] 16432 41 #[] #[{ accessFlags := 16409, nameIndex := 5, descriptorIndex := 6, attributes := #[] }, { accessFlags := 16409, nameIndex := 9, descriptorIndex := 6, attributes := #[] }, { accessFlags := 16409, nameIndex := 12, descriptorIndex := 6, attributes := #[] }, { accessFlags := 16409, nameIndex := 15, descriptorIndex := 6, attributes := #[] }, { accessFlags := 16409, nameIndex := 18, descriptorIndex := 6, attributes := #[] }, { accessFlags := 16409, nameIndex := 21, descriptorIndex := 6, attributes := #[] }, { accessFlags := 16409, nameIndex := 24, descriptorIndex := 6, attributes := #[] }, { accessFlags := 16409, nameIndex := 27, descriptorIndex := 6, attributes := #[] }, { accessFlags := 16409, nameIndex := 30, descriptorIndex := 6, attributes := #[] }, { accessFlags := 4122, nameIndex := 33, descriptorIndex := 34, attributes := #[] }])
  fields := #[{ name := "NAME", type := (.object "com/example/resolvent/resolvent/term/Token$Kind"), accessFlags := 16409, slot := 0, constantValue := 0 }, { name := "QUOTED_NAME", type := (.object "com/example/resolvent/resolvent/term/Token$Kind"), accessFlags := 16409, slot := 1, constantValue := 0 }, { name := "DEFINED_WORD", type := (.object "com/example/resolvent/resolvent/term/Token$Kind"), accessFlags := 16409, slot := 2, constantValue := 0 }, { name := "VARIABLE", type := (.object "com/example/resolvent/resolvent/term/Token$Kind"), accessFlags := 16409, slot := 3, constantValue := 0 }, { name := "INTEGER", type := (.object "com/example/resolvent/resolvent/term/Token$Kind"), accessFlags := 16409, slot := 4, constantValue := 0 }, { name := "PUNCTUATION", type := (.object "com/example/resolvent/resolvent/term/Token$Kind"), accessFlags := 16409, slot := 5, constantValue := 0 }, { name := "CODE_LIST", type := (.object "com/example/resolvent/resolvent/term/Token$Kind"), accessFlags := 16409, slot := 6, constantValue := 0 }, { name := "FULL_STOP", type := (.object "com/example/resolvent/resolvent/term/Token$Kind"), accessFlags := 16409, slot := 7, constantValue := 0 }, { name := "END", type := (.object "com/example/resolvent/resolvent/term/Token$Kind"), accessFlags := 16409, slot := 8, constantValue := 0 }, { name := "$VALUES", type := (.array (.object "com/example/resolvent/resolvent/term/Token$Kind")), accessFlags := 4122, slot := 9, constantValue := 0 }]
  methods := #[k6m0]
  instanceTypes := #[(.object "java/lang/String"), .int, .int]
  staticTypes := #[(.object "com/example/resolvent/resolvent/term/Token$Kind"), (.object "com/example/resolvent/resolvent/term/Token$Kind"), (.object "com/example/resolvent/resolvent/term/Token$Kind"), (.object "com/example/resolvent/resolvent/term/Token$Kind"), (.object "com/example/resolvent/resolvent/term/Token$Kind"), (.object "com/example/resolvent/resolvent/term/Token$Kind"), (.object "com/example/resolvent/resolvent/term/Token$Kind"), (.object "com/example/resolvent/resolvent/term/Token$Kind"), (.object "com/example/resolvent/resolvent/term/Token$Kind"), (.array (.object "com/example/resolvent/resolvent/term/Token$Kind"))]
  resolved := Array.replicate 83 none
  statics := some 0 }

def pool7 : Array CpInfo := pool [(1, u "java/lang/Cloneable"), (0, .class_ 1), (0, u "java/lang/Object"), (0, .class_ 3)] 3

/-- java/lang/Cloneable -/
def k7 : Class := { plain "java/lang/Cloneable" (some 0) with
  accessFlags := 1537
  interfaces := #[]
  cf := some (fileOf pool7 2 #[] #[] 1537 4 #[] #[])
  fields := #[]
  methods := #[]
  instanceTypes := #[]
  staticTypes := #[]
  resolved := Array.replicate 8 none
  statics := none }

/-- the primitive byte -/
def k8 : Class := { plain "byte" none with kind := .primitive 'B', accessFlags := 0x411 }
/-- [B -/
def k9 : Class := { plain "[B" (some 0) with kind := .array 8 .byte, interfaces := #[7, 4], accessFlags := 1041 }

/-- the primitive int -/
def k10 : Class := { plain "int" none with kind := .primitive 'I', accessFlags := 0x411 }
/-- [I -/
def k11 : Class := { plain "[I" (some 0) with kind := .array 10 .int, interfaces := #[7, 4], accessFlags := 1041 }

def heap : Heap := #[{ cls := 6, slots := #[.ref 1, .ref 2, .ref 3, .ref 4, .ref 5, .ref 6, .ref 7, .ref 8, .ref 9, .null], vm := .statics 6 },
  { cls := 6, slots := #[.null, .int 0, .int 0], vm := .none },
  { cls := 6, slots := #[.null, .int 1, .int 0], vm := .none },
  { cls := 6, slots := #[.null, .int 2, .int 0], vm := .none },
  { cls := 6, slots := #[.null, .int 3, .int 0], vm := .none },
  { cls := 6, slots := #[.null, .int 4, .int 0], vm := .none },
  { cls := 6, slots := #[.null, .int 5, .int 0], vm := .none },
  { cls := 6, slots := #[.null, .int 6, .int 0], vm := .none },
  { cls := 6, slots := #[.null, .int 7, .int 0], vm := .none },
  { cls := 6, slots := #[.null, .int 8, .int 0], vm := .none }]
def classes : Array Class := #[k0, k1, k2, k3, k4, k5, k6, k7, k8, k9, k10, k11]
def interned : List (Array UInt16 × Addr) := []
def slotsUsed : Nat := 37
def theMethod : MethodId := ⟨1, 1⟩
def args0 : Array Value := #[.int 5]
def aboutOver (below : List Frame) : State where
  vm := { classes := classes, interned := interned.toArray }
  heap := heap
  slotsUsed := slotsUsed
  threads := #[{ frames := .invoking theMethod args0 :: below }]
def below0 : List Frame := [.native { method := ⟨0, 0⟩, args := #[] }]
def about1 : State := aboutOver below0
def p0 : Program := .bare "" "" ""
def e0 : Env := launch0.env 0 0 0
theorem w_frames : about1.frames = Frame.invoking theMethod args0 :: below0 := rfl
set_option maxRecDepth 65536 in
theorem w_args : argsFit about1.vm theMethod args0 = true := by decide +kernel
set_option maxRecDepth 65536 in
theorem w_heap : heapFits about1 = true := by decide +kernel
set_option maxRecDepth 65536 in
theorem w_runnable : about1.curStatus? = some .runnable := by decide +kernel
set_option maxRecDepth 65536 in
theorem w_alone : about1.alone = true := by decide +kernel
set_option maxRecDepth 65536 in
theorem w_named : about1.methodNamed? x = some theMethod := by decide +kernel
set_option maxRecDepth 65536 in
theorem w_hears : about1.hears theMethod below0 = true := by decide +kernel
set_option maxRecDepth 65536 in
theorem w_ripe : about1.ripe theMethod args0 below0 = true := by decide +kernel
theorem w_running : about1.status = .running := rfl
set_option maxRecDepth 65536 in
theorem w_room : about1.hasRoom e0.platform room_1 = true :=
  launch0.hasRoom_least _ room_1 (by decide +kernel) (by decide +kernel) (by decide +kernel) (by decide +kernel) (by decide +kernel) (by decide +kernel)
theorem allAtoms_all (ts : List Jvm.Cond) (a : Array Jvm.Value) (st : Jvm.State) : (allAtoms ts).before a st = ts.all (fun c => c.before a st) := by
  induction ts with
  | nil => rfl
  | cons c t ih =>
    show (Jvm.Cond.and c (allAtoms t)).before a st = _
    rw [Jvm.Cond.before_and, ih, List.all_cons]
def words1 : List Jvm.Cond := Jvm.Cond.code x code maxLocals ret :: tables_1
/-- a 'code' word, met by the world's own term for the bytes: nothing is compared byte by byte -/
theorem code_word {y : MethodName} {bytes : ByteArray} {mx : Nat} {rt : Option FieldType} {a : Array Value} {s : State} {m : MethodId} {meth : Method} {c : Code} (h1 : s.methodNamed? y = some m) (h2 : s.vm.method? m = some meth) (h3 : meth.code = some c) (h4 : c.code = bytes)
    (h5 : (c.maxLocals == mx && c.exceptionTable.isEmpty && decide (c.maxStack ≤ mostOperands) && decide (meth.sig.returnType = rt) && !meth.locks && decide (parseMethodDescriptor y.desc = some meth.sig)) = true) : (Jvm.Cond.code y bytes mx rt).before a s = true := by
  simp only [Bool.and_eq_true, beq_iff_eq, Bool.not_eq_true', decide_eq_true_eq] at h5
  obtain ⟨⟨⟨⟨⟨g1, g2⟩, g3⟩, g4⟩, g5⟩, g6⟩ := h5
  simp [Cond.before, Cond.holds, Cond.value, h1, h2, h3, h4, g1, g2, g3, g4, g5, g6]
def isCode : Jvm.Cond → Bool
  | .code _ _ _ _ => true
  | _ => false
theorem all_split {L : List Jvm.Cond} {P : Jvm.Cond → Bool} (h1 : L.all (fun c => isCode c || P c) = true) (h2 : ∀ c ∈ L.filter isCode, P c = true) : L.all P = true := by
  refine List.all_eq_true.mpr fun c hc => ?_
  have h := List.all_eq_true.mp h1 c hc
  rcases Bool.eq_false_or_eq_true (isCode c) with hi | hi
  · exact h2 c (List.mem_filter.mpr ⟨hc, hi⟩)
  · simpa [hi] using h
set_option maxRecDepth 65536 in
theorem w_c0 : (Jvm.Cond.code x code maxLocals ret).before args0 about1 = true := code_word (m := ⟨1, 1⟩) (meth := k1m1) (c := k1c1) (by decide +kernel) rfl rfl rfl (by decide +kernel)
set_option maxRecDepth 65536 in
theorem w_c1 : (Jvm.Cond.code ({ cls := "com/example/resolvent/resolvent/term/KindIsNamePinLaw", name := "pick", desc := "(I)Lcom/example/resolvent/resolvent/term/Token$Kind;" } : Jvm.MethodName) method_3_code (1 : Nat) (Option.some (Jvm.ClassFile.FieldType.object "com/example/resolvent/resolvent/term/Token$Kind"))).before args0 about1 = true := code_word (m := ⟨1, 2⟩) (meth := k1m2) (c := k1c2) (by decide +kernel) rfl rfl rfl (by decide +kernel)
set_option maxRecDepth 65536 in
theorem w_c2 : (Jvm.Cond.code ({ cls := "com/example/resolvent/resolvent/term/Token$Kind", name := "isName", desc := "()Z" } : Jvm.MethodName) prog_119_method_4_code (1 : Nat) (Option.some Jvm.ClassFile.FieldType.boolean)).before args0 about1 = true := code_word (m := ⟨6, 0⟩) (meth := k6m0) (c := k6c0) (by decide +kernel) rfl rfl rfl (by decide +kernel)
def codes1 : List Jvm.Cond := [Jvm.Cond.code x code maxLocals ret, Jvm.Cond.code ({ cls := "com/example/resolvent/resolvent/term/KindIsNamePinLaw", name := "pick", desc := "(I)Lcom/example/resolvent/resolvent/term/Token$Kind;" } : Jvm.MethodName) method_3_code (1 : Nat) (Option.some (Jvm.ClassFile.FieldType.object "com/example/resolvent/resolvent/term/Token$Kind")), Jvm.Cond.code ({ cls := "com/example/resolvent/resolvent/term/Token$Kind", name := "isName", desc := "()Z" } : Jvm.MethodName) prog_119_method_4_code (1 : Nat) (Option.some Jvm.ClassFile.FieldType.boolean)]
set_option maxRecDepth 65536 in
theorem codes_eq : words1.filter isCode = codes1 := rfl
theorem w_codes : ∀ c ∈ words1.filter isCode, c.before args0 about1 = true := by
  rw [codes_eq]
  intro c hc
  simp only [codes1, List.mem_cons, List.not_mem_nil, or_false] at hc
  rcases hc with rfl | rfl | rfl
  · exact w_c0
  · exact w_c1
  · exact w_c2
set_option maxRecDepth 65536 in
theorem w_t1 : (words1.take 24).all (fun c => isCode c || c.before args0 about1) = true := by decide +kernel
set_option maxRecDepth 65536 in
theorem w_t2 : (words1.drop 24).all (fun c => isCode c || c.before args0 about1) = true := by decide +kernel
theorem w_tables : (allAtoms (Jvm.Cond.code x code maxLocals ret :: tables_1)).before args0 about1 = true := by
  rw [allAtoms_all]
  show words1.all (fun c => c.before args0 about1) = true
  refine all_split ?_ w_codes
  rw [← List.take_append_drop 24 words1, List.all_append, w_t1, w_t2]
  rfl
set_option maxRecDepth 65536 in
theorem w_case : (Jvm.Cond.and given_1 narrow_1).before args0 about1 = true := by decide +kernel
theorem w_applies : (headSpec (Jvm.Cond.code x code maxLocals ret :: tables_1) room_1).applies x e0.platform about1 = true :=
  (Spec.applies_iff w_frames).mpr ⟨w_running, w_runnable, w_alone, w_named, w_hears, w_ripe, w_room, w_tables⟩
theorem atStart : AtStart classFile x code maxLocals ret World_1 tables_1 room_1 Calls_1 rest_1 Pre_1 launch0 p0 e0 about1 theMethod args0 below0 :=
  ⟨lists_1, trivial, launch0.admits_env _ _ _, launch0.least_env, fairChoices_fair.cas, fairChoices_fair.clock, w_frames, w_args, w_heap, w_applies, trivial, trivial, w_case⟩
end start1
theorem witness_1 : WitnessClaimed_1 := ⟨start1.p0, start1.e0, start1.about1, start1.theMethod, start1.args0, start1.below0, start1.atStart⟩
end Jvm.Pilot.@@N@@
