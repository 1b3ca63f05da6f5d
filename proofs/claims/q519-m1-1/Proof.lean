import JvmDerived
import JvmDerived.Pilot.@@N@@Statement
import JvmDerived.Pilot.@@N@@Code
set_option linter.unusedVariables false
set_option linter.unusedSimpArgs false
@@BLOCK:NumsL.lean.txt@@
namespace Jvm.Pilot.@@N@@
open Jvm Jvm.ClassFile Sem Op Lib Jvm.Free Jvm.Stand Jvm.LawKit Jvm.RoadKit Bundle Jvm.Pilot.@@N@@.Jvm.D
section OwnKit
variable {p : Program} {l : Launch} {e : Env} {R : Room} {s : State} {m : MethodId} {args : Array Value} {below : List Frame} {meth : Method} {c : Code} {n0 C N : Nat} {Q : Option Value → Heap → Prop} {h : Heap} {ce sl pc q : Nat} {Ls : Array Slot} {st : List Value} {Z : State} {a0 : Array Value}
/-- the walk that stands at pc, with these locals, this stack and this heap, comes to its end as Q says -/
def Go (p : Program) (l : Launch) (e : Env) (R : Room) (s : State) (m : MethodId) (args : Array Value) (below : List Frame) (meth : Method) (c : Code) (n0 C N : Nat) (Q : Option Value → Heap → Prop) (h : Heap) (ce sl pc : Nat) (Ls : Array Slot) (st : List Value) : Prop :=
  ∀ (T : State) (locs : List Loc), Stand p l e R s m args below meth c T locs ce sl → Fr n0 locs → T.heap = h →
    ∃ (s₂ : State) (v : Option Value) (L : List Loc), Steps p.tables e below (T.setTop (mkF m pc Ls st)) s₂ ∧ s₂.status = .running ∧ Ended s₂ below (.returned v) ∧ Q v s₂.heap ∧ Fr n0 L ∧ FrameEnd s (.returned v) s₂ L C N
/-- a method's contract, at given arguments and a given heap -/
abbrev Met (l : Launch) (Z : State) (y : MethodName) (bytes : ByteArray) (maxL : Nat) (rt : Option FieldType) (ws : List Cond) (rm : Room) (as : Array Value) (h0 : Heap) (n0 : Nat) (Q : Option Value → Heap → Prop) : Prop :=
  MetFree l y (head1 (Cond.code y bytes maxL rt :: ws) rm) (fun a U => a = as ∧ Z.Warmed39 U.vm ∧ U.heap = h0) (fun _ _ _ _ _ => True) (fun _ U o U' => ∃ v L, o = .returned v ∧ (Q v U'.heap ∧ Fr n0 L) ∧ FrameEnd U o U' L rm.cells rm.slots)
theorem Met.of {y : MethodName} {bytes : ByteArray} {maxL : Nat} {rt : Option FieldType} {ws : List Cond} {rm : Room} {as : Array Value} {h0 : Heap} {Ls0 : Array Slot} (hpl : plainFor y = true) (hent : argsToLocals as maxL = Ls0)
    (body : ∀ (p : Program) (e : Env) (s : State) (m : MethodId) (below : List Frame) (meth : Method) (c : Code), p.tables.exec = Jvm.exec → c.code = bytes → c.maxLocals = maxL → meth.sig.returnType = rt → meth.locks = false → s.vm.findClass y.cls = some m.cls → meth.name = y.name → Z.Warmed39 s.vm →
      Go p l e rm s m as below meth c n0 rm.cells rm.slots Q h0 0 0 0 Ls0 []) : Met l Z y bytes maxL rt ws rm as h0 n0 Q := by
  refine MetFree.of_bodySF hpl hisR ?_
  intro p e s m args below meth c s₁ Bd hml0 hP hK
  obtain ⟨rfl, hZ, hh⟩ := hP
  have e0 : s₁.heap = h0 := by rw [← hh, Bd.state]; rfl
  obtain ⟨s₂, v, L, S, r1, r2, hq, hf, fe⟩ := body p e s m below meth c Bd.exec Bd.bytes hml0 Bd.returns Bd.notSynchronized (findClass_of_methodNamed Bd.named) (name_of_methodNamed Bd.named Bd.method).1 hZ s₁ [] (Stand.of_body Bd) (Fr.nil _) e0
  have ef : entryFrame m args maxL = mkF m 0 Ls0 [] := by simp only [entryFrame, mkF, hent]
  exact ⟨s₂, _, castTop ef S, r1, r2, v, L, rfl, ⟨hq, hf⟩, fe⟩
theorem Go.mono {ce' sl' : Nat} (hc : ce ≤ ce') (hs : sl ≤ sl') (G : Go p l e R s m args below meth c n0 C N Q h ce' sl' pc Ls st) : Go p l e R s m args below meth c n0 C N Q h ce sl pc Ls st :=
  fun T locs X Nf eT => G T locs (X.more hc hs) Nf eT
theorem Go.step {q' : Nat} {Ls' : Array Slot} {st' : List Value} (H : ∀ (T : State) (locs : List Loc) (target : State), Stand p l e R s m args below meth c T locs ce sl → T.heap = h → Steps p.tables e below (T.setTop (mkF m q' Ls' st')) target → Steps p.tables e below (T.setTop (mkF m pc Ls st)) target)
    (G : Go p l e R s m args below meth c n0 C N Q h ce sl q' Ls' st') : Go p l e R s m args below meth c n0 C N Q h ce sl pc Ls st := fun T locs X Nf eT => by
  obtain ⟨s₂, v, L, S, r⟩ := G T locs X Nf eT
  exact ⟨s₂, v, L, H T locs s₂ X eT S, r⟩
theorem Go.law {ce' sl' q' : Nat} {Ls' : Array Slot} {st' : List Value} {h' : Heap} (H : ∀ (T : State) (locs : List Loc), Stand p l e R s m args below meth c T locs ce sl → T.heap = h → ∃ T', Stand p l e R s m args below meth c T' locs ce' sl' ∧ T'.heap = h' ∧ ∀ target, Steps p.tables e below (T'.setTop (mkF m q' Ls' st')) target → Steps p.tables e below (T.setTop (mkF m pc Ls st)) target)
    (G : Go p l e R s m args below meth c n0 C N Q h' ce' sl' q' Ls' st') : Go p l e R s m args below meth c n0 C N Q h ce sl pc Ls st := fun T locs X Nf eT => by
  obtain ⟨T', X', eT', hs⟩ := H T locs X eT
  obtain ⟨s₂, v, L, S, r⟩ := G T' locs X' Nf eT'
  exact ⟨s₂, v, L, hs _ S, r⟩
theorem Go.iloadN (hx : p.tables.exec = Jvm.exec) {k : Fin 4} {v : Int32} (hd : decode c.code pc = .ok (.iload_n k, 1)) (hl : Ls[k.val]? = some (.val (.int v))) (hq : q = pc + 1) (G : Go p l e R s m args below meth c n0 C N Q h ce sl q Ls (.int v :: st)) : Go p l e R s m args below meth c n0 C N Q h ce sl pc Ls (st) := by
  subst hq
  exact Go.step (fun T locs target X _ S => XS.iloadN X.here hx rfl hd hl S) G
theorem Go.iload (hx : p.tables.exec = Jvm.exec) {k : Nat} {v : Int32} (hd : decode c.code pc = .ok (.iload k, 2)) (hl : Ls[k]? = some (.val (.int v))) (hq : q = pc + 2) (G : Go p l e R s m args below meth c n0 C N Q h ce sl q Ls (.int v :: st)) : Go p l e R s m args below meth c n0 C N Q h ce sl pc Ls (st) := by
  subst hq
  exact Go.step (fun T locs target X _ S => XS.iload X.here hx rfl hd hl S) G
theorem Go.aloadN (hx : p.tables.exec = Jvm.exec) {k : Fin 4} {v : Value} (hd : decode c.code pc = .ok (.aload_n k, 1)) (hl : Ls[k.val]? = some (.val v)) (hv : v.isRef = true) (hq : q = pc + 1) (G : Go p l e R s m args below meth c n0 C N Q h ce sl q Ls (v :: st)) : Go p l e R s m args below meth c n0 C N Q h ce sl pc Ls (st) := by
  subst hq
  exact Go.step (fun T locs target X _ S => XS.aloadN X.here hx rfl hd hl hv S) G
theorem Go.aload (hx : p.tables.exec = Jvm.exec) {k : Nat} {v : Value} (hd : decode c.code pc = .ok (.aload k, 2)) (hl : Ls[k]? = some (.val v)) (hv : v.isRef = true) (hq : q = pc + 2) (G : Go p l e R s m args below meth c n0 C N Q h ce sl q Ls (v :: st)) : Go p l e R s m args below meth c n0 C N Q h ce sl pc Ls (st) := by
  subst hq
  exact Go.step (fun T locs target X _ S => XS.aload X.here hx rfl hd hl hv S) G
theorem Go.lloadN (hx : p.tables.exec = Jvm.exec) {k : Fin 4} {v : Int64} (hd : decode c.code pc = .ok (.lload_n k, 1)) (hl : Ls[k.val]? = some (.val (.long v))) (hq : q = pc + 1) (G : Go p l e R s m args below meth c n0 C N Q h ce sl q Ls (.long v :: st)) : Go p l e R s m args below meth c n0 C N Q h ce sl pc Ls (st) := by
  subst hq
  exact Go.step (fun T locs target X _ S => XT.lloadN X.here hx rfl hd hl S) G
theorem Go.lload (hx : p.tables.exec = Jvm.exec) {k : Nat} {v : Int64} (hd : decode c.code pc = .ok (.lload k, 2)) (hl : Ls[k]? = some (.val (.long v))) (hq : q = pc + 2) (G : Go p l e R s m args below meth c n0 C N Q h ce sl q Ls (.long v :: st)) : Go p l e R s m args below meth c n0 C N Q h ce sl pc Ls (st) := by
  subst hq
  exact Go.step (fun T locs target X _ S => XT.lload X.here hx rfl hd hl S) G
theorem Go.istoreN (hx : p.tables.exec = Jvm.exec) {k : Fin 4} {x : Int32} {l' : Array Slot} (hd : decode c.code pc = .ok (.istore_n k, 1)) (hl : storeLocals Ls k.val (.int x) = some l') (hq : q = pc + 1) (G : Go p l e R s m args below meth c n0 C N Q h ce sl q l' (st)) : Go p l e R s m args below meth c n0 C N Q h ce sl pc Ls (.int x :: st) := by
  subst hq
  exact Go.step (fun T locs target X _ S => XS.istoreN X.here hx rfl hd rfl hl S) G
theorem Go.istore (hx : p.tables.exec = Jvm.exec) {k : Nat} {x : Int32} {l' : Array Slot} (hd : decode c.code pc = .ok (.istore k, 2)) (hl : storeLocals Ls k (.int x) = some l') (hq : q = pc + 2) (G : Go p l e R s m args below meth c n0 C N Q h ce sl q l' (st)) : Go p l e R s m args below meth c n0 C N Q h ce sl pc Ls (.int x :: st) := by
  subst hq
  exact Go.step (fun T locs target X _ S => XS.istore X.here hx rfl hd rfl hl S) G
theorem Go.lstoreN (hx : p.tables.exec = Jvm.exec) {k : Fin 4} {x : Int64} {l' : Array Slot} (hd : decode c.code pc = .ok (.lstore_n k, 1)) (hl : storeLocals Ls k.val (.long x) = some l') (hq : q = pc + 1) (G : Go p l e R s m args below meth c n0 C N Q h ce sl q l' (st)) : Go p l e R s m args below meth c n0 C N Q h ce sl pc Ls (.long x :: st) := by
  subst hq
  exact Go.step (fun T locs target X _ S => XT.lstoreN X.here hx rfl hd rfl hl S) G
theorem Go.lstore (hx : p.tables.exec = Jvm.exec) {k : Nat} {x : Int64} {l' : Array Slot} (hd : decode c.code pc = .ok (.lstore k, 2)) (hl : storeLocals Ls k (.long x) = some l') (hq : q = pc + 2) (G : Go p l e R s m args below meth c n0 C N Q h ce sl q l' (st)) : Go p l e R s m args below meth c n0 C N Q h ce sl pc Ls (.long x :: st) := by
  subst hq
  exact Go.step (fun T locs target X _ S => XT.lstore X.here hx rfl hd rfl hl S) G
theorem Go.astoreN (hx : p.tables.exec = Jvm.exec) {k : Fin 4} {x : Value} {l' : Array Slot} (hd : decode c.code pc = .ok (.astore_n k, 1)) (hv : x.isRef = true) (hl : storeLocals Ls k.val x = some l') (hq : q = pc + 1) (G : Go p l e R s m args below meth c n0 C N Q h ce sl q l' (st)) : Go p l e R s m args below meth c n0 C N Q h ce sl pc Ls (x :: st) := by
  subst hq
  exact Go.step (fun T locs target X _ S => XS.astoreN X.here hx rfl hd rfl hv hl S) G
theorem Go.astore (hx : p.tables.exec = Jvm.exec) {k : Nat} {x : Value} {l' : Array Slot} (hd : decode c.code pc = .ok (.astore k, 2)) (hv : x.isRef = true) (hl : storeLocals Ls k x = some l') (hq : q = pc + 2) (G : Go p l e R s m args below meth c n0 C N Q h ce sl q l' (st)) : Go p l e R s m args below meth c n0 C N Q h ce sl pc Ls (x :: st) := by
  subst hq
  exact Go.step (fun T locs target X _ S => XS.astore X.here hx rfl hd rfl hv hl S) G
theorem Go.iinc (hx : p.tables.exec = Jvm.exec) {k : Nat} {cst : Int} {x : Int32} {l' : Array Slot} (hd : decode c.code pc = .ok (.iinc k cst, 3)) (hl : Ls[k]? = some (.val (.int x))) (hl' : storeLocals Ls k (.int (x + Int32.ofInt cst)) = some l') (hq : q = pc + 3) (G : Go p l e R s m args below meth c n0 C N Q h ce sl q l' (st)) : Go p l e R s m args below meth c n0 C N Q h ce sl pc Ls (st) := by
  subst hq
  exact Go.step (fun T locs target X _ S => XS.iinc X.here hx rfl hd hl hl' S) G
theorem Go.iconst (hx : p.tables.exec = Jvm.exec) {i : Int} {z : Int32} (hd : decode c.code pc = .ok (.iconst i, 1)) (hz : Int32.ofInt i = z) (hq : q = pc + 1) (G : Go p l e R s m args below meth c n0 C N Q h ce sl q Ls (.int z :: st)) : Go p l e R s m args below meth c n0 C N Q h ce sl pc Ls (st) := by
  subst hq
  exact Go.step (fun T locs target X _ S => XS.iconst X.here hx rfl hd (by rw [hz]; exact S)) G
theorem Go.bipush (hx : p.tables.exec = Jvm.exec) {i : Int} {z : Int32} (hd : decode c.code pc = .ok (.bipush i, 2)) (hz : (Int8.ofInt i).toInt32 = z) (hq : q = pc + 2) (G : Go p l e R s m args below meth c n0 C N Q h ce sl q Ls (.int z :: st)) : Go p l e R s m args below meth c n0 C N Q h ce sl pc Ls (st) := by
  subst hq
  exact Go.step (fun T locs target X _ S => XS.bipush X.here hx rfl hd (by rw [hz]; exact S)) G
theorem Go.sipush (hx : p.tables.exec = Jvm.exec) {i : Int} {z : Int32} (hd : decode c.code pc = .ok (.sipush i, 3)) (hz : (Int16.ofInt i).toInt32 = z) (hq : q = pc + 3) (G : Go p l e R s m args below meth c n0 C N Q h ce sl q Ls (.int z :: st)) : Go p l e R s m args below meth c n0 C N Q h ce sl pc Ls (st) := by
  subst hq
  exact Go.step (fun T locs target X _ S => XS.sipush X.here hx rfl hd (by rw [hz]; exact S)) G
theorem Go.aconstNull (hx : p.tables.exec = Jvm.exec)  (hd : decode c.code pc = .ok (.aconst_null, 1))  (hq : q = pc + 1) (G : Go p l e R s m args below meth c n0 C N Q h ce sl q Ls (.null :: st)) : Go p l e R s m args below meth c n0 C N Q h ce sl pc Ls (st) := by
  subst hq
  exact Go.step (fun T locs target X _ S => XS.aconstNull X.here hx rfl hd S) G
theorem Go.lconst (hx : p.tables.exec = Jvm.exec) {k : Fin 2} {z : Int64} (hd : decode c.code pc = .ok (.lconst k, 1)) (hz : Int64.ofNat k = z) (hq : q = pc + 1) (G : Go p l e R s m args below meth c n0 C N Q h ce sl q Ls (.long z :: st)) : Go p l e R s m args below meth c n0 C N Q h ce sl pc Ls (st) := by
  subst hq
  exact Go.step (fun T locs target X _ S => XT.lconst X.here hx rfl hd (by rw [hz]; exact S)) G
theorem Go.ldcInt (hx : p.tables.exec = Jvm.exec) (hZ : Z.Warmed39 s.vm) {own : String} {index : Nat} {v : Int32} (hown : s.vm.findClass own = some m.cls) (hw : (Cond.constant own index v).before a0 Z = true) (hd : decode c.code pc = .ok (.ldc index, 2)) (hq : q = pc + 2) (G : Go p l e R s m args below meth c n0 C N Q h ce sl q Ls (.int v :: st)) : Go p l e R s m args below meth c n0 C N Q h ce sl pc Ls st := by
  subst hq
  exact Go.step (fun T locs target X _ S => X.ldcInt hx hown (mvT hZ hw) (g := mkF m pc Ls st) rfl hd target S) G
theorem Go.ldc2Long (hx : p.tables.exec = Jvm.exec) (hZ : Z.Warmed39 s.vm) {own : String} {index : Nat} {v : Int64} (hown : s.vm.findClass own = some m.cls) (hw : (Cond.constantLong own index v).before a0 Z = true) (hd : decode c.code pc = .ok (.ldc2_w index, 3)) (hq : q = pc + 3) (G : Go p l e R s m args below meth c n0 C N Q h ce sl q Ls (.long v :: st)) : Go p l e R s m args below meth c n0 C N Q h ce sl pc Ls st := by
  subst hq
  exact Go.step (fun T locs target X _ S => X.ldc2Long hx hown (mvT hZ hw) (g := mkF m pc Ls st) rfl hd target S) G
theorem Go.iadd (hx : p.tables.exec = Jvm.exec) {x y : Int32} (hd : decode c.code pc = .ok (.iadd, 1))  (hq : q = pc + 1) (G : Go p l e R s m args below meth c n0 C N Q h ce sl q Ls (.int (x + y) :: st)) : Go p l e R s m args below meth c n0 C N Q h ce sl pc Ls (.int y :: .int x :: st) := by
  subst hq
  exact Go.step (fun T locs target X _ S => XS.iadd X.here hx rfl hd rfl S) G
theorem Go.isub (hx : p.tables.exec = Jvm.exec) {x y : Int32} (hd : decode c.code pc = .ok (.isub, 1))  (hq : q = pc + 1) (G : Go p l e R s m args below meth c n0 C N Q h ce sl q Ls (.int (x - y) :: st)) : Go p l e R s m args below meth c n0 C N Q h ce sl pc Ls (.int y :: .int x :: st) := by
  subst hq
  exact Go.step (fun T locs target X _ S => XS.isub X.here hx rfl hd rfl S) G
theorem Go.iand (hx : p.tables.exec = Jvm.exec) {x y : Int32} (hd : decode c.code pc = .ok (.iand, 1))  (hq : q = pc + 1) (G : Go p l e R s m args below meth c n0 C N Q h ce sl q Ls (.int (x &&& y) :: st)) : Go p l e R s m args below meth c n0 C N Q h ce sl pc Ls (.int y :: .int x :: st) := by
  subst hq
  exact Go.step (fun T locs target X _ S => XS.iand X.here hx rfl hd rfl S) G
theorem Go.imul (hx : p.tables.exec = Jvm.exec) {x y : Int32} (hd : decode c.code pc = .ok (.imul, 1))  (hq : q = pc + 1) (G : Go p l e R s m args below meth c n0 C N Q h ce sl q Ls (.int (x * y) :: st)) : Go p l e R s m args below meth c n0 C N Q h ce sl pc Ls (.int y :: .int x :: st) := by
  subst hq
  exact Go.step (fun T locs target X _ S => XS.imul X.here hx rfl hd rfl S) G
theorem Go.idiv (hx : p.tables.exec = Jvm.exec) {x y : Int32} (hd : decode c.code pc = .ok (.idiv, 1)) (hy : y ≠ 0) (hq : q = pc + 1) (G : Go p l e R s m args below meth c n0 C N Q h ce sl q Ls (.int (x / y) :: st)) : Go p l e R s m args below meth c n0 C N Q h ce sl pc Ls (.int y :: .int x :: st) := by
  subst hq
  exact Go.step (fun T locs target X _ S => XS.idiv X.here hx rfl hd rfl hy S) G
theorem Go.irem (hx : p.tables.exec = Jvm.exec) {x y : Int32} (hd : decode c.code pc = .ok (.irem, 1)) (hy : y ≠ 0) (hq : q = pc + 1) (G : Go p l e R s m args below meth c n0 C N Q h ce sl q Ls (.int (x % y) :: st)) : Go p l e R s m args below meth c n0 C N Q h ce sl pc Ls (.int y :: .int x :: st) := by
  subst hq
  exact Go.step (fun T locs target X _ S => iremM X hx rfl hd rfl hy S) G
theorem Go.ineg (hx : p.tables.exec = Jvm.exec) {x : Int32} (hd : decode c.code pc = .ok (.ineg, 1))  (hq : q = pc + 1) (G : Go p l e R s m args below meth c n0 C N Q h ce sl q Ls (.int (-x) :: st)) : Go p l e R s m args below meth c n0 C N Q h ce sl pc Ls (.int x :: st) := by
  subst hq
  exact Go.step (fun T locs target X _ S => XS.ineg X.here hx rfl hd rfl S) G
theorem Go.ixor (hx : p.tables.exec = Jvm.exec) {x y : Int32} (hd : decode c.code pc = .ok (.ixor, 1))  (hq : q = pc + 1) (G : Go p l e R s m args below meth c n0 C N Q h ce sl q Ls (.int (x ^^^ y) :: st)) : Go p l e R s m args below meth c n0 C N Q h ce sl pc Ls (.int y :: .int x :: st) := by
  subst hq
  exact Go.step (fun T locs target X _ S => XT.ixor X.here hx rfl hd rfl S) G
theorem Go.ior (hx : p.tables.exec = Jvm.exec) {x y : Int32} (hd : decode c.code pc = .ok (.ior, 1))  (hq : q = pc + 1) (G : Go p l e R s m args below meth c n0 C N Q h ce sl q Ls (.int (x ||| y) :: st)) : Go p l e R s m args below meth c n0 C N Q h ce sl pc Ls (.int y :: .int x :: st) := by
  subst hq
  exact Go.step (fun T locs target X _ S => XT.ior X.here hx rfl hd rfl S) G
theorem Go.ishl (hx : p.tables.exec = Jvm.exec) {x y : Int32} (hd : decode c.code pc = .ok (.ishl, 1))  (hq : q = pc + 1) (G : Go p l e R s m args below meth c n0 C N Q h ce sl q Ls (.int (x <<< (y &&& 31)) :: st)) : Go p l e R s m args below meth c n0 C N Q h ce sl pc Ls (.int y :: .int x :: st) := by
  subst hq
  exact Go.step (fun T locs target X _ S => XT.ishl X.here hx rfl hd rfl S) G
theorem Go.ishr (hx : p.tables.exec = Jvm.exec) {x y : Int32} (hd : decode c.code pc = .ok (.ishr, 1))  (hq : q = pc + 1) (G : Go p l e R s m args below meth c n0 C N Q h ce sl q Ls (.int (x >>> (y &&& 31)) :: st)) : Go p l e R s m args below meth c n0 C N Q h ce sl pc Ls (.int y :: .int x :: st) := by
  subst hq
  exact Go.step (fun T locs target X _ S => XT.ishr X.here hx rfl hd rfl S) G
theorem Go.iushr (hx : p.tables.exec = Jvm.exec) {x y : Int32} (hd : decode c.code pc = .ok (.iushr, 1))  (hq : q = pc + 1) (G : Go p l e R s m args below meth c n0 C N Q h ce sl q Ls (.int (XT.ushr x y) :: st)) : Go p l e R s m args below meth c n0 C N Q h ce sl pc Ls (.int y :: .int x :: st) := by
  subst hq
  exact Go.step (fun T locs target X _ S => XT.iushr X.here hx rfl hd rfl S) G
theorem Go.ladd (hx : p.tables.exec = Jvm.exec) {x y : Int64} (hd : decode c.code pc = .ok (.ladd, 1))  (hq : q = pc + 1) (G : Go p l e R s m args below meth c n0 C N Q h ce sl q Ls (.long (x + y) :: st)) : Go p l e R s m args below meth c n0 C N Q h ce sl pc Ls (.long y :: .long x :: st) := by
  subst hq
  exact Go.step (fun T locs target X _ S => XT.ladd X.here hx rfl hd rfl S) G
theorem Go.lsub (hx : p.tables.exec = Jvm.exec) {x y : Int64} (hd : decode c.code pc = .ok (.lsub, 1))  (hq : q = pc + 1) (G : Go p l e R s m args below meth c n0 C N Q h ce sl q Ls (.long (x - y) :: st)) : Go p l e R s m args below meth c n0 C N Q h ce sl pc Ls (.long y :: .long x :: st) := by
  subst hq
  exact Go.step (fun T locs target X _ S => XT.lsub X.here hx rfl hd rfl S) G
theorem Go.lmul (hx : p.tables.exec = Jvm.exec) {x y : Int64} (hd : decode c.code pc = .ok (.lmul, 1))  (hq : q = pc + 1) (G : Go p l e R s m args below meth c n0 C N Q h ce sl q Ls (.long (x * y) :: st)) : Go p l e R s m args below meth c n0 C N Q h ce sl pc Ls (.long y :: .long x :: st) := by
  subst hq
  exact Go.step (fun T locs target X _ S => XT.lmul X.here hx rfl hd rfl S) G
theorem Go.land (hx : p.tables.exec = Jvm.exec) {x y : Int64} (hd : decode c.code pc = .ok (.land, 1))  (hq : q = pc + 1) (G : Go p l e R s m args below meth c n0 C N Q h ce sl q Ls (.long (x &&& y) :: st)) : Go p l e R s m args below meth c n0 C N Q h ce sl pc Ls (.long y :: .long x :: st) := by
  subst hq
  exact Go.step (fun T locs target X _ S => XT.land X.here hx rfl hd rfl S) G
theorem Go.lor (hx : p.tables.exec = Jvm.exec) {x y : Int64} (hd : decode c.code pc = .ok (.lor, 1))  (hq : q = pc + 1) (G : Go p l e R s m args below meth c n0 C N Q h ce sl q Ls (.long (x ||| y) :: st)) : Go p l e R s m args below meth c n0 C N Q h ce sl pc Ls (.long y :: .long x :: st) := by
  subst hq
  exact Go.step (fun T locs target X _ S => XT.lor X.here hx rfl hd rfl S) G
theorem Go.lxor (hx : p.tables.exec = Jvm.exec) {x y : Int64} (hd : decode c.code pc = .ok (.lxor, 1))  (hq : q = pc + 1) (G : Go p l e R s m args below meth c n0 C N Q h ce sl q Ls (.long (x ^^^ y) :: st)) : Go p l e R s m args below meth c n0 C N Q h ce sl pc Ls (.long y :: .long x :: st) := by
  subst hq
  exact Go.step (fun T locs target X _ S => XT.lxor X.here hx rfl hd rfl S) G
theorem Go.lshl (hx : p.tables.exec = Jvm.exec) {x : Int64} {y : Int32} (hd : decode c.code pc = .ok (.lshl, 1))  (hq : q = pc + 1) (G : Go p l e R s m args below meth c n0 C N Q h ce sl q Ls (.long (x <<< (y.toInt64 &&& 63)) :: st)) : Go p l e R s m args below meth c n0 C N Q h ce sl pc Ls (.int y :: .long x :: st) := by
  subst hq
  exact Go.step (fun T locs target X _ S => XT.lshl X.here hx rfl hd rfl S) G
theorem Go.lshr (hx : p.tables.exec = Jvm.exec) {x : Int64} {y : Int32} (hd : decode c.code pc = .ok (.lshr, 1))  (hq : q = pc + 1) (G : Go p l e R s m args below meth c n0 C N Q h ce sl q Ls (.long (x >>> (y.toInt64 &&& 63)) :: st)) : Go p l e R s m args below meth c n0 C N Q h ce sl pc Ls (.int y :: .long x :: st) := by
  subst hq
  exact Go.step (fun T locs target X _ S => XT.lshr X.here hx rfl hd rfl S) G
theorem Go.lushr (hx : p.tables.exec = Jvm.exec) {x : Int64} {y : Int32} (hd : decode c.code pc = .ok (.lushr, 1))  (hq : q = pc + 1) (G : Go p l e R s m args below meth c n0 C N Q h ce sl q Ls (.long (XT.ushrL x y) :: st)) : Go p l e R s m args below meth c n0 C N Q h ce sl pc Ls (.int y :: .long x :: st) := by
  subst hq
  exact Go.step (fun T locs target X _ S => XT.lushr X.here hx rfl hd rfl S) G
theorem Go.lrem (hx : p.tables.exec = Jvm.exec) {x y : Int64} (hd : decode c.code pc = .ok (.lrem, 1)) (hy : y ≠ 0) (hq : q = pc + 1) (G : Go p l e R s m args below meth c n0 C N Q h ce sl q Ls (.long (x - (x / y) * y) :: st)) : Go p l e R s m args below meth c n0 C N Q h ce sl pc Ls (.long y :: .long x :: st) := by
  subst hq
  exact Go.step (fun T locs target X _ S => XT.lrem X.here hx rfl hd rfl hy S) G
theorem Go.ldiv (hx : p.tables.exec = Jvm.exec) {x y : Int64} (hd : decode c.code pc = .ok (.ldiv, 1)) (hy : y ≠ 0) (hq : q = pc + 1) (G : Go p l e R s m args below meth c n0 C N Q h ce sl q Ls (.long (x / y) :: st)) : Go p l e R s m args below meth c n0 C N Q h ce sl pc Ls (.long y :: .long x :: st) := by
  subst hq
  exact Go.step (fun T locs target X _ S => XT.ldiv X.here hx rfl hd rfl hy S) G
theorem Go.lneg (hx : p.tables.exec = Jvm.exec) {x : Int64} (hd : decode c.code pc = .ok (.lneg, 1))  (hq : q = pc + 1) (G : Go p l e R s m args below meth c n0 C N Q h ce sl q Ls (.long (-x) :: st)) : Go p l e R s m args below meth c n0 C N Q h ce sl pc Ls (.long x :: st) := by
  subst hq
  exact Go.step (fun T locs target X _ S => XT.lneg X.here hx rfl hd rfl S) G
theorem Go.lcmp (hx : p.tables.exec = Jvm.exec) {x y : Int64} (hd : decode c.code pc = .ok (.lcmp, 1))  (hq : q = pc + 1) (G : Go p l e R s m args below meth c n0 C N Q h ce sl q Ls (.int (XT.cmpL x y) :: st)) : Go p l e R s m args below meth c n0 C N Q h ce sl pc Ls (.long y :: .long x :: st) := by
  subst hq
  exact Go.step (fun T locs target X _ S => XT.lcmp X.here hx rfl hd rfl S) G
theorem Go.i2l (hx : p.tables.exec = Jvm.exec) {x : Int32} (hd : decode c.code pc = .ok (.i2l, 1))  (hq : q = pc + 1) (G : Go p l e R s m args below meth c n0 C N Q h ce sl q Ls (.long (x.toInt64) :: st)) : Go p l e R s m args below meth c n0 C N Q h ce sl pc Ls (.int x :: st) := by
  subst hq
  exact Go.step (fun T locs target X _ S => XT.i2l X.here hx rfl hd rfl S) G
theorem Go.l2i (hx : p.tables.exec = Jvm.exec) {x : Int64} (hd : decode c.code pc = .ok (.l2i, 1))  (hq : q = pc + 1) (G : Go p l e R s m args below meth c n0 C N Q h ce sl q Ls (.int (x.toInt32) :: st)) : Go p l e R s m args below meth c n0 C N Q h ce sl pc Ls (.long x :: st) := by
  subst hq
  exact Go.step (fun T locs target X _ S => XT.l2i X.here hx rfl hd rfl S) G
theorem Go.i2b (hx : p.tables.exec = Jvm.exec) {x : Int32} (hd : decode c.code pc = .ok (.i2b, 1))  (hq : q = pc + 1) (G : Go p l e R s m args below meth c n0 C N Q h ce sl q Ls (.int (x.toInt8.toInt32) :: st)) : Go p l e R s m args below meth c n0 C N Q h ce sl pc Ls (.int x :: st) := by
  subst hq
  exact Go.step (fun T locs target X _ S => XT.i2b X.here hx rfl hd rfl S) G
theorem Go.i2c (hx : p.tables.exec = Jvm.exec) {x : Int32} (hd : decode c.code pc = .ok (.i2c, 1))  (hq : q = pc + 1) (G : Go p l e R s m args below meth c n0 C N Q h ce sl q Ls (.int (x.toUInt32.toUInt16.toUInt32.toInt32) :: st)) : Go p l e R s m args below meth c n0 C N Q h ce sl pc Ls (.int x :: st) := by
  subst hq
  exact Go.step (fun T locs target X _ S => XT.i2c X.here hx rfl hd rfl S) G
theorem Go.i2s (hx : p.tables.exec = Jvm.exec) {x : Int32} (hd : decode c.code pc = .ok (.i2s, 1))  (hq : q = pc + 1) (G : Go p l e R s m args below meth c n0 C N Q h ce sl q Ls (.int (x.toInt16.toInt32) :: st)) : Go p l e R s m args below meth c n0 C N Q h ce sl pc Ls (.int x :: st) := by
  subst hq
  exact Go.step (fun T locs target X _ S => XT.i2s X.here hx rfl hd rfl S) G
theorem Go.dup (hx : p.tables.exec = Jvm.exec) {x : Value} (hd : decode c.code pc = .ok (.dup, 1)) (hc : x.category = 1) (hq : q = pc + 1) (G : Go p l e R s m args below meth c n0 C N Q h ce sl q Ls (x :: x :: st)) : Go p l e R s m args below meth c n0 C N Q h ce sl pc Ls (x :: st) := by
  subst hq
  exact Go.step (fun T locs target X _ S => XS.dup X.here hx rfl hd rfl hc S) G
theorem Go.pop (hx : p.tables.exec = Jvm.exec) {x : Value} (hd : decode c.code pc = .ok (.pop, 1)) (hc : x.category = 1) (hq : q = pc + 1) (G : Go p l e R s m args below meth c n0 C N Q h ce sl q Ls (st)) : Go p l e R s m args below meth c n0 C N Q h ce sl pc Ls (x :: st) := by
  subst hq
  exact Go.step (fun T locs target X _ S => XT.pop X.here hx rfl hd rfl hc S) G
theorem Go.dupX1 (hx : p.tables.exec = Jvm.exec) {x y : Value} (hd : decode c.code pc = .ok (.dup_x1, 1)) (hc : x.category = 1) (hc' : y.category = 1) (hq : q = pc + 1) (G : Go p l e R s m args below meth c n0 C N Q h ce sl q Ls (x :: y :: x :: st)) : Go p l e R s m args below meth c n0 C N Q h ce sl pc Ls (x :: y :: st) := by
  subst hq
  exact Go.step (fun T locs target X _ S => XT.dupX1 X.here hx rfl hd rfl hc hc' S) G
theorem Go.dup2 (hx : p.tables.exec = Jvm.exec) {x y : Value} (hd : decode c.code pc = .ok (.dup2, 1)) (hc : x.category = 1) (hc' : y.category = 1) (hq : q = pc + 1) (G : Go p l e R s m args below meth c n0 C N Q h ce sl q Ls (x :: y :: x :: y :: st)) : Go p l e R s m args below meth c n0 C N Q h ce sl pc Ls (x :: y :: st) := by
  subst hq
  exact Go.step (fun T locs target X _ S => XT.dup2 X.here hx rfl hd rfl hc hc' S) G
theorem Go.dup2L (hx : p.tables.exec = Jvm.exec) {x : Int64} (hd : decode c.code pc = .ok (.dup2, 1))  (hq : q = pc + 1) (G : Go p l e R s m args below meth c n0 C N Q h ce sl q Ls (.long x :: .long x :: st)) : Go p l e R s m args below meth c n0 C N Q h ce sl pc Ls (.long x :: st) := by
  subst hq
  exact Go.step (fun T locs target X _ S => XT.dup2L X.here hx rfl hd rfl S) G
theorem Go.goto (hx : p.tables.exec = Jvm.exec) {o : Int} (hd : decode c.code pc = .ok (.goto o, 3)) (ho : 0 ≤ (pc : Int) + o) (hq : ((pc : Int) + o).toNat = q) (G : Go p l e R s m args below meth c n0 C N Q h ce sl q Ls st) : Go p l e R s m args below meth c n0 C N Q h ce sl pc Ls st :=
  Go.step (fun T locs target X _ S => XS.goto X.here hx rfl rfl hd ho hq S) G
theorem Go.icmp_eq (hx : p.tables.exec = Jvm.exec) {x y : Int32} {o : Int} {t : Nat} (hd : decode c.code pc = .ok (.if_icmp .eq o, 3)) (ho : 0 ≤ (pc : Int) + o) (ht : ((pc : Int) + o).toNat = t) (hq : q = pc + 3) (Gt : x = y → Go p l e R s m args below meth c n0 C N Q h ce sl t Ls st) (Gf : ¬ x = y → Go p l e R s m args below meth c n0 C N Q h ce sl q Ls st) : Go p l e R s m args below meth c n0 C N Q h ce sl pc Ls (.int y :: .int x :: st) := by
  subst hq
  by_cases hc : x = y
  · exact Go.step (fun T locs target X _ S => XS.icmpYes X.here hx rfl rfl hd rfl (teq hc).1 ho ht S) (Gt hc)
  · exact Go.step (fun T locs target X _ S => XS.icmpNo X.here hx rfl hd rfl (feq hc).1 S) (Gf hc)
theorem Go.if_eq (hx : p.tables.exec = Jvm.exec) {x : Int32} {o : Int} {t : Nat} (hd : decode c.code pc = .ok (.ifCond .eq o, 3)) (ho : 0 ≤ (pc : Int) + o) (ht : ((pc : Int) + o).toNat = t) (hq : q = pc + 3) (Gt : x = 0 → Go p l e R s m args below meth c n0 C N Q h ce sl t Ls st) (Gf : ¬ x = 0 → Go p l e R s m args below meth c n0 C N Q h ce sl q Ls st) : Go p l e R s m args below meth c n0 C N Q h ce sl pc Ls (.int x :: st) := by
  subst hq
  by_cases hc : x = 0
  · exact Go.step (fun T locs target X _ S => XS.ifYes X.here hx rfl rfl hd rfl ((if0 _ _).trans (teq hc).1) ho ht S) (Gt hc)
  · exact Go.step (fun T locs target X _ S => XS.ifNo X.here hx rfl hd rfl ((if0 _ _).trans (feq hc).1) S) (Gf hc)
theorem Go.icmp_ne (hx : p.tables.exec = Jvm.exec) {x y : Int32} {o : Int} {t : Nat} (hd : decode c.code pc = .ok (.if_icmp .ne o, 3)) (ho : 0 ≤ (pc : Int) + o) (ht : ((pc : Int) + o).toNat = t) (hq : q = pc + 3) (Gt : ¬ x = y → Go p l e R s m args below meth c n0 C N Q h ce sl t Ls st) (Gf : x = y → Go p l e R s m args below meth c n0 C N Q h ce sl q Ls st) : Go p l e R s m args below meth c n0 C N Q h ce sl pc Ls (.int y :: .int x :: st) := by
  subst hq
  by_cases hc : x = y
  · exact Go.step (fun T locs target X _ S => XS.icmpNo X.here hx rfl hd rfl (teq hc).2 S) (Gf hc)
  · exact Go.step (fun T locs target X _ S => XS.icmpYes X.here hx rfl rfl hd rfl (feq hc).2 ho ht S) (Gt hc)
theorem Go.if_ne (hx : p.tables.exec = Jvm.exec) {x : Int32} {o : Int} {t : Nat} (hd : decode c.code pc = .ok (.ifCond .ne o, 3)) (ho : 0 ≤ (pc : Int) + o) (ht : ((pc : Int) + o).toNat = t) (hq : q = pc + 3) (Gt : ¬ x = 0 → Go p l e R s m args below meth c n0 C N Q h ce sl t Ls st) (Gf : x = 0 → Go p l e R s m args below meth c n0 C N Q h ce sl q Ls st) : Go p l e R s m args below meth c n0 C N Q h ce sl pc Ls (.int x :: st) := by
  subst hq
  by_cases hc : x = 0
  · exact Go.step (fun T locs target X _ S => XS.ifNo X.here hx rfl hd rfl ((if0 _ _).trans (teq hc).2) S) (Gf hc)
  · exact Go.step (fun T locs target X _ S => XS.ifYes X.here hx rfl rfl hd rfl ((if0 _ _).trans (feq hc).2) ho ht S) (Gt hc)
theorem Go.icmp_lt (hx : p.tables.exec = Jvm.exec) {x y : Int32} {o : Int} {t : Nat} (hd : decode c.code pc = .ok (.if_icmp .lt o, 3)) (ho : 0 ≤ (pc : Int) + o) (ht : ((pc : Int) + o).toNat = t) (hq : q = pc + 3) (Gt : x < y → Go p l e R s m args below meth c n0 C N Q h ce sl t Ls st) (Gf : ¬ x < y → Go p l e R s m args below meth c n0 C N Q h ce sl q Ls st) : Go p l e R s m args below meth c n0 C N Q h ce sl pc Ls (.int y :: .int x :: st) := by
  subst hq
  by_cases hc : x < y
  · exact Go.step (fun T locs target X _ S => XS.icmpYes X.here hx rfl rfl hd rfl (tlt hc).1 ho ht S) (Gt hc)
  · exact Go.step (fun T locs target X _ S => XS.icmpNo X.here hx rfl hd rfl (flt hc).1 S) (Gf hc)
theorem Go.if_lt (hx : p.tables.exec = Jvm.exec) {x : Int32} {o : Int} {t : Nat} (hd : decode c.code pc = .ok (.ifCond .lt o, 3)) (ho : 0 ≤ (pc : Int) + o) (ht : ((pc : Int) + o).toNat = t) (hq : q = pc + 3) (Gt : x < 0 → Go p l e R s m args below meth c n0 C N Q h ce sl t Ls st) (Gf : ¬ x < 0 → Go p l e R s m args below meth c n0 C N Q h ce sl q Ls st) : Go p l e R s m args below meth c n0 C N Q h ce sl pc Ls (.int x :: st) := by
  subst hq
  by_cases hc : x < 0
  · exact Go.step (fun T locs target X _ S => XS.ifYes X.here hx rfl rfl hd rfl ((if0 _ _).trans (tlt hc).1) ho ht S) (Gt hc)
  · exact Go.step (fun T locs target X _ S => XS.ifNo X.here hx rfl hd rfl ((if0 _ _).trans (flt hc).1) S) (Gf hc)
theorem Go.icmp_ge (hx : p.tables.exec = Jvm.exec) {x y : Int32} {o : Int} {t : Nat} (hd : decode c.code pc = .ok (.if_icmp .ge o, 3)) (ho : 0 ≤ (pc : Int) + o) (ht : ((pc : Int) + o).toNat = t) (hq : q = pc + 3) (Gt : ¬ x < y → Go p l e R s m args below meth c n0 C N Q h ce sl t Ls st) (Gf : x < y → Go p l e R s m args below meth c n0 C N Q h ce sl q Ls st) : Go p l e R s m args below meth c n0 C N Q h ce sl pc Ls (.int y :: .int x :: st) := by
  subst hq
  by_cases hc : x < y
  · exact Go.step (fun T locs target X _ S => XS.icmpNo X.here hx rfl hd rfl (tlt hc).2.1 S) (Gf hc)
  · exact Go.step (fun T locs target X _ S => XS.icmpYes X.here hx rfl rfl hd rfl (flt hc).2.1 ho ht S) (Gt hc)
theorem Go.if_ge (hx : p.tables.exec = Jvm.exec) {x : Int32} {o : Int} {t : Nat} (hd : decode c.code pc = .ok (.ifCond .ge o, 3)) (ho : 0 ≤ (pc : Int) + o) (ht : ((pc : Int) + o).toNat = t) (hq : q = pc + 3) (Gt : ¬ x < 0 → Go p l e R s m args below meth c n0 C N Q h ce sl t Ls st) (Gf : x < 0 → Go p l e R s m args below meth c n0 C N Q h ce sl q Ls st) : Go p l e R s m args below meth c n0 C N Q h ce sl pc Ls (.int x :: st) := by
  subst hq
  by_cases hc : x < 0
  · exact Go.step (fun T locs target X _ S => XS.ifNo X.here hx rfl hd rfl ((if0 _ _).trans (tlt hc).2.1) S) (Gf hc)
  · exact Go.step (fun T locs target X _ S => XS.ifYes X.here hx rfl rfl hd rfl ((if0 _ _).trans (flt hc).2.1) ho ht S) (Gt hc)
theorem Go.icmp_gt (hx : p.tables.exec = Jvm.exec) {x y : Int32} {o : Int} {t : Nat} (hd : decode c.code pc = .ok (.if_icmp .gt o, 3)) (ho : 0 ≤ (pc : Int) + o) (ht : ((pc : Int) + o).toNat = t) (hq : q = pc + 3) (Gt : y < x → Go p l e R s m args below meth c n0 C N Q h ce sl t Ls st) (Gf : ¬ y < x → Go p l e R s m args below meth c n0 C N Q h ce sl q Ls st) : Go p l e R s m args below meth c n0 C N Q h ce sl pc Ls (.int y :: .int x :: st) := by
  subst hq
  by_cases hc : y < x
  · exact Go.step (fun T locs target X _ S => XS.icmpYes X.here hx rfl rfl hd rfl (tlt hc).2.2.1 ho ht S) (Gt hc)
  · exact Go.step (fun T locs target X _ S => XS.icmpNo X.here hx rfl hd rfl (flt hc).2.2.1 S) (Gf hc)
theorem Go.if_gt (hx : p.tables.exec = Jvm.exec) {x : Int32} {o : Int} {t : Nat} (hd : decode c.code pc = .ok (.ifCond .gt o, 3)) (ho : 0 ≤ (pc : Int) + o) (ht : ((pc : Int) + o).toNat = t) (hq : q = pc + 3) (Gt : 0 < x → Go p l e R s m args below meth c n0 C N Q h ce sl t Ls st) (Gf : ¬ 0 < x → Go p l e R s m args below meth c n0 C N Q h ce sl q Ls st) : Go p l e R s m args below meth c n0 C N Q h ce sl pc Ls (.int x :: st) := by
  subst hq
  by_cases hc : 0 < x
  · exact Go.step (fun T locs target X _ S => XS.ifYes X.here hx rfl rfl hd rfl ((if0 _ _).trans (tlt hc).2.2.1) ho ht S) (Gt hc)
  · exact Go.step (fun T locs target X _ S => XS.ifNo X.here hx rfl hd rfl ((if0 _ _).trans (flt hc).2.2.1) S) (Gf hc)
theorem Go.icmp_le (hx : p.tables.exec = Jvm.exec) {x y : Int32} {o : Int} {t : Nat} (hd : decode c.code pc = .ok (.if_icmp .le o, 3)) (ho : 0 ≤ (pc : Int) + o) (ht : ((pc : Int) + o).toNat = t) (hq : q = pc + 3) (Gt : ¬ y < x → Go p l e R s m args below meth c n0 C N Q h ce sl t Ls st) (Gf : y < x → Go p l e R s m args below meth c n0 C N Q h ce sl q Ls st) : Go p l e R s m args below meth c n0 C N Q h ce sl pc Ls (.int y :: .int x :: st) := by
  subst hq
  by_cases hc : y < x
  · exact Go.step (fun T locs target X _ S => XS.icmpNo X.here hx rfl hd rfl (tlt hc).2.2.2 S) (Gf hc)
  · exact Go.step (fun T locs target X _ S => XS.icmpYes X.here hx rfl rfl hd rfl (flt hc).2.2.2 ho ht S) (Gt hc)
theorem Go.if_le (hx : p.tables.exec = Jvm.exec) {x : Int32} {o : Int} {t : Nat} (hd : decode c.code pc = .ok (.ifCond .le o, 3)) (ho : 0 ≤ (pc : Int) + o) (ht : ((pc : Int) + o).toNat = t) (hq : q = pc + 3) (Gt : ¬ 0 < x → Go p l e R s m args below meth c n0 C N Q h ce sl t Ls st) (Gf : 0 < x → Go p l e R s m args below meth c n0 C N Q h ce sl q Ls st) : Go p l e R s m args below meth c n0 C N Q h ce sl pc Ls (.int x :: st) := by
  subst hq
  by_cases hc : 0 < x
  · exact Go.step (fun T locs target X _ S => XS.ifNo X.here hx rfl hd rfl ((if0 _ _).trans (tlt hc).2.2.2) S) (Gf hc)
  · exact Go.step (fun T locs target X _ S => XS.ifYes X.here hx rfl rfl hd rfl ((if0 _ _).trans (flt hc).2.2.2) ho ht S) (Gt hc)
theorem Go.ifnullT (hx : p.tables.exec = Jvm.exec) {b : Addr} {o : Int} {t : Nat} (hd : decode c.code pc = .ok (.ifnull o, 3)) (ho : 0 ≤ (pc : Int) + o) (ht : ((pc : Int) + o).toNat = t) (G : Go p l e R s m args below meth c n0 C N Q h ce sl t Ls st) : Go p l e R s m args below meth c n0 C N Q h ce sl pc Ls (.null :: st) :=
  Go.step (fun T locs target X _ S => XS.ifnullYes X.here hx rfl rfl hd rfl ho ht S) G
theorem Go.ifnullF (hx : p.tables.exec = Jvm.exec) {b : Addr} {o : Int} (hd : decode c.code pc = .ok (.ifnull o, 3)) (hq : q = pc + 3) (G : Go p l e R s m args below meth c n0 C N Q h ce sl q Ls st) : Go p l e R s m args below meth c n0 C N Q h ce sl pc Ls (.ref b :: st) := by
  subst hq
  exact Go.step (fun T locs target X _ S => XS.ifnullNo X.here hx rfl hd rfl S) G
theorem Go.ifnonnullT (hx : p.tables.exec = Jvm.exec) {b : Addr} {o : Int} {t : Nat} (hd : decode c.code pc = .ok (.ifnonnull o, 3)) (ho : 0 ≤ (pc : Int) + o) (ht : ((pc : Int) + o).toNat = t) (G : Go p l e R s m args below meth c n0 C N Q h ce sl t Ls st) : Go p l e R s m args below meth c n0 C N Q h ce sl pc Ls (.ref b :: st) :=
  Go.step (fun T locs target X _ S => XT.ifnonnullYes X.here hx rfl rfl hd rfl ho ht S) G
theorem Go.ifnonnullF (hx : p.tables.exec = Jvm.exec) {b : Addr} {o : Int} (hd : decode c.code pc = .ok (.ifnonnull o, 3)) (hq : q = pc + 3) (G : Go p l e R s m args below meth c n0 C N Q h ce sl q Ls st) : Go p l e R s m args below meth c n0 C N Q h ce sl pc Ls (.null :: st) := by
  subst hq
  exact Go.step (fun T locs target X _ S => XT.ifnonnullNo X.here hx rfl hd rfl S) G
theorem Go.acmp_eq (hx : p.tables.exec = Jvm.exec) {x y : Value} {o : Int} {t : Nat} (hvx : x.isRef = true) (hvy : y.isRef = true) (hd : decode c.code pc = .ok (.if_acmp .eq o, 3)) (ho : 0 ≤ (pc : Int) + o) (ht : ((pc : Int) + o).toNat = t) (hq : q = pc + 3) (Gt : x = y → Go p l e R s m args below meth c n0 C N Q h ce sl t Ls st) (Gf : ¬ x = y → Go p l e R s m args below meth c n0 C N Q h ce sl q Ls st) : Go p l e R s m args below meth c n0 C N Q h ce sl pc Ls (y :: x :: st) := by
  subst hq
  by_cases hc : x = y
  · exact Go.step (fun T locs target X _ S => XT.acmpYes X.here hx rfl rfl hd rfl hvx hvy (by simp [XT.acmp, hc]) ho ht S) (Gt hc)
  · exact Go.step (fun T locs target X _ S => XT.acmpNo X.here hx rfl hd rfl hvx hvy (by simp [XT.acmp, hc]) S) (Gf hc)
theorem Go.acmp_ne (hx : p.tables.exec = Jvm.exec) {x y : Value} {o : Int} {t : Nat} (hvx : x.isRef = true) (hvy : y.isRef = true) (hd : decode c.code pc = .ok (.if_acmp .ne o, 3)) (ho : 0 ≤ (pc : Int) + o) (ht : ((pc : Int) + o).toNat = t) (hq : q = pc + 3) (Gt : ¬ x = y → Go p l e R s m args below meth c n0 C N Q h ce sl t Ls st) (Gf : x = y → Go p l e R s m args below meth c n0 C N Q h ce sl q Ls st) : Go p l e R s m args below meth c n0 C N Q h ce sl pc Ls (y :: x :: st) := by
  subst hq
  by_cases hc : x = y
  · exact Go.step (fun T locs target X _ S => XT.acmpNo X.here hx rfl hd rfl hvx hvy (by simp [XT.acmp, hc]) S) (Gf hc)
  · exact Go.step (fun T locs target X _ S => XT.acmpYes X.here hx rfl rfl hd rfl hvx hvy (by simp [XT.acmp, hc]) ho ht S) (Gt hc)
theorem Go.retV (hx : p.tables.exec = Jvm.exec) {wv : Value} {t : FieldType} {i : Instr} (hret : meth.sig.returnType = some t) (hlk : meth.locks = false) (hn : narrow t wv = wv)
    (hi : (i = .ireturn ∧ (t = .int ∨ t = .boolean ∨ t = .byte ∨ t = .char ∨ t = .short) ∧ ∃ z, wv = .int z) ∨ (i = .lreturn ∧ t = .long ∧ ∃ z, wv = .long z) ∨ (i = .dreturn ∧ t = .double ∧ ∃ z, wv = .double z) ∨ (i = .freturn ∧ t = .float ∧ ∃ z, wv = .float z) ∨ (i = .areturn ∧ t.isReference = true ∧ wv.isRef = true))
    (hd : decode c.code pc = .ok (i, 1)) (hc : ce ≤ C) (hs : sl ≤ N) (hQ : Q (some wv) h) : Go p l e R s m args below meth c n0 C N Q h ce sl pc Ls (wv :: st) := fun T locs X Nf eT => by
  obtain ⟨fs, hr, hrun, hended, hW, hsame⟩ := X.leave (v := some wv) (fun hh => by rw [hret] at hh; cases hh)
  refine ⟨_, _, _, retOut X hx hret hn hi hd hr, hrun, hended, ?_, Nf, ⟨_, rfl⟩, hW, hsame.mono hc hs⟩
  show Q _ T.heap
  rw [eT]; exact hQ
theorem Go.retI (hx : p.tables.exec = Jvm.exec) {z : Int32} (hret : meth.sig.returnType = some .int) (hlk : meth.locks = false) (hd : decode c.code pc = .ok (.ireturn, 1)) (hc : ce ≤ C) (hs : sl ≤ N) (hQ : Q (some (.int z)) h) : Go p l e R s m args below meth c n0 C N Q h ce sl pc Ls (.int z :: st) :=
  Go.retV hx hret hlk rfl (Or.inl ⟨rfl, Or.inl rfl, _, rfl⟩) hd hc hs hQ
theorem Go.retL (hx : p.tables.exec = Jvm.exec) {z : Int64} (hret : meth.sig.returnType = some .long) (hlk : meth.locks = false) (hd : decode c.code pc = .ok (.lreturn, 1)) (hc : ce ≤ C) (hs : sl ≤ N) (hQ : Q (some (.long z)) h) : Go p l e R s m args below meth c n0 C N Q h ce sl pc Ls (.long z :: st) :=
  Go.retV hx hret hlk rfl (Or.inr (Or.inl ⟨rfl, rfl, _, rfl⟩)) hd hc hs hQ
theorem Go.retA (hx : p.tables.exec = Jvm.exec) {wv : Value} {t : FieldType} (hret : meth.sig.returnType = some t) (ht : t.isReference = true) (hv : wv.isRef = true) (hlk : meth.locks = false) (hd : decode c.code pc = .ok (.areturn, 1)) (hc : ce ≤ C) (hs : sl ≤ N) (hQ : Q (some wv) h) : Go p l e R s m args below meth c n0 C N Q h ce sl pc Ls (wv :: st) :=
  Go.retV hx hret hlk (by cases wv <;> cases t <;> simp_all [Value.isRef, FieldType.isReference, narrow]) (Or.inr (Or.inr (Or.inr (Or.inr ⟨rfl, ht, hv⟩)))) hd hc hs hQ
theorem Go.retN (hx : p.tables.exec = Jvm.exec) {z : Int32} {t : FieldType} (hret : meth.sig.returnType = some t) (ht : t = .boolean ∨ t = .byte ∨ t = .char ∨ t = .short) (hlk : meth.locks = false) (hd : decode c.code pc = .ok (.ireturn, 1)) (hc : ce ≤ C) (hs : sl ≤ N) (hQ : Q (some (.int (nar t z))) h) : Go p l e R s m args below meth c n0 C N Q h ce sl pc Ls (.int z :: st) := fun T locs X Nf eT => by
  obtain ⟨fs, hr, hrun, hended, hW, hsame⟩ := X.leave (v := some (.int (nar t z))) (fun hh => by rw [hret] at hh; cases hh)
  refine ⟨_, _, _, Jvm.RoadKit.retN X hx hret ht hd hr, hrun, hended, ?_, Nf, ⟨_, rfl⟩, hW, hsame.mono hc hs⟩
  show Q _ T.heap
  rw [eT]; exact hQ
theorem Go.ret0 (hx : p.tables.exec = Jvm.exec) (hret : meth.sig.returnType = none) (hlk : meth.locks = false) (hd : decode c.code pc = .ok (.return_, 1)) (hc : ce ≤ C) (hs : sl ≤ N) (hQ : Q none h) : Go p l e R s m args below meth c n0 C N Q h ce sl pc Ls [] := fun T locs X Nf eT => by
  obtain ⟨fs, hr, hrun, hended, hW, hsame⟩ := X.leave (v := none) (fun _ => rfl)
  refine ⟨_, _, _, X.returnOut hx hret hd hr, hrun, hended, ?_, Nf, ⟨_, rfl⟩, hW, hsame.mono hc hs⟩
  show Q _ T.heap
  rw [eT]; exact hQ
theorem Go.getF (hx : p.tables.exec = Jvm.exec) (hZ : Z.Warmed39 s.vm) {own R0 O n d host : String} {index : Nat} (hown : s.vm.findClass own = some m.cls) (hw : (Cond.fieldLink own index R0 n d).before a0 Z = true ∨ (Cond.fieldLinkNest own index R0 n d host).before a0 Z = true) (via : Via Z R0 O n d) {a : Addr} {v : Value} (F : Fld Z h a O n d v) (hd : decode c.code pc = .ok (.getfield index, 3)) (hq : q = pc + 3) (G : Go p l e R s m args below meth c n0 C N Q h ce sl q Ls (v :: st)) : Go p l e R s m args below meth c n0 C N Q h ce sl pc Ls (.ref a :: st) := by
  subst hq
  exact Go.law (fun T locs X eT => Jvm.RoadKit.getF X hx hZ hown hw via eT F (g := mkF m pc Ls (.ref a :: st)) rfl rfl hd) G
theorem Go.getS (hx : p.tables.exec = Jvm.exec) (hZ : Z.Warmed39 s.vm) {own R0 O n d host : String} {index : Nat} (hown : s.vm.findClass own = some m.cls) (hw : (Cond.fieldLink own index R0 n d).before a0 Z = true ∨ (Cond.fieldLinkNest own index R0 n d host).before a0 Z = true) (via : Via Z R0 O n d) {v : Value} (F : Sta Z h O n d v) (hd : decode c.code pc = .ok (.getstatic index, 3)) (hq : q = pc + 3) (G : Go p l e R s m args below meth c n0 C N Q h ce sl q Ls (v :: st)) : Go p l e R s m args below meth c n0 C N Q h ce sl pc Ls st := by
  subst hq
  exact Go.law (fun T locs X eT => Jvm.RoadKit.getS2 (host := host) X hx hZ hown hw via eT F (g := mkF m pc Ls st) rfl hd) G
theorem Go.putF (hx : p.tables.exec = Jvm.exec) (hZ : Z.Warmed39 s.vm) {own R0 O n d host C' : String} {index kk : Nat} {ty : FieldType} (hown : s.vm.findClass own = some m.cls) (hw : (Cond.fieldLink own index R0 n d).before a0 Z = true ∨ (Cond.fieldLinkNest own index R0 n d host).before a0 Z = true) (via : Via Z R0 O n d) {a : Addr} {v old : Value} (F : Fld Z h a O n d old) (E : Exa Z h a C') (L : (Cond.lays C' O n d).before a0 Z = true ∨ ((Cond.laysFinal C' O n d).before a0 Z = true ∧ own = O ∧ meth.name = "<init>")) (wi : (Cond.instantiable C' kk).before a0 Z = true)
    (hty : parseFieldDescriptor d = some ty) (hn : narrow ty v = v) (hf : fits ty v = true) (ha : n0 ≤ a) (hd : decode c.code pc = .ok (.putfield index, 3)) (hq : q = pc + 3) (G : ∀ h', Wr h h' a (Jvm.RoadKit.slotOf Z O n d) v → Go p l e R s m args below meth c n0 C N Q h' ce sl q Ls st) : Go p l e R s m args below meth c n0 C N Q h ce sl pc Ls (v :: .ref a :: st) := fun T locs X Nf eT => by
  subst hq
  obtain ⟨T', h', X', eT', W, hs⟩ := Jvm.RoadKit.putF X hx hZ hown hw via eT F E L wi hty hn hf (g := mkF m pc Ls (v :: .ref a :: st)) rfl rfl hd
  obtain ⟨s₂, v', L', S, r⟩ := G h' W T' _ X' (Fr.snoc X' Nf ha) eT'
  exact ⟨s₂, v', L', hs _ S, r⟩
theorem Go.newO (hx : p.tables.exec = Jvm.exec) (hZ : Z.Warmed39 s.vm) {own C' : String} {index n ce' sl' : Nat} (hown : s.vm.findClass own = some m.cls) (w1 : (Cond.classLink own index C').before a0 Z = true) (wi : (Cond.instantiable C' n).before a0 Z = true) (wz : (Cond.initialized C').before a0 Z = true) (hd : decode c.code pc = .ok (.new index, 3)) (hq : q = pc + 3) (hce : ce + 1 = ce') (hsl : sl + n = sl') (hc : ce' ≤ R.cells) (hl : sl' ≤ R.slots)
    (G : ∀ (h' : Heap) (a : Addr), a = h.size → Ext h h' → Exa Z h' a C' → (∀ {O nm d : String} {ty : FieldType}, Laid Z a0 C' O nm d → parseFieldDescriptor d = some ty → Fld Z h' a O nm d (defaultValue ty)) → Go p l e R s m args below meth c n0 C N Q h' ce' sl' q Ls (.ref a :: st)) : Go p l e R s m args below meth c n0 C N Q h ce sl pc Ls st := fun T locs X Nf eT => by
  subst hq hce hsl
  obtain ⟨T', h', X', eT', E, A, D, -, hs⟩ := Jvm.RoadKit.newO X hx hZ hown w1 wi wz eT (g := mkF m pc Ls st) rfl hd hc hl
  obtain ⟨s₂, v', L', S, r⟩ := G h' _ rfl E A D T' _ X' Nf eT'
  exact ⟨s₂, v', L', hs _ S, r⟩
theorem Go.newP (hx : p.tables.exec = Jvm.exec) (hZ : Z.Warmed39 s.vm) {aty : ArrayType} {cap ce' sl' : Nat} (wa : (Cond.arrayClass (newarray.typeOf aty)).before a0 Z = true) {n : Int32} (hn : ¬ n < 0) (hcap : n.toNatClampNeg ≤ cap) (hd : decode c.code pc = .ok (.newarray aty, 2)) (hq : q = pc + 2) (hb : cap * 8 ≤ 536870912) (hce : ce + 1 = ce') (hsl : sl + cap = sl') (hc : ce' ≤ R.cells) (hl : sl' ≤ R.slots)
    (G : ∀ (h' : Heap) (a : Addr) (k : ClassId), a = h.size → Ext h h' → Arv Z h' a k (newarray.typeOf aty) n [] (defaultValue (newarray.typeOf aty)) → Go p l e R s m args below meth c n0 C N Q h' ce' sl' q Ls (.ref a :: st)) : Go p l e R s m args below meth c n0 C N Q h ce sl pc Ls (.int n :: st) := fun T locs X Nf eT => by
  subst hq hce hsl
  obtain ⟨T', h', k, X', eT', E, A, hs⟩ := Jvm.RoadKit.newP X hx hZ wa eT (g := mkF m pc Ls (.int n :: st)) rfl hd rfl hn hcap hb hc hl
  obtain ⟨s₂, v', L', S, r⟩ := G h' _ k rfl E (Arv.new A hn) T' _ X' Nf eT'
  exact ⟨s₂, v', L', hs _ S, r⟩
theorem Go.newR (hx : p.tables.exec = Jvm.exec) (hZ : Z.Warmed39 s.vm) {own C' : String} {index cap ce' sl' : Nat} (hown : s.vm.findClass own = some m.cls) (w1 : (Cond.classLink own index C').before a0 Z = true) (w2 : (Cond.arrayOver (.object C')).before a0 Z = true) {n : Int32} (hn : ¬ n < 0) (hcap : n.toNatClampNeg ≤ cap) (hd : decode c.code pc = .ok (.anewarray index, 3)) (hq : q = pc + 3) (hb : cap * 8 ≤ 536870912) (hce : ce + 1 = ce') (hsl : sl + cap = sl') (hc : ce' ≤ R.cells) (hl : sl' ≤ R.slots)
    (G : ∀ (h' : Heap) (a : Addr) (k : ClassId), a = h.size → Ext h h' → Arv Z h' a k (.object C') n [] .null → Ovr Z k C' → Go p l e R s m args below meth c n0 C N Q h' ce' sl' q Ls (.ref a :: st)) : Go p l e R s m args below meth c n0 C N Q h ce sl pc Ls (.int n :: st) := fun T locs X Nf eT => by
  subst hq hce hsl
  obtain ⟨T', h', k, X', eT', E, A, O, hs⟩ := Jvm.RoadKit.newR X hx hZ hown w1 w2 eT (g := mkF m pc Ls (.int n :: st)) rfl hd rfl hn hcap hb hc hl
  obtain ⟨s₂, v', L', S, r⟩ := G h' _ k rfl E (Arv.new A hn) O T' _ X' Nf eT'
  exact ⟨s₂, v', L', hs _ S, r⟩
theorem Go.initO (hx : p.tables.exec = Jvm.exec) (hZ : Z.Warmed39 s.vm) {own : String} {idx : Nat} (hown : s.vm.findClass own = some m.cls) (w1 : (Cond.methodLink own idx Lib.objectInit).before a0 Z = true) (w2 : (Cond.instanceMethod Lib.objectInit).before a0 Z = true) (w3 : (Cond.code Lib.objectInit ⟨#[0xb1]⟩ 1 none).before a0 Z = true) (hsize : Ls.size = c.maxLocals) {a : Addr} (hd : decode c.code pc = .ok (.invokespecial idx, 3)) (hq : q = pc + 3) (hf : 1 ≤ R.frames) (hl : (st.map fun v => v.category).sum + 12 ≤ R.locals) (G : Go p l e R s m args below meth c n0 C N Q h ce sl q Ls st) : Go p l e R s m args below meth c n0 C N Q h ce sl pc Ls (.ref a :: st) := by
  subst hq
  exact Go.law (fun T locs X eT => Jvm.RoadKit.initO X hx hZ hown w1 w2 w3 eT (g := mkF m pc Ls (.ref a :: st)) rfl hsize rfl hd hf (W := (st.map fun v => v.category).sum) (by show 2 * 0 + _ ≤ _; omega) hl) G
theorem Go.castY (hx : p.tables.exec = Jvm.exec) (hZ : Z.Warmed39 s.vm) {own K : String} {index : Nat} (hown : s.vm.findClass own = some m.cls) (w1 : (Cond.classLink own index K).before a0 Z = true) {a : Addr} (F : Ins Z h a K true) (hd : decode c.code pc = .ok (.checkcast index, 3)) (hq : q = pc + 3) (G : Go p l e R s m args below meth c n0 C N Q h ce sl q Ls (.ref a :: st)) : Go p l e R s m args below meth c n0 C N Q h ce sl pc Ls (.ref a :: st) := by
  subst hq
  exact Go.law (fun T locs X eT => Jvm.RoadKit.castY X hx hZ hown w1 eT F (g := mkF m pc Ls (.ref a :: st)) rfl rfl hd) G
theorem Go.instY (hx : p.tables.exec = Jvm.exec) (hZ : Z.Warmed39 s.vm) {own K : String} {index : Nat} (hown : s.vm.findClass own = some m.cls) (w1 : (Cond.classLink own index K).before a0 Z = true) {a : Addr} (F : Ins Z h a K true) (hd : decode c.code pc = .ok (.instanceof index, 3)) (hq : q = pc + 3) (G : Go p l e R s m args below meth c n0 C N Q h ce sl q Ls (.int 1 :: st)) : Go p l e R s m args below meth c n0 C N Q h ce sl pc Ls (.ref a :: st) := by
  subst hq
  exact Go.law (fun T locs X eT => Jvm.RoadKit.instY X hx hZ hown w1 eT F (g := mkF m pc Ls (.ref a :: st)) rfl rfl hd) G
theorem Go.alen (hx : p.tables.exec = Jvm.exec) (hZ : Z.Warmed39 s.vm) {a : Addr} {k : ClassId} {ty : FieldType} {n : Int32} {vs : List Value} {dv : Value} (A : Arv Z h a k ty n vs dv) (hd : decode c.code pc = .ok (.arraylength, 1)) (hq : q = pc + 1) (G : Go p l e R s m args below meth c n0 C N Q h ce sl q Ls (.int n :: st)) : Go p l e R s m args below meth c n0 C N Q h ce sl pc Ls (.ref a :: st) := by
  subst hq
  obtain ⟨cl, Ar, q1, S1, N1, H1, F1⟩ := A
  refine Go.step (fun T locs target X eT S => X.arraylength hx (by rw [eT]; exact Ar.1) (State.isArrayOf_alike hZ.alike Ar.2.1) (g := mkF m pc Ls (.ref a :: st)) rfl rfl hd target ?_) G
  rw [len_of S1 N1]; exact S
theorem Go.baload (hx : p.tables.exec = Jvm.exec) (hZ : Z.Warmed39 s.vm) {a : Addr} {k : ClassId} {n j : Int32} {vs : List Value} {dv v : Value} (A : Arv Z h a k .byte n vs dv) (hj : ¬ j < 0 ∧ j < n) (hv : vs.getD j.toNatClampNeg dv = v) (hd : decode c.code pc = .ok (.baload, 1)) (hq : q = pc + 1) (G : Go p l e R s m args below meth c n0 C N Q h ce sl q Ls (v :: st)) : Go p l e R s m args below meth c n0 C N Q h ce sl pc Ls (.int j :: .ref a :: st) := by
  subst hq
  obtain ⟨cl, Ar, q1, S1, N1, H1, F1⟩ := A
  exact Go.step (fun T locs target X eT S => X.baloadBytes hx (by rw [eT]; exact Ar.1) (State.isArrayOf_alike hZ.alike Ar.2.1) Ar.2.2 (inb_of S1 hj) (H1.at (inb_of S1 hj) hv) (g := mkF m pc Ls (.int j :: .ref a :: st)) rfl rfl hd target S) G
theorem Go.zaload (hx : p.tables.exec = Jvm.exec) (hZ : Z.Warmed39 s.vm) {a : Addr} {k : ClassId} {n j : Int32} {vs : List Value} {dv v : Value} (A : Arv Z h a k .boolean n vs dv) (hj : ¬ j < 0 ∧ j < n) (hv : vs.getD j.toNatClampNeg dv = v) (hd : decode c.code pc = .ok (.baload, 1)) (hq : q = pc + 1) (G : Go p l e R s m args below meth c n0 C N Q h ce sl q Ls (v :: st)) : Go p l e R s m args below meth c n0 C N Q h ce sl pc Ls (.int j :: .ref a :: st) := by
  subst hq
  obtain ⟨cl, Ar, q1, S1, N1, H1, F1⟩ := A
  exact Go.step (fun T locs target X eT S => X.baloadBooleans hx (by rw [eT]; exact Ar.1) (State.isArrayOf_alike hZ.alike Ar.2.1) Ar.2.2 (inb_of S1 hj) (H1.at (inb_of S1 hj) hv) (g := mkF m pc Ls (.int j :: .ref a :: st)) rfl rfl hd target S) G
theorem Go.caload (hx : p.tables.exec = Jvm.exec) (hZ : Z.Warmed39 s.vm) {a : Addr} {k : ClassId} {n j : Int32} {vs : List Value} {dv v : Value} (A : Arv Z h a k .char n vs dv) (hj : ¬ j < 0 ∧ j < n) (hv : vs.getD j.toNatClampNeg dv = v) (hd : decode c.code pc = .ok (.caload, 1)) (hq : q = pc + 1) (G : Go p l e R s m args below meth c n0 C N Q h ce sl q Ls (v :: st)) : Go p l e R s m args below meth c n0 C N Q h ce sl pc Ls (.int j :: .ref a :: st) := by
  subst hq
  obtain ⟨cl, Ar, q1, S1, N1, H1, F1⟩ := A
  exact Go.step (fun T locs target X eT S => X.caload hx (by rw [eT]; exact Ar.1) (State.isArrayOf_alike hZ.alike Ar.2.1) Ar.2.2 (inb_of S1 hj) (H1.at (inb_of S1 hj) hv) (g := mkF m pc Ls (.int j :: .ref a :: st)) rfl rfl hd target S) G
theorem Go.saload (hx : p.tables.exec = Jvm.exec) (hZ : Z.Warmed39 s.vm) {a : Addr} {k : ClassId} {n j : Int32} {vs : List Value} {dv v : Value} (A : Arv Z h a k .short n vs dv) (hj : ¬ j < 0 ∧ j < n) (hv : vs.getD j.toNatClampNeg dv = v) (hd : decode c.code pc = .ok (.saload, 1)) (hq : q = pc + 1) (G : Go p l e R s m args below meth c n0 C N Q h ce sl q Ls (v :: st)) : Go p l e R s m args below meth c n0 C N Q h ce sl pc Ls (.int j :: .ref a :: st) := by
  subst hq
  obtain ⟨cl, Ar, q1, S1, N1, H1, F1⟩ := A
  exact Go.step (fun T locs target X eT S => X.saload hx (by rw [eT]; exact Ar.1) (State.isArrayOf_alike hZ.alike Ar.2.1) Ar.2.2 (inb_of S1 hj) (H1.at (inb_of S1 hj) hv) (g := mkF m pc Ls (.int j :: .ref a :: st)) rfl rfl hd target S) G
theorem Go.iaload (hx : p.tables.exec = Jvm.exec) (hZ : Z.Warmed39 s.vm) {a : Addr} {k : ClassId} {n j : Int32} {vs : List Value} {dv v : Value} (A : Arv Z h a k .int n vs dv) (hj : ¬ j < 0 ∧ j < n) (hv : vs.getD j.toNatClampNeg dv = v) (hd : decode c.code pc = .ok (.iaload, 1)) (hq : q = pc + 1) (G : Go p l e R s m args below meth c n0 C N Q h ce sl q Ls (v :: st)) : Go p l e R s m args below meth c n0 C N Q h ce sl pc Ls (.int j :: .ref a :: st) := by
  subst hq
  obtain ⟨cl, Ar, q1, S1, N1, H1, F1⟩ := A
  exact Go.step (fun T locs target X eT S => X.iaload hx (by rw [eT]; exact Ar.1) (State.isArrayOf_alike hZ.alike Ar.2.1) Ar.2.2 (inb_of S1 hj) (H1.at (inb_of S1 hj) hv) (g := mkF m pc Ls (.int j :: .ref a :: st)) rfl rfl hd target S) G
theorem Go.laload (hx : p.tables.exec = Jvm.exec) (hZ : Z.Warmed39 s.vm) {a : Addr} {k : ClassId} {n j : Int32} {vs : List Value} {dv v : Value} (A : Arv Z h a k .long n vs dv) (hj : ¬ j < 0 ∧ j < n) (hv : vs.getD j.toNatClampNeg dv = v) (hd : decode c.code pc = .ok (.laload, 1)) (hq : q = pc + 1) (G : Go p l e R s m args below meth c n0 C N Q h ce sl q Ls (v :: st)) : Go p l e R s m args below meth c n0 C N Q h ce sl pc Ls (.int j :: .ref a :: st) := by
  subst hq
  obtain ⟨cl, Ar, q1, S1, N1, H1, F1⟩ := A
  exact Go.step (fun T locs target X eT S => X.laload hx (by rw [eT]; exact Ar.1) (State.isArrayOf_alike hZ.alike Ar.2.1) Ar.2.2 (inb_of S1 hj) (H1.at (inb_of S1 hj) hv) (g := mkF m pc Ls (.int j :: .ref a :: st)) rfl rfl hd target S) G
theorem Go.aaload (hx : p.tables.exec = Jvm.exec) (hZ : Z.Warmed39 s.vm) {a : Addr} {k : ClassId} {ty : FieldType} {n j : Int32} {vs : List Value} {dv v : Value} (A : Arv Z h a k ty n vs dv) (hty : ty.isReference = true) (hj : ¬ j < 0 ∧ j < n) (hv : vs.getD j.toNatClampNeg dv = v) (hd : decode c.code pc = .ok (.aaload, 1)) (hq : q = pc + 1) (G : Go p l e R s m args below meth c n0 C N Q h ce sl q Ls (v :: st)) : Go p l e R s m args below meth c n0 C N Q h ce sl pc Ls (.int j :: .ref a :: st) := by
  subst hq
  obtain ⟨cl, Ar, q1, S1, N1, H1, F1⟩ := A
  exact Go.step (fun T locs target X eT S => X.aaload hx (by rw [eT]; exact Ar.1) (State.isArrayOf_alike hZ.alike Ar.2.1) hty Ar.2.2 (inb_of S1 hj) (H1.at (inb_of S1 hj) hv) (g := mkF m pc Ls (.int j :: .ref a :: st)) rfl rfl hd target S) G
theorem Go.bastore (hx : p.tables.exec = Jvm.exec) (hZ : Z.Warmed39 s.vm) {a : Addr} {k : ClassId} {n j x : Int32} {vs : List Value} {dv : Value} (A : Arv Z h a k .byte n vs dv) (hj : ¬ j < 0 ∧ j < n) (i : Nat) (hi : j.toNatClampNeg = i) (hlen : i < vs.length) (ha : n0 ≤ a) (hd : decode c.code pc = .ok (.bastore, 1)) (hq : q = pc + 1)
    (G : ∀ h', Wr h h' a j.toNatClampNeg (.int (nar .byte x)) → Arv Z h' a k .byte n (vs.set i (.int (nar .byte x))) dv → Go p l e R s m args below meth c n0 C N Q h' ce sl q Ls st) : Go p l e R s m args below meth c n0 C N Q h ce sl pc Ls (.int x :: .int j :: .ref a :: st) := fun T locs X Nf eT => by
  subst hq
  obtain ⟨cl, Ar, q1, S1, N1, H1, F1⟩ := A
  obtain ⟨T', h', X', eT', W, hs⟩ := stB X hx hZ eT Ar (inb_of S1 hj) (g := mkF m pc Ls (.int x :: .int j :: .ref a :: st)) rfl rfl hd
  obtain ⟨s₂, v', L', S, r⟩ := G h' W (Arv.set Ar q1 S1 N1 H1 F1 (fits_nar_byte _) W i hi hlen) T' _ X' (Fr.snoc X' Nf ha) eT'
  exact ⟨s₂, v', L', hs _ S, r⟩
theorem Go.zastore (hx : p.tables.exec = Jvm.exec) (hZ : Z.Warmed39 s.vm) {a : Addr} {k : ClassId} {n j x : Int32} {vs : List Value} {dv : Value} (A : Arv Z h a k .boolean n vs dv) (hj : ¬ j < 0 ∧ j < n) (i : Nat) (hi : j.toNatClampNeg = i) (hlen : i < vs.length) (ha : n0 ≤ a) (hd : decode c.code pc = .ok (.bastore, 1)) (hq : q = pc + 1)
    (G : ∀ h', Wr h h' a j.toNatClampNeg (.int (nar .boolean x)) → Arv Z h' a k .boolean n (vs.set i (.int (nar .boolean x))) dv → Go p l e R s m args below meth c n0 C N Q h' ce sl q Ls st) : Go p l e R s m args below meth c n0 C N Q h ce sl pc Ls (.int x :: .int j :: .ref a :: st) := fun T locs X Nf eT => by
  subst hq
  obtain ⟨cl, Ar, q1, S1, N1, H1, F1⟩ := A
  obtain ⟨T', h', X', eT', W, hs⟩ := stZ X hx hZ eT Ar (inb_of S1 hj) (g := mkF m pc Ls (.int x :: .int j :: .ref a :: st)) rfl rfl hd
  obtain ⟨s₂, v', L', S, r⟩ := G h' W (Arv.set Ar q1 S1 N1 H1 F1 (fits_nar_bool _) W i hi hlen) T' _ X' (Fr.snoc X' Nf ha) eT'
  exact ⟨s₂, v', L', hs _ S, r⟩
theorem Go.castore (hx : p.tables.exec = Jvm.exec) (hZ : Z.Warmed39 s.vm) {a : Addr} {k : ClassId} {n j x : Int32} {vs : List Value} {dv : Value} (A : Arv Z h a k .char n vs dv) (hj : ¬ j < 0 ∧ j < n) (i : Nat) (hi : j.toNatClampNeg = i) (hlen : i < vs.length) (ha : n0 ≤ a) (hd : decode c.code pc = .ok (.castore, 1)) (hq : q = pc + 1)
    (G : ∀ h', Wr h h' a j.toNatClampNeg (.int (nar .char x)) → Arv Z h' a k .char n (vs.set i (.int (nar .char x))) dv → Go p l e R s m args below meth c n0 C N Q h' ce sl q Ls st) : Go p l e R s m args below meth c n0 C N Q h ce sl pc Ls (.int x :: .int j :: .ref a :: st) := fun T locs X Nf eT => by
  subst hq
  obtain ⟨cl, Ar, q1, S1, N1, H1, F1⟩ := A
  obtain ⟨T', h', X', eT', W, hs⟩ := stC X hx hZ eT Ar (inb_of S1 hj) (g := mkF m pc Ls (.int x :: .int j :: .ref a :: st)) rfl rfl hd
  obtain ⟨s₂, v', L', S, r⟩ := G h' W (Arv.set Ar q1 S1 N1 H1 F1 (fits_nar_char _) W i hi hlen) T' _ X' (Fr.snoc X' Nf ha) eT'
  exact ⟨s₂, v', L', hs _ S, r⟩
theorem Go.sastore (hx : p.tables.exec = Jvm.exec) (hZ : Z.Warmed39 s.vm) {a : Addr} {k : ClassId} {n j x : Int32} {vs : List Value} {dv : Value} (A : Arv Z h a k .short n vs dv) (hj : ¬ j < 0 ∧ j < n) (i : Nat) (hi : j.toNatClampNeg = i) (hlen : i < vs.length) (ha : n0 ≤ a) (hd : decode c.code pc = .ok (.sastore, 1)) (hq : q = pc + 1)
    (G : ∀ h', Wr h h' a j.toNatClampNeg (.int (nar .short x)) → Arv Z h' a k .short n (vs.set i (.int (nar .short x))) dv → Go p l e R s m args below meth c n0 C N Q h' ce sl q Ls st) : Go p l e R s m args below meth c n0 C N Q h ce sl pc Ls (.int x :: .int j :: .ref a :: st) := fun T locs X Nf eT => by
  subst hq
  obtain ⟨cl, Ar, q1, S1, N1, H1, F1⟩ := A
  obtain ⟨T', h', X', eT', W, hs⟩ := stS X hx hZ eT Ar (inb_of S1 hj) (g := mkF m pc Ls (.int x :: .int j :: .ref a :: st)) rfl rfl hd
  obtain ⟨s₂, v', L', S, r⟩ := G h' W (Arv.set Ar q1 S1 N1 H1 F1 (fits_nar_short _) W i hi hlen) T' _ X' (Fr.snoc X' Nf ha) eT'
  exact ⟨s₂, v', L', hs _ S, r⟩
theorem Go.iastore (hx : p.tables.exec = Jvm.exec) (hZ : Z.Warmed39 s.vm) {a : Addr} {k : ClassId} {n j x : Int32} {vs : List Value} {dv : Value} (A : Arv Z h a k .int n vs dv) (hj : ¬ j < 0 ∧ j < n) (i : Nat) (hi : j.toNatClampNeg = i) (hlen : i < vs.length) (ha : n0 ≤ a) (hd : decode c.code pc = .ok (.iastore, 1)) (hq : q = pc + 1)
    (G : ∀ h', Wr h h' a j.toNatClampNeg (.int x) → Arv Z h' a k .int n (vs.set i (.int x)) dv → Go p l e R s m args below meth c n0 C N Q h' ce sl q Ls st) : Go p l e R s m args below meth c n0 C N Q h ce sl pc Ls (.int x :: .int j :: .ref a :: st) := fun T locs X Nf eT => by
  subst hq
  obtain ⟨cl, Ar, q1, S1, N1, H1, F1⟩ := A
  obtain ⟨T', h', X', eT', W, hs⟩ := stI X hx hZ eT Ar (inb_of S1 hj) (g := mkF m pc Ls (.int x :: .int j :: .ref a :: st)) rfl rfl hd
  obtain ⟨s₂, v', L', S, r⟩ := G h' W (Arv.set Ar q1 S1 N1 H1 F1 (rfl) W i hi hlen) T' _ X' (Fr.snoc X' Nf ha) eT'
  exact ⟨s₂, v', L', hs _ S, r⟩
theorem Go.aastore (hx : p.tables.exec = Jvm.exec) (hZ : Z.Warmed39 s.vm) {a : Addr} {k : ClassId} {C' : String} {n j : Int32} {x : Value} {vs : List Value} {dv : Value} (A : Arv Z h a k (.object C') n vs dv) (F : Sto Z h a x) (hxr : x.isRef = true) (hj : ¬ j < 0 ∧ j < n) (i : Nat) (hi : j.toNatClampNeg = i) (hlen : i < vs.length) (ha : n0 ≤ a) (hd : decode c.code pc = .ok (.aastore, 1)) (hq : q = pc + 1)
    (G : ∀ h', Wr h h' a j.toNatClampNeg x → Arv Z h' a k (.object C') n (vs.set i x) dv → Go p l e R s m args below meth c n0 C N Q h' ce sl q Ls st) : Go p l e R s m args below meth c n0 C N Q h ce sl pc Ls (x :: .int j :: .ref a :: st) := fun T locs X Nf eT => by
  subst hq
  obtain ⟨cl, Ar, q1, S1, N1, H1, F1⟩ := A
  obtain ⟨T', h', X', eT', W, hs⟩ := stR X hx hZ eT Ar (inb_of S1 hj) rfl F (g := mkF m pc Ls (x :: .int j :: .ref a :: st)) rfl rfl hd
  obtain ⟨s₂, v', L', S, r⟩ := G h' W (Arv.set Ar q1 S1 N1 H1 F1 (by rcases ref_cases hxr with rfl | ⟨y, rfl⟩ <;> rfl) W i hi hlen) T' _ X' (Fr.snoc X' Nf ha) eT'
  exact ⟨s₂, v', L', hs _ S, r⟩
theorem Go.callS (hx : p.tables.exec = Jvm.exec) (hZ : Z.Warmed39 s.vm) {own : String} {index : Nat} {y : MethodName} {bytes : ByteArray} {maxL : Nat} {rt r' : Option FieldType} {ps : List FieldType} {rm : Room} {Qc : Option Value → Heap → Prop} {argsL rest : List Value} {ce' sl' : Nat} (hown : s.vm.findClass own = some m.cls) (w1 : (Cond.methodLink own index y).before a0 Z = true) (w2 : (Cond.static y).before a0 Z = true) (w3 : (Cond.initialized y.cls).before a0 Z = true) (w4 : (Cond.code y bytes maxL rt).before a0 Z = true) (hy : y.cls ≠ "java/lang/invoke/MethodHandle" ∧ y.cls ≠ "java/lang/invoke/VarHandle")
    (hM : Met l Z y bytes maxL rt [] rm argsL.toArray h n0 Qc) (hsize : Ls.size = c.maxLocals) (hpd : parseMethodDescriptor y.desc = some ⟨ps, r'⟩) (hlen : argsL.length = ps.length) (hst : st = argsL.reverse ++ rest) (hd : decode c.code pc = .ok (.invokestatic index, 3)) (hq : q = pc + 3) (hf : rm.frames + 1 ≤ R.frames) (hl : (rest.map fun v => v.category).sum + (maxL + 11) + rm.locals ≤ R.locals) (hce : ce + rm.cells = ce') (hsl : sl + rm.slots = sl') (hc : ce' ≤ R.cells) (hs : sl' ≤ R.slots)
    (G : ∀ (v : Option Value) (h' : Heap), Qc v h' → Go p l e R s m args below meth c n0 C N Q h' ce' sl' q Ls (v.toList ++ rest)) : Go p l e R s m args below meth c n0 C N Q h ce sl pc Ls st := fun T locs X Nf eT => by
  subst hq hce hsl
  obtain ⟨v, _, ⟨T', L', k', n'⟩, -, X', ⟨Lc, ⟨hQ, hF⟩, hl1, hl2, hl3⟩, hst'⟩ := Jvm.LawKit.callS X hx hown (mvT hZ w1) (mvT hZ w2) (mvT hZ w3) (mvT hZ w4) hy (backOf (W := (rest.map fun v => v.category).sum) (Q := fun v h' L => Qc v h' ∧ Fr n0 L) hM hZ w4 w3 hf hl) (g := mkF m pc Ls st) rfl hsize (argsL := argsL) (rest := rest) (lenOf hpd hlen) hst (by show 2 * 0 + _ ≤ _; omega) hd (fun _ _ => ⟨rfl, eT, hc, hs⟩)
  dsimp only [Pt.U, Pt.locs, Pt.cells, Pt.slots] at X' hl1 hl2 hl3 hst' hQ
  subst hl1 hl2 hl3
  obtain ⟨s₂, v', L'', S, r⟩ := G v _ hQ T' _ X' (Fr.app Nf hF) rfl
  exact ⟨s₂, v', L'', hst' _ S, r⟩
theorem Go.callI (hx : p.tables.exec = Jvm.exec) (hZ : Z.Warmed39 s.vm) {own : String} {index : Nat} {y : MethodName} {bytes : ByteArray} {maxL : Nat} {r' : Option FieldType} {ps : List FieldType} {rm : Room} {Qc : Option Value → Heap → Prop} {a : Addr} {argsL rest : List Value} {ce' sl' : Nat} (hown : s.vm.findClass own = some m.cls) (hnm : y.name = "<init>") (w1 : (Cond.methodLink own index y).before a0 Z = true) (w2 : (Cond.instanceMethod y).before a0 Z = true) (w3 : (Cond.initialized y.cls).before a0 Z = true) (w4 : (Cond.code y bytes maxL none).before a0 Z = true) (hy : y.cls ≠ "java/lang/invoke/MethodHandle" ∧ y.cls ≠ "java/lang/invoke/VarHandle")
    (hM : Met l Z y bytes maxL none [] rm (.ref a :: argsL).toArray h n0 Qc) (hsize : Ls.size = c.maxLocals) (hpd : parseMethodDescriptor y.desc = some ⟨ps, r'⟩) (hlen : argsL.length = ps.length) (hst : st = argsL.reverse ++ .ref a :: rest) (hd : decode c.code pc = .ok (.invokespecial index, 3)) (hq : q = pc + 3) (hf : rm.frames + 1 ≤ R.frames) (hl : (rest.map fun v => v.category).sum + (maxL + 11) + rm.locals ≤ R.locals) (hce : ce + rm.cells = ce') (hsl : sl + rm.slots = sl') (hc : ce' ≤ R.cells) (hs : sl' ≤ R.slots)
    (G : ∀ (v : Option Value) (h' : Heap), Qc v h' → Go p l e R s m args below meth c n0 C N Q h' ce' sl' q Ls (v.toList ++ rest)) : Go p l e R s m args below meth c n0 C N Q h ce sl pc Ls st := fun T locs X Nf eT => by
  subst hq hce hsl
  obtain ⟨v, _, ⟨T', L', k', n'⟩, -, X', ⟨Lc, ⟨hQ, hF⟩, hl1, hl2, hl3⟩, hst'⟩ := X.specialBack hx hnm hown (mvT hZ w1) (mvT hZ w2) (mvT hZ w4) hy (backOf (W := (rest.map fun v => v.category).sum) (Q := fun v h' L => Qc v h' ∧ Fr n0 L) hM hZ w4 w3 hf hl) (g := mkF m pc Ls st) rfl hsize (Steps.refl _) (a := a) (argsL := argsL) (rest := rest) (lenOf hpd hlen) hst (by show 2 * 0 + _ ≤ _; omega) hd (fun _ _ => ⟨rfl, eT, hc, hs⟩)
  dsimp only [Pt.U, Pt.locs, Pt.cells, Pt.slots] at X' hl1 hl2 hl3 hst' hQ
  subst hl1 hl2 hl3
  obtain ⟨s₂, v', L'', S, r⟩ := G v _ hQ T' _ X' (Fr.app Nf hF) rfl
  exact ⟨s₂, v', L'', hst'.trans S, r⟩
theorem Go.callV (hx : p.tables.exec = Jvm.exec) (hZ : Z.Warmed39 s.vm) {own C' : String} {index : Nat} {y z : MethodName} {bytes : ByteArray} {maxL : Nat} {rt r' : Option FieldType} {ps : List FieldType} {rm : Room} {Qc : Option Value → Heap → Prop} {a : Addr} {argsL rest : List Value} {ce' sl' : Nat} (hown : s.vm.findClass own = some m.cls) (w1 : (Cond.methodLink own index y).before a0 Z = true) (w2 : (Cond.declares y).before a0 Z = true) (hnf : NotFace s y) (w5 : (Cond.selects C' y z).before a0 Z = true) (w6 : (Cond.instanceMethod z).before a0 Z = true) (w3 : (Cond.initialized z.cls).before a0 Z = true) (w4 : (Cond.code z bytes maxL rt).before a0 Z = true) (hy : y.cls ≠ "java/lang/invoke/MethodHandle" ∧ y.cls ≠ "java/lang/invoke/VarHandle")
    (E : Exa Z h a C') (hM : Met l Z z bytes maxL rt [] rm (.ref a :: argsL).toArray h n0 Qc) (hsize : Ls.size = c.maxLocals) (hpd : parseMethodDescriptor y.desc = some ⟨ps, r'⟩) (hlen : argsL.length = ps.length) (hst : st = argsL.reverse ++ .ref a :: rest) (hd : decode c.code pc = .ok (.invokevirtual index, 3)) (hq : q = pc + 3) (hf : rm.frames + 1 ≤ R.frames) (hl : (rest.map fun v => v.category).sum + (maxL + 11) + rm.locals ≤ R.locals) (hce : ce + rm.cells = ce') (hsl : sl + rm.slots = sl') (hc : ce' ≤ R.cells) (hs : sl' ≤ R.slots)
    (G : ∀ (v : Option Value) (h' : Heap), Qc v h' → Go p l e R s m args below meth c n0 C N Q h' ce' sl' q Ls (v.toList ++ rest)) : Go p l e R s m args below meth c n0 C N Q h ce sl pc Ls st := fun T locs X Nf eT => by
  subst hq hce hsl
  obtain ⟨cB, kB, qa, qb, qc⟩ := isOf hZ eT E
  obtain ⟨v, _, ⟨T', L', k', n'⟩, -, X', ⟨Lc, ⟨hQ, hF⟩, hl1, hl2, hl3⟩, hst'⟩ := X.virtualBack hx hown (mvT hZ w1) (mvT hZ w2) hnf (mvT hZ w5) (mvT hZ w6) hy (backOf (W := (rest.map fun v => v.category).sum) (Q := fun v h' L => Qc v h' ∧ Fr n0 L) hM hZ w4 w3 hf hl) qa qc (g := mkF m pc Ls st) rfl hsize (Steps.refl _) (argsL := argsL) (rest := rest) (lenOf hpd hlen) hst (by show 2 * 0 + _ ≤ _; omega) hd (fun _ _ => ⟨rfl, eT, hc, hs⟩)
  dsimp only [Pt.U, Pt.locs, Pt.cells, Pt.slots] at X' hl1 hl2 hl3 hst' hQ
  subst hl1 hl2 hl3
  obtain ⟨s₂, v', L'', S, r⟩ := G v _ hQ T' _ X' (Fr.app Nf hF) rfl
  exact ⟨s₂, v', L'', hst'.trans S, r⟩
theorem Go.instNull (hx : p.tables.exec = Jvm.exec) {index : Nat} (hd : decode c.code pc = .ok (.instanceof index, 3)) (hq : q = pc + 3) (G : Go p l e R s m args below meth c n0 C N Q h ce sl q Ls (.int 0 :: st)) : Go p l e R s m args below meth c n0 C N Q h ce sl pc Ls (.null :: st) := by
  subst hq
  exact Go.step (fun T locs target X eT S => X.instanceofNull hx (g := mkF m pc Ls (.null :: st)) rfl rfl hd target S) G
theorem Go.castNull (hx : p.tables.exec = Jvm.exec) {index : Nat} (hd : decode c.code pc = .ok (.checkcast index, 3)) (hq : q = pc + 3) (G : Go p l e R s m args below meth c n0 C N Q h ce sl q Ls (.null :: st)) : Go p l e R s m args below meth c n0 C N Q h ce sl pc Ls (.null :: st) := by
  subst hq
  exact Go.step (fun T locs target X eT S => X.checkcastNull hx (g := mkF m pc Ls (.null :: st)) rfl rfl hd target S) G
theorem Go.instNo (hx : p.tables.exec = Jvm.exec) (hZ : Z.Warmed39 s.vm) {own K C' : String} {index : Nat} (hown : s.vm.findClass own = some m.cls) (w1 : (Cond.classLink own index K).before a0 Z = true) {a : Addr} (E : Exa Z h a C') (F : ∃ c t, Z.vm.findClass C' = some c ∧ Z.vm.findClass K = some t ∧ Z.vm.assignable c t = false) (hd : decode c.code pc = .ok (.instanceof index, 3)) (hq : q = pc + 3) (G : Go p l e R s m args below meth c n0 C N Q h ce sl q Ls (.int 0 :: st)) : Go p l e R s m args below meth c n0 C N Q h ce sl pc Ls (.ref a :: st) := by
  subst hq
  exact Go.law (fun T locs X eT => Jvm.RoadKit.instNo X hx hZ hown w1 eT E F (g := mkF m pc Ls (.ref a :: st)) rfl rfl hd) G
theorem Go.aaloadC (hx : p.tables.exec = Jvm.exec) (hZ : Z.Warmed39 s.vm) {a : Addr} {cl : Cell} {ty : FieldType} {j : Int32} {v : Value} (A : Arr Z h a cl ty) (hty : ty.isReference = true) (hj : ¬ (j < 0 ∨ cl.slots.size ≤ j.toNatClampNeg)) (hv : cl.slots[j.toNatClampNeg]? = some v) (hd : decode c.code pc = .ok (.aaload, 1)) (hq : q = pc + 1) (G : Go p l e R s m args below meth c n0 C N Q h ce sl q Ls (v :: st)) : Go p l e R s m args below meth c n0 C N Q h ce sl pc Ls (.int j :: .ref a :: st) := by
  subst hq
  exact Go.step (fun T locs target X eT S => X.aaload hx (by rw [eT]; exact A.1) (State.isArrayOf_alike hZ.alike A.2.1) hty A.2.2 hj hv (g := mkF m pc Ls (.int j :: .ref a :: st)) rfl rfl hd target S) G
theorem cat_ref {v : Value} (hv : v.isRef = true) : v.category = 1 := by rcases ref_cases hv with rfl | ⟨x, rfl⟩ <;> rfl
theorem nar_ref {v : Value} {t : FieldType} (hv : v.isRef = true) (ht : t.isReference = true) : narrow t v = v := by rcases ref_cases hv with rfl | ⟨x, rfl⟩ <;> cases t <;> rfl
theorem fits_of_ref {v : Value} {t : FieldType} (hv : v.isRef = true) (ht : t.isReference = true) : fits t v = true := by rcases ref_cases hv with rfl | ⟨x, rfl⟩ <;> cases t <;> first | rfl | cases ht
theorem cmpL_gt (x y : Int64) : (0 : Int32) < XT.cmpL x y ↔ y < x := by
  unfold XT.cmpL; split <;> (try split) <;> simp_all <;> decide
theorem cmpL_lt (x y : Int64) : XT.cmpL x y < (0 : Int32) ↔ x < y := by
  unfold XT.cmpL; split <;> (try split) <;> simp_all [Int64.lt_iff_toInt_lt, ← Int64.toInt_inj, Int32.lt_iff_toInt_lt] <;> omega
theorem cmpL_eq (x y : Int64) : XT.cmpL x y = (0 : Int32) ↔ x = y := by
  unfold XT.cmpL; split <;> (try split) <;> simp_all [Int64.lt_iff_toInt_lt, ← Int64.toInt_inj] <;> omega
theorem ns_root {K O : String} {kn : Nat} (w1 : (Cond.noSuperclass O).before a0 Z = true) (wk : (Cond.instantiable K kn).before a0 Z = true) (hn : O ≠ K) : NS Z O K := by
  obtain ⟨c, k, h1, h2, h3, -, -⟩ := Cond.noSuperclass_spec w1
  obtain ⟨t, kt, g1, -⟩ := Cond.instantiable_spec wk
  have ne := ids_ne h1 g1 hn
  refine ⟨c, t, h1, g1, fun fuel => ?_⟩
  cases fuel with
  | zero => rfl
  | succ f => simp [Vm.isSubclassAux, ne, h2, h3]
theorem ns_no {C' S K : String} {kn : Nat} (w1 : (Cond.superclass C' S).before a0 Z = true) (wk : (Cond.instantiable K kn).before a0 Z = true) (nn : NS Z C' K) (hn : C' ≠ K) : ∃ c t, Z.vm.findClass C' = some c ∧ Z.vm.findClass K = some t ∧ Z.vm.assignable c t = false := by
  obtain ⟨c, t, h0, g0, n3⟩ := nn
  obtain ⟨p, k, kp, h1, h2, h3, h4, h5, -, h7⟩ := Cond.superclass_spec h0 w1
  obtain ⟨t', kt, g1, g2, g5, g7, -⟩ := Cond.instantiable_spec wk
  cases g0.symm.trans g1
  have g8 : kt.isInterface = false := by rw [Bool.or_eq_false_iff] at g7; exact g7.1
  have ne := ids_ne h0 g0 hn
  refine ⟨c, t, h0, g0, ?_⟩
  show Z.vm.assignableAux (255 + 1) c t = false
  simp [Vm.assignableAux, ne, h2, g2, h5, g5, g8, Vm.isSubclass, n3]
end OwnKit
def imin (x y : Int32) : Int32 := if y < x then y else x
def imax (x y : Int32) : Int32 := if x < y then y else x
def lmin (x y : Int64) : Int64 := if y < x then y else x
theorem imin_toInt (x y : Int32) : (imin x y).toInt = if y.toInt < x.toInt then y.toInt else x.toInt := by
  unfold imin; by_cases h : y < x
  · rw [if_pos h, if_pos (Int32.lt_iff_toInt_lt.mp h)]
  · rw [if_neg h, if_neg (fun q => h (Int32.lt_iff_toInt_lt.mpr q))]
theorem imax_toInt (x y : Int32) : (imax x y).toInt = if x.toInt < y.toInt then y.toInt else x.toInt := by
  unfold imax; by_cases h : x < y
  · rw [if_pos h, if_pos (Int32.lt_iff_toInt_lt.mp h)]
  · rw [if_neg h, if_neg (fun q => h (Int32.lt_iff_toInt_lt.mpr q))]
theorem sub64 (x y : Int32) : (x.toInt64 - y.toInt64).toInt = x.toInt - y.toInt := by
  have a := x.toInt_lt; have b := x.le_toInt; have c := y.toInt_lt; have d := y.le_toInt
  rw [Jvm.Kit.i64_sub (by rw [Jvm.Kit.i64_of_i32, Jvm.Kit.i64_of_i32]; omega) (by rw [Jvm.Kit.i64_of_i32, Jvm.Kit.i64_of_i32]; omega), Jvm.Kit.i64_of_i32, Jvm.Kit.i64_of_i32]
theorem big64 : (2147483647 : Int64).toInt = 2147483647 := rfl
/-- a rectangle's sides are right -/
def Okr (l t r b : Int32) : Prop := l.toInt ≤ r.toInt ∧ t.toInt ≤ b.toInt ∧ r.toInt - l.toInt ≤ 2147483647 ∧ b.toInt - t.toInt ≤ 2147483647
def eqv (l1 t1 r1 b1 l2 t2 r2 b2 : Int32) : Int32 := if l1 = l2 then (if t1 = t2 then (if r1 = r2 then (if b1 = b2 then 1 else 0) else 0) else 0) else 0
def hi (x y : Int32) : Int32 := if (2147483647 : Int64) < (imax x y).toInt64 - (imin x y).toInt64 then imin x y + 2147483647 else imax x y
theorem hi_ok (x y : Int32) : (imin x y).toInt ≤ (hi x y).toInt ∧ (hi x y).toInt - (imin x y).toInt ≤ 2147483647 := by
  have e1 := imin_toInt x y; have e2 := imax_toInt x y
  have a := x.toInt_lt; have b := x.le_toInt; have c := y.toInt_lt; have d := y.le_toInt
  have r1 := (imin x y).toInt_lt; have r2 := (imin x y).le_toInt; have r3 := (imax x y).toInt_lt; have r4 := (imax x y).le_toInt
  have hord : (imin x y).toInt ≤ (imax x y).toInt := by rw [e1, e2]; split <;> split <;> omega
  have bg : (2147483647 : Int32).toInt = 2147483647 := rfl
  unfold hi
  by_cases h : (2147483647 : Int64) < (imax x y).toInt64 - (imin x y).toInt64
  · rw [if_pos h]
    rw [Int64.lt_iff_toInt_lt, sub64, big64] at h
    rw [Jvm.Kit.i32_add (by omega) (by omega)]
    omega
  · rw [if_neg h]
    rw [Int64.lt_iff_toInt_lt, sub64, big64] at h
    omega
theorem okr (x y z w : Int32) : Okr (imin x y) (imin z w) (hi x y) (hi z w) := ⟨(hi_ok x y).1, (hi_ok z w).1, (hi_ok x y).2, (hi_ok z w).2⟩
theorem eqv_self (l t r b : Int32) : eqv l t r b l t r b = 1 := by simp [eqv]
theorem eqv_comm (l t r b l' t' r' b' : Int32) : eqv l t r b l' t' r' b' = eqv l' t' r' b' l t r b := by simp only [eqv, eq_comm]
theorem d1_0 : decode jdk_29_method_69_code 0 = .ok (.iload_n 0, 1) := by decide +kernel
theorem d1_1 : decode jdk_29_method_69_code 1 = .ok (.iload_n 1, 1) := by decide +kernel
theorem d1_2 : decode jdk_29_method_69_code 2 = .ok (.if_icmp .gt 7, 3) := by decide +kernel
theorem d1_5 : decode jdk_29_method_69_code 5 = .ok (.iload_n 0, 1) := by decide +kernel
theorem d1_6 : decode jdk_29_method_69_code 6 = .ok (.goto 4, 3) := by decide +kernel
theorem d1_9 : decode jdk_29_method_69_code 9 = .ok (.iload_n 1, 1) := by decide +kernel
theorem d1_10 : decode jdk_29_method_69_code 10 = .ok (.ireturn, 1) := by decide +kernel
theorem pl_0 : plainFor (⟨"java/lang/Math", "min", "(II)I"⟩ : MethodName) = true := by decide +kernel
set_option maxRecDepth 65536 in
set_option maxHeartbeats 40000000 in
theorem rmMin (l : Launch) (Z : State) (a0 : Array Value) (hw : ∀ d ∈ tables_1, d.before a0 Z = true) (x y : Int32) (h0 : Heap) (n0 : Nat) (Z0 : n0 ≤ h0.size)  :
    Met l Z (⟨"java/lang/Math", "min", "(II)I"⟩ : MethodName) jdk_29_method_69_code 2 (Option.some FieldType.int) [] ({ frames := 0, cells := 0, slots := 0, locals := 0 } : Room) #[(.int x), (.int y)] h0 n0 (fun v h => v = some (.int (imin x y)) ∧ h0 = h) := by
  refine Met.of (Ls0 := #[.val (.int x), .val (.int y)]) pl_0 (by first | (simp [argsToLocals, Value.category]; done) | rfl) ?_
  intro p e s m below meth c hx hby hml hret hlk hown hnm hZ
  refine Go.iloadN (q := 1) hx (hb hby d1_0) rfl rfl ?_
  refine Go.iloadN (q := 2) hx (hb hby d1_1) rfl rfl ?_
  refine Go.icmp_gt (q := 5) (t := 9) hx (hb hby d1_2) (by decide) rfl rfl (fun hc2 => ?_) (fun hc2 => ?_)
  · skip
    refine Go.iloadN (q := 10) hx (hb hby d1_9) rfl rfl ?_
    refine Go.retI hx hret hlk (hb hby d1_10) (by decide) (by decide) ?_
    exact ⟨by simp [imin, nar, hc2], rfl⟩
  · skip
    refine Go.iloadN (q := 6) hx (hb hby d1_5) rfl rfl ?_
    refine Go.goto (q := 10) hx (hb hby d1_6) (by decide) rfl ?_
    refine Go.retI hx hret hlk (hb hby d1_10) (by decide) (by decide) ?_
    exact ⟨by simp [imin, nar, hc2], rfl⟩
theorem d3_0 : decode jdk_29_method_65_code 0 = .ok (.iload_n 0, 1) := by decide +kernel
theorem d3_1 : decode jdk_29_method_65_code 1 = .ok (.iload_n 1, 1) := by decide +kernel
theorem d3_2 : decode jdk_29_method_65_code 2 = .ok (.if_icmp .lt 7, 3) := by decide +kernel
theorem d3_5 : decode jdk_29_method_65_code 5 = .ok (.iload_n 0, 1) := by decide +kernel
theorem d3_6 : decode jdk_29_method_65_code 6 = .ok (.goto 4, 3) := by decide +kernel
theorem d3_9 : decode jdk_29_method_65_code 9 = .ok (.iload_n 1, 1) := by decide +kernel
theorem d3_10 : decode jdk_29_method_65_code 10 = .ok (.ireturn, 1) := by decide +kernel
theorem pl_1 : plainFor (⟨"java/lang/Math", "max", "(II)I"⟩ : MethodName) = true := by decide +kernel
set_option maxRecDepth 65536 in
set_option maxHeartbeats 40000000 in
theorem rmMax (l : Launch) (Z : State) (a0 : Array Value) (hw : ∀ d ∈ tables_1, d.before a0 Z = true) (x y : Int32) (h0 : Heap) (n0 : Nat) (Z0 : n0 ≤ h0.size)  :
    Met l Z (⟨"java/lang/Math", "max", "(II)I"⟩ : MethodName) jdk_29_method_65_code 2 (Option.some FieldType.int) [] ({ frames := 0, cells := 0, slots := 0, locals := 0 } : Room) #[(.int x), (.int y)] h0 n0 (fun v h => v = some (.int (imax x y)) ∧ h0 = h) := by
  refine Met.of (Ls0 := #[.val (.int x), .val (.int y)]) pl_1 (by first | (simp [argsToLocals, Value.category]; done) | rfl) ?_
  intro p e s m below meth c hx hby hml hret hlk hown hnm hZ
  refine Go.iloadN (q := 1) hx (hb hby d3_0) rfl rfl ?_
  refine Go.iloadN (q := 2) hx (hb hby d3_1) rfl rfl ?_
  refine Go.icmp_lt (q := 5) (t := 9) hx (hb hby d3_2) (by decide) rfl rfl (fun hc2 => ?_) (fun hc2 => ?_)
  · skip
    refine Go.iloadN (q := 10) hx (hb hby d3_9) rfl rfl ?_
    refine Go.retI hx hret hlk (hb hby d3_10) (by decide) (by decide) ?_
    exact ⟨by simp [imax, nar, hc2], rfl⟩
  · skip
    refine Go.iloadN (q := 6) hx (hb hby d3_5) rfl rfl ?_
    refine Go.goto (q := 10) hx (hb hby d3_6) (by decide) rfl ?_
    refine Go.retI hx hret hlk (hb hby d3_10) (by decide) (by decide) ?_
    exact ⟨by simp [imax, nar, hc2], rfl⟩
theorem d0_0 : decode method_2_code 0 = .ok (.iload_n 0, 1) := by decide +kernel
theorem d0_1 : decode method_2_code 1 = .ok (.iload_n 1, 1) := by decide +kernel
theorem d0_2 : decode method_2_code 2 = .ok (.invokestatic 7, 3) := by decide +kernel
theorem d0_5 : decode method_2_code 5 = .ok (.ireturn, 1) := by decide +kernel
theorem pl_2 : plainFor (⟨"com/example/hewristic/hewristic/model/RectangleEqualsPinLaw", "lo", "(II)I"⟩ : MethodName) = true := plainFor_of_name (by first | (simp [plainName, overriddenIn]; done) | decide +kernel)
theorem pd_0 : parseMethodDescriptor "(II)I" = some ⟨[.int, .int], some .int⟩ := by decide +kernel
set_option maxRecDepth 65536 in
set_option maxHeartbeats 40000000 in
theorem rmLo (l : Launch) (Z : State) (a0 : Array Value) (hw : ∀ d ∈ tables_1, d.before a0 Z = true) (k k' : Int32) (h0 : Heap) (n0 : Nat) (Z0 : n0 ≤ h0.size)  :
    Met l Z (⟨"com/example/hewristic/hewristic/model/RectangleEqualsPinLaw", "lo", "(II)I"⟩ : MethodName) method_2_code 2 (Option.some FieldType.int) [] ({ frames := 1, cells := 0, slots := 0, locals := 13 } : Room) #[(.int k), (.int k')] h0 n0 (fun v h => v = some (.int (imin k k')) ∧ h0 = h) := by
  refine Met.of (Ls0 := #[.val (.int k), .val (.int k')]) pl_2 (by first | (simp [argsToLocals, Value.category]; done) | rfl) ?_
  intro p e s m below meth c hx hby hml hret hlk hown hnm hZ
  refine Go.iloadN (q := 1) hx (hb hby d0_0) rfl rfl ?_
  refine Go.iloadN (q := 2) hx (hb hby d0_1) rfl rfl ?_
  refine Go.callS (q := 5) hx hZ (argsL := [(.int k), (.int k')]) (rest := []) hown (hw _ (List.mem_of_getElem? (i := 4) rfl)) (hw _ (List.mem_of_getElem? (i := 5) rfl)) (hw _ (List.mem_of_getElem? (i := 6) rfl)) (hw _ (List.mem_of_getElem? (i := 7) rfl)) (by decide) (rmMin l Z a0 hw k k' h0 n0 Z0) (by rw [hml]; rfl) pd_0 rfl rfl (hb hby d0_2) rfl (by decide) (Nat.le_of_ble_eq_true rfl) (ce' := 0) (sl' := 0) rfl rfl (by decide) (by decide) (fun v1 h2 hQ3 => ?_)
  obtain ⟨rfl, rfl⟩ := hQ3
  show Go _ _ _ _ _ _ _ _ _ _ _ _ _ _ _ 0 0 5 #[.val (.int k), .val (.int k')] [(.int (imin k k'))]
  refine Go.retI hx hret hlk (hb hby d0_5) (by decide) (by decide) ?_
  exact ⟨rfl, rfl⟩
theorem d2_0 : decode method_3_code 0 = .ok (.iload_n 0, 1) := by decide +kernel
theorem d2_1 : decode method_3_code 1 = .ok (.iload_n 1, 1) := by decide +kernel
theorem d2_2 : decode method_3_code 2 = .ok (.invokestatic 7, 3) := by decide +kernel
theorem d2_5 : decode method_3_code 5 = .ok (.istore_n 2, 1) := by decide +kernel
theorem d2_6 : decode method_3_code 6 = .ok (.iload_n 0, 1) := by decide +kernel
theorem d2_7 : decode method_3_code 7 = .ok (.iload_n 1, 1) := by decide +kernel
theorem d2_8 : decode method_3_code 8 = .ok (.invokestatic 13, 3) := by decide +kernel
theorem d2_11 : decode method_3_code 11 = .ok (.istore_n 3, 1) := by decide +kernel
theorem d2_12 : decode method_3_code 12 = .ok (.iload_n 3, 1) := by decide +kernel
theorem d2_13 : decode method_3_code 13 = .ok (.i2l, 1) := by decide +kernel
theorem d2_14 : decode method_3_code 14 = .ok (.iload_n 2, 1) := by decide +kernel
theorem d2_15 : decode method_3_code 15 = .ok (.i2l, 1) := by decide +kernel
theorem d2_16 : decode method_3_code 16 = .ok (.lsub, 1) := by decide +kernel
theorem d2_17 : decode method_3_code 17 = .ok (.ldc2_w 18, 3) := by decide +kernel
theorem d2_20 : decode method_3_code 20 = .ok (.lcmp, 1) := by decide +kernel
theorem d2_21 : decode method_3_code 21 = .ok (.ifCond .le 8, 3) := by decide +kernel
theorem d2_24 : decode method_3_code 24 = .ok (.iload_n 2, 1) := by decide +kernel
theorem d2_25 : decode method_3_code 25 = .ok (.ldc 20, 2) := by decide +kernel
theorem d2_27 : decode method_3_code 27 = .ok (.iadd, 1) := by decide +kernel
theorem d2_28 : decode method_3_code 28 = .ok (.istore_n 3, 1) := by decide +kernel
theorem d2_29 : decode method_3_code 29 = .ok (.iload_n 3, 1) := by decide +kernel
theorem d2_30 : decode method_3_code 30 = .ok (.ireturn, 1) := by decide +kernel
theorem pl_3 : plainFor (⟨"com/example/hewristic/hewristic/model/RectangleEqualsPinLaw", "hi", "(II)I"⟩ : MethodName) = true := plainFor_of_name (by first | (simp [plainName, overriddenIn]; done) | decide +kernel)
set_option maxRecDepth 65536 in
set_option maxHeartbeats 40000000 in
theorem rmHi (l : Launch) (Z : State) (a0 : Array Value) (hw : ∀ d ∈ tables_1, d.before a0 Z = true) (k k' : Int32) (h0 : Heap) (n0 : Nat) (Z0 : n0 ≤ h0.size)  :
    Met l Z (⟨"com/example/hewristic/hewristic/model/RectangleEqualsPinLaw", "hi", "(II)I"⟩ : MethodName) method_3_code 4 (Option.some FieldType.int) [] ({ frames := 1, cells := 0, slots := 0, locals := 13 } : Room) #[(.int k), (.int k')] h0 n0 (fun v h => v = some (.int (hi k k')) ∧ h0 = h) := by
  refine Met.of (Ls0 := #[.val (.int k), .val (.int k'), .unset, .unset]) pl_3 (by first | (simp [argsToLocals, Value.category]; done) | rfl) ?_
  intro p e s m below meth c hx hby hml hret hlk hown hnm hZ
  refine Go.iloadN (q := 1) hx (hb hby d2_0) rfl rfl ?_
  refine Go.iloadN (q := 2) hx (hb hby d2_1) rfl rfl ?_
  refine Go.callS (q := 5) hx hZ (argsL := [(.int k), (.int k')]) (rest := []) hown (hw _ (List.mem_of_getElem? (i := 4) rfl)) (hw _ (List.mem_of_getElem? (i := 5) rfl)) (hw _ (List.mem_of_getElem? (i := 6) rfl)) (hw _ (List.mem_of_getElem? (i := 7) rfl)) (by decide) (rmMin l Z a0 hw k k' h0 n0 Z0) (by rw [hml]; rfl) pd_0 rfl rfl (hb hby d2_2) rfl (by decide) (Nat.le_of_ble_eq_true rfl) (ce' := 0) (sl' := 0) rfl rfl (by decide) (by decide) (fun v4 h5 hQ6 => ?_)
  obtain ⟨rfl, rfl⟩ := hQ6
  show Go _ _ _ _ _ _ _ _ _ _ _ _ _ _ _ 0 0 5 #[.val (.int k), .val (.int k'), .unset, .unset] [(.int (imin k k'))]
  refine Go.istoreN (q := 6) (l' := #[.val (.int k), .val (.int k'), .val (.int (imin k k')), .unset]) hx (hb hby d2_5) rfl rfl ?_
  refine Go.iloadN (q := 7) hx (hb hby d2_6) rfl rfl ?_
  refine Go.iloadN (q := 8) hx (hb hby d2_7) rfl rfl ?_
  refine Go.callS (q := 11) hx hZ (argsL := [(.int k), (.int k')]) (rest := []) hown (hw _ (List.mem_of_getElem? (i := 11) rfl)) (hw _ (List.mem_of_getElem? (i := 12) rfl)) (hw _ (List.mem_of_getElem? (i := 6) rfl)) (hw _ (List.mem_of_getElem? (i := 13) rfl)) (by decide) (rmMax l Z a0 hw k k' h0 n0 Z0) (by rw [hml]; rfl) pd_0 rfl rfl (hb hby d2_8) rfl (by decide) (Nat.le_of_ble_eq_true rfl) (ce' := 0) (sl' := 0) rfl rfl (by decide) (by decide) (fun v7 h8 hQ9 => ?_)
  obtain ⟨rfl, rfl⟩ := hQ9
  show Go _ _ _ _ _ _ _ _ _ _ _ _ _ _ _ 0 0 11 #[.val (.int k), .val (.int k'), .val (.int (imin k k')), .unset] [(.int (imax k k'))]
  refine Go.istoreN (q := 12) (l' := #[.val (.int k), .val (.int k'), .val (.int (imin k k')), .val (.int (imax k k'))]) hx (hb hby d2_11) rfl rfl ?_
  refine Go.iloadN (q := 13) hx (hb hby d2_12) rfl rfl ?_
  refine Go.i2l (q := 14) hx (hb hby d2_13) rfl ?_
  refine Go.iloadN (q := 15) hx (hb hby d2_14) rfl rfl ?_
  refine Go.i2l (q := 16) hx (hb hby d2_15) rfl ?_
  refine Go.lsub (q := 17) hx (hb hby d2_16) rfl ?_
  refine Go.ldc2Long (q := 20) hx hZ hown (hw _ (List.mem_of_getElem? (i := 14) rfl)) (hb hby d2_17) rfl ?_
  refine Go.lcmp (q := 21) hx (hb hby d2_20) rfl ?_
  refine Go.if_le (q := 24) (t := 29) hx (hb hby d2_21) (by decide) rfl rfl (fun hc21 => ?_) (fun hc21 => ?_)
  · skip
    refine Go.iloadN (q := 30) hx (hb hby d2_29) rfl rfl ?_
    refine Go.retI hx hret hlk (hb hby d2_30) (by decide) (by decide) ?_
    exact ⟨by rw [cmpL_gt] at hc21; simp [hi, hc21], rfl⟩
  · skip
    refine Go.iloadN (q := 25) hx (hb hby d2_24) rfl rfl ?_
    refine Go.ldcInt (q := 27) hx hZ hown (hw _ (List.mem_of_getElem? (i := 65) rfl)) (hb hby d2_25) rfl ?_
    refine Go.iadd (q := 28) hx (hb hby d2_27) rfl ?_
    refine Go.istoreN (q := 29) (l' := #[.val (.int k), .val (.int k'), .val (.int (imin k k')), .val (.int ((imin k k') + (2147483647 : Int32)))]) hx (hb hby d2_28) rfl rfl ?_
    refine Go.iloadN (q := 30) hx (hb hby d2_29) rfl rfl ?_
    refine Go.retI hx hret hlk (hb hby d2_30) (by decide) (by decide) ?_
    exact ⟨by rw [cmpL_gt] at hc21; simp [hi, hc21], rfl⟩
theorem d4_0 : decode prog_9_method_1_code 0 = .ok (.aload_n 0, 1) := by decide +kernel
theorem d4_1 : decode prog_9_method_1_code 1 = .ok (.invokespecial 1, 3) := by decide +kernel
theorem d4_4 : decode prog_9_method_1_code 4 = .ok (.iload_n 3, 1) := by decide +kernel
theorem d4_5 : decode prog_9_method_1_code 5 = .ok (.iload_n 1, 1) := by decide +kernel
theorem d4_6 : decode prog_9_method_1_code 6 = .ok (.if_icmp .lt 9, 3) := by decide +kernel
theorem d4_9 : decode prog_9_method_1_code 9 = .ok (.iload 4, 2) := by decide +kernel
theorem d4_11 : decode prog_9_method_1_code 11 = .ok (.iload_n 2, 1) := by decide +kernel
theorem d4_12 : decode prog_9_method_1_code 12 = .ok (.if_icmp .ge 14, 3) := by decide +kernel
theorem d4_15 : decode prog_9_method_1_code 15 = .ok (.iload_n 1, 1) := by decide +kernel
theorem d4_16 : decode prog_9_method_1_code 16 = .ok (.iload_n 2, 1) := by decide +kernel
theorem d4_17 : decode prog_9_method_1_code 17 = .ok (.iload_n 3, 1) := by decide +kernel
theorem d4_18 : decode prog_9_method_1_code 18 = .ok (.iload 4, 2) := by decide +kernel
theorem d4_20 : decode prog_9_method_1_code 20 = .ok (.ldc 7, 2) := by decide +kernel
theorem d4_22 : decode prog_9_method_1_code 22 = .ok (.invokestatic 9, 3) := by decide +kernel
theorem d4_25 : decode prog_9_method_1_code 25 = .ok (.athrow, 1) := by decide +kernel
theorem d4_26 : decode prog_9_method_1_code 26 = .ok (.iload_n 3, 1) := by decide +kernel
theorem d4_27 : decode prog_9_method_1_code 27 = .ok (.i2l, 1) := by decide +kernel
theorem d4_28 : decode prog_9_method_1_code 28 = .ok (.iload_n 1, 1) := by decide +kernel
theorem d4_29 : decode prog_9_method_1_code 29 = .ok (.i2l, 1) := by decide +kernel
theorem d4_30 : decode prog_9_method_1_code 30 = .ok (.lsub, 1) := by decide +kernel
theorem d4_31 : decode prog_9_method_1_code 31 = .ok (.ldc2_w 17, 3) := by decide +kernel
theorem d4_34 : decode prog_9_method_1_code 34 = .ok (.lcmp, 1) := by decide +kernel
theorem d4_35 : decode prog_9_method_1_code 35 = .ok (.ifCond .gt 16, 3) := by decide +kernel
theorem d4_38 : decode prog_9_method_1_code 38 = .ok (.iload 4, 2) := by decide +kernel
theorem d4_40 : decode prog_9_method_1_code 40 = .ok (.i2l, 1) := by decide +kernel
theorem d4_41 : decode prog_9_method_1_code 41 = .ok (.iload_n 2, 1) := by decide +kernel
theorem d4_42 : decode prog_9_method_1_code 42 = .ok (.i2l, 1) := by decide +kernel
theorem d4_43 : decode prog_9_method_1_code 43 = .ok (.lsub, 1) := by decide +kernel
theorem d4_44 : decode prog_9_method_1_code 44 = .ok (.ldc2_w 17, 3) := by decide +kernel
theorem d4_47 : decode prog_9_method_1_code 47 = .ok (.lcmp, 1) := by decide +kernel
theorem d4_48 : decode prog_9_method_1_code 48 = .ok (.ifCond .le 14, 3) := by decide +kernel
theorem d4_51 : decode prog_9_method_1_code 51 = .ok (.iload_n 1, 1) := by decide +kernel
theorem d4_52 : decode prog_9_method_1_code 52 = .ok (.iload_n 2, 1) := by decide +kernel
theorem d4_53 : decode prog_9_method_1_code 53 = .ok (.iload_n 3, 1) := by decide +kernel
theorem d4_54 : decode prog_9_method_1_code 54 = .ok (.iload 4, 2) := by decide +kernel
theorem d4_56 : decode prog_9_method_1_code 56 = .ok (.ldc 19, 2) := by decide +kernel
theorem d4_58 : decode prog_9_method_1_code 58 = .ok (.invokestatic 9, 3) := by decide +kernel
theorem d4_61 : decode prog_9_method_1_code 61 = .ok (.athrow, 1) := by decide +kernel
theorem d4_62 : decode prog_9_method_1_code 62 = .ok (.aload_n 0, 1) := by decide +kernel
theorem d4_63 : decode prog_9_method_1_code 63 = .ok (.iload_n 1, 1) := by decide +kernel
theorem d4_64 : decode prog_9_method_1_code 64 = .ok (.putfield 21, 3) := by decide +kernel
theorem d4_67 : decode prog_9_method_1_code 67 = .ok (.aload_n 0, 1) := by decide +kernel
theorem d4_68 : decode prog_9_method_1_code 68 = .ok (.iload_n 2, 1) := by decide +kernel
theorem d4_69 : decode prog_9_method_1_code 69 = .ok (.putfield 25, 3) := by decide +kernel
theorem d4_72 : decode prog_9_method_1_code 72 = .ok (.aload_n 0, 1) := by decide +kernel
theorem d4_73 : decode prog_9_method_1_code 73 = .ok (.iload_n 3, 1) := by decide +kernel
theorem d4_74 : decode prog_9_method_1_code 74 = .ok (.putfield 28, 3) := by decide +kernel
theorem d4_77 : decode prog_9_method_1_code 77 = .ok (.aload_n 0, 1) := by decide +kernel
theorem d4_78 : decode prog_9_method_1_code 78 = .ok (.iload 4, 2) := by decide +kernel
theorem d4_80 : decode prog_9_method_1_code 80 = .ok (.putfield 31, 3) := by decide +kernel
theorem d4_83 : decode prog_9_method_1_code 83 = .ok (.return_, 1) := by decide +kernel
theorem pl_4 : plainFor (⟨"com/example/hewristic/hewristic/model/Rectangle", "<init>", "(IIII)V"⟩ : MethodName) = true := plainFor_of_name (by first | (simp [plainName, overriddenIn]; done) | decide +kernel)
theorem pd_1 : parseMethodDescriptor "()V" = some ⟨[], none⟩ := by decide +kernel
set_option maxRecDepth 65536 in
set_option maxHeartbeats 40000000 in
theorem rmInit (l : Launch) (Z : State) (a0 : Array Value) (hw : ∀ d ∈ tables_1, d.before a0 Z = true) (a : Addr) (x1 x2 x3 x4 : Int32) (h0 : Heap) (n0 : Nat) (Z0 : n0 ≤ h0.size) (ok : Okr x1 x2 x3 x4) (ga : n0 ≤ a) (E : Exa Z h0 a "com/example/hewristic/hewristic/model/Rectangle") (F0 : Fld Z h0 a "com/example/hewristic/hewristic/model/Rectangle" "left" "I" (.int 0)) (F1 : Fld Z h0 a "com/example/hewristic/hewristic/model/Rectangle" "top" "I" (.int 0)) (F2 : Fld Z h0 a "com/example/hewristic/hewristic/model/Rectangle" "right" "I" (.int 0)) (F3 : Fld Z h0 a "com/example/hewristic/hewristic/model/Rectangle" "bottom" "I" (.int 0)) :
    Met l Z (⟨"com/example/hewristic/hewristic/model/Rectangle", "<init>", "(IIII)V"⟩ : MethodName) prog_9_method_1_code 5 (Option.none : Option FieldType) [] ({ frames := 1, cells := 0, slots := 0, locals := 12 } : Room) #[(.ref a), (.int x1), (.int x2), (.int x3), (.int x4)] h0 n0 (fun v h => v = none ∧ Keep h0 h [a] ∧ Fld Z h a "com/example/hewristic/hewristic/model/Rectangle" "left" "I" (.int x1) ∧ Fld Z h a "com/example/hewristic/hewristic/model/Rectangle" "top" "I" (.int x2) ∧ Fld Z h a "com/example/hewristic/hewristic/model/Rectangle" "right" "I" (.int x3) ∧ Fld Z h a "com/example/hewristic/hewristic/model/Rectangle" "bottom" "I" (.int x4)) := by
  refine Met.of (Ls0 := #[.val (.ref a), .val (.int x1), .val (.int x2), .val (.int x3), .val (.int x4)]) pl_4 (by first | (simp [argsToLocals, Value.category]; done) | rfl) ?_
  intro p e s m below meth c hx hby hml hret hlk hown hnm hZ
  obtain ⟨o1, o2, o3, o4⟩ := ok
  refine Go.aloadN (q := 1) hx (hb hby d4_0) rfl (by rfl) rfl ?_
  refine Go.initO (q := 4) hx hZ hown (hw _ (List.mem_of_getElem? (i := 21) rfl)) (hw _ (List.mem_of_getElem? (i := 22) rfl)) (hw _ (List.mem_of_getElem? (i := 23) rfl)) (by rw [hml]; rfl) (hb hby d4_1) rfl (by decide) (Nat.le_of_ble_eq_true rfl) ?_
  refine Go.iloadN (q := 5) hx (hb hby d4_4) rfl rfl ?_
  refine Go.iloadN (q := 6) hx (hb hby d4_5) rfl rfl ?_
  refine Go.icmp_lt (q := 9) (t := 15) hx (hb hby d4_6) (by decide) rfl rfl (fun hc6 => absurd hc6 (by rw [Int32.lt_iff_toInt_lt]; omega)) (fun hc6 => ?_)
  refine Go.iload (q := 11) hx (hb hby d4_9) rfl rfl ?_
  refine Go.iloadN (q := 12) hx (hb hby d4_11) rfl rfl ?_
  refine Go.icmp_ge (q := 15) (t := 26) hx (hb hby d4_12) (by decide) rfl rfl (fun hc12 => ?_) (fun hc12 => absurd hc12 (by rw [Int32.lt_iff_toInt_lt]; omega))
  refine Go.iloadN (q := 27) hx (hb hby d4_26) rfl rfl ?_
  refine Go.i2l (q := 28) hx (hb hby d4_27) rfl ?_
  refine Go.iloadN (q := 29) hx (hb hby d4_28) rfl rfl ?_
  refine Go.i2l (q := 30) hx (hb hby d4_29) rfl ?_
  refine Go.lsub (q := 31) hx (hb hby d4_30) rfl ?_
  refine Go.ldc2Long (q := 34) hx hZ hown (hw _ (List.mem_of_getElem? (i := 24) rfl)) (hb hby d4_31) rfl ?_
  refine Go.lcmp (q := 35) hx (hb hby d4_34) rfl ?_
  refine Go.if_gt (q := 38) (t := 51) hx (hb hby d4_35) (by decide) rfl rfl (fun hc35 => absurd hc35 (by rw [cmpL_gt, Int64.lt_iff_toInt_lt, sub64, big64]; omega)) (fun hc35 => ?_)
  refine Go.iload (q := 40) hx (hb hby d4_38) rfl rfl ?_
  refine Go.i2l (q := 41) hx (hb hby d4_40) rfl ?_
  refine Go.iloadN (q := 42) hx (hb hby d4_41) rfl rfl ?_
  refine Go.i2l (q := 43) hx (hb hby d4_42) rfl ?_
  refine Go.lsub (q := 44) hx (hb hby d4_43) rfl ?_
  refine Go.ldc2Long (q := 47) hx hZ hown (hw _ (List.mem_of_getElem? (i := 24) rfl)) (hb hby d4_44) rfl ?_
  refine Go.lcmp (q := 48) hx (hb hby d4_47) rfl ?_
  refine Go.if_le (q := 51) (t := 62) hx (hb hby d4_48) (by decide) rfl rfl (fun hc48 => ?_) (fun hc48 => absurd hc48 (by rw [cmpL_gt, Int64.lt_iff_toInt_lt, sub64, big64]; omega))
  refine Go.aloadN (q := 63) hx (hb hby d4_62) rfl (by rfl) rfl ?_
  refine Go.iloadN (q := 64) hx (hb hby d4_63) rfl rfl ?_
  refine Go.putF (q := 67) hx hZ hown (host := "") (Or.inl (hw _ (List.mem_of_getElem? (i := 25) rfl))) Via.refl F0 E (Or.inr ⟨(hw _ (List.mem_of_getElem? (i := 26) rfl)), rfl, hnm⟩) (hw _ (List.mem_of_getElem? (i := 16) rfl)) (ty := .int) (by decide) rfl rfl ga (hb hby d4_64) rfl (fun h10 W11 => ?_)
  refine Go.aloadN (q := 68) hx (hb hby d4_67) rfl (by rfl) rfl ?_
  refine Go.iloadN (q := 69) hx (hb hby d4_68) rfl rfl ?_
  refine Go.putF (q := 72) hx hZ hown (host := "") (Or.inl (hw _ (List.mem_of_getElem? (i := 27) rfl))) Via.refl (Fld.other W11 F1 (Or.inr (slot_ne (C := "com/example/hewristic/hewristic/model/Rectangle") (Or.inr (hw _ (List.mem_of_getElem? (i := 28) rfl))) (Or.inr (hw _ (List.mem_of_getElem? (i := 26) rfl))) (by decide) (by decide : _ = some .int) (by decide : _ = some .int)))) (Exa.wr W11 E) (Or.inr ⟨(hw _ (List.mem_of_getElem? (i := 28) rfl)), rfl, hnm⟩) (hw _ (List.mem_of_getElem? (i := 16) rfl)) (ty := .int) (by decide) rfl rfl ga (hb hby d4_69) rfl (fun h12 W13 => ?_)
  refine Go.aloadN (q := 73) hx (hb hby d4_72) rfl (by rfl) rfl ?_
  refine Go.iloadN (q := 74) hx (hb hby d4_73) rfl rfl ?_
  refine Go.putF (q := 77) hx hZ hown (host := "") (Or.inl (hw _ (List.mem_of_getElem? (i := 29) rfl))) Via.refl (Fld.other W13 (Fld.other W11 F2 (Or.inr (slot_ne (C := "com/example/hewristic/hewristic/model/Rectangle") (Or.inr (hw _ (List.mem_of_getElem? (i := 30) rfl))) (Or.inr (hw _ (List.mem_of_getElem? (i := 26) rfl))) (by decide) (by decide : _ = some .int) (by decide : _ = some .int)))) (Or.inr (slot_ne (C := "com/example/hewristic/hewristic/model/Rectangle") (Or.inr (hw _ (List.mem_of_getElem? (i := 30) rfl))) (Or.inr (hw _ (List.mem_of_getElem? (i := 28) rfl))) (by decide) (by decide : _ = some .int) (by decide : _ = some .int)))) (Exa.wr W13 (Exa.wr W11 E)) (Or.inr ⟨(hw _ (List.mem_of_getElem? (i := 30) rfl)), rfl, hnm⟩) (hw _ (List.mem_of_getElem? (i := 16) rfl)) (ty := .int) (by decide) rfl rfl ga (hb hby d4_74) rfl (fun h14 W15 => ?_)
  refine Go.aloadN (q := 78) hx (hb hby d4_77) rfl (by rfl) rfl ?_
  refine Go.iload (q := 80) hx (hb hby d4_78) rfl rfl ?_
  refine Go.putF (q := 83) hx hZ hown (host := "") (Or.inl (hw _ (List.mem_of_getElem? (i := 31) rfl))) Via.refl (Fld.other W15 (Fld.other W13 (Fld.other W11 F3 (Or.inr (slot_ne (C := "com/example/hewristic/hewristic/model/Rectangle") (Or.inr (hw _ (List.mem_of_getElem? (i := 32) rfl))) (Or.inr (hw _ (List.mem_of_getElem? (i := 26) rfl))) (by decide) (by decide : _ = some .int) (by decide : _ = some .int)))) (Or.inr (slot_ne (C := "com/example/hewristic/hewristic/model/Rectangle") (Or.inr (hw _ (List.mem_of_getElem? (i := 32) rfl))) (Or.inr (hw _ (List.mem_of_getElem? (i := 28) rfl))) (by decide) (by decide : _ = some .int) (by decide : _ = some .int)))) (Or.inr (slot_ne (C := "com/example/hewristic/hewristic/model/Rectangle") (Or.inr (hw _ (List.mem_of_getElem? (i := 32) rfl))) (Or.inr (hw _ (List.mem_of_getElem? (i := 30) rfl))) (by decide) (by decide : _ = some .int) (by decide : _ = some .int)))) (Exa.wr W15 (Exa.wr W13 (Exa.wr W11 E))) (Or.inr ⟨(hw _ (List.mem_of_getElem? (i := 32) rfl)), rfl, hnm⟩) (hw _ (List.mem_of_getElem? (i := 16) rfl)) (ty := .int) (by decide) rfl rfl ga (hb hby d4_80) rfl (fun h16 W17 => ?_)
  refine Go.ret0 hx hret hlk (hb hby d4_83) (by decide) (by decide) ?_
  exact ⟨rfl, (((((Keep.refl h0 [a]).wr W11 (Or.inl (by simp))).wr W13 (Or.inl (by simp))).wr W15 (Or.inl (by simp))).wr W17 (Or.inl (by simp))), (Fld.other W17 (Fld.other W15 (Fld.other W13 (Fld.same W11 F0) (Or.inr (slot_ne (C := "com/example/hewristic/hewristic/model/Rectangle") (Or.inr (hw _ (List.mem_of_getElem? (i := 26) rfl))) (Or.inr (hw _ (List.mem_of_getElem? (i := 28) rfl))) (by decide) (by decide : _ = some .int) (by decide : _ = some .int)))) (Or.inr (slot_ne (C := "com/example/hewristic/hewristic/model/Rectangle") (Or.inr (hw _ (List.mem_of_getElem? (i := 26) rfl))) (Or.inr (hw _ (List.mem_of_getElem? (i := 30) rfl))) (by decide) (by decide : _ = some .int) (by decide : _ = some .int)))) (Or.inr (slot_ne (C := "com/example/hewristic/hewristic/model/Rectangle") (Or.inr (hw _ (List.mem_of_getElem? (i := 26) rfl))) (Or.inr (hw _ (List.mem_of_getElem? (i := 32) rfl))) (by decide) (by decide : _ = some .int) (by decide : _ = some .int)))), (Fld.other W17 (Fld.other W15 (Fld.same W13 (Fld.other W11 F1 (Or.inr (slot_ne (C := "com/example/hewristic/hewristic/model/Rectangle") (Or.inr (hw _ (List.mem_of_getElem? (i := 28) rfl))) (Or.inr (hw _ (List.mem_of_getElem? (i := 26) rfl))) (by decide) (by decide : _ = some .int) (by decide : _ = some .int))))) (Or.inr (slot_ne (C := "com/example/hewristic/hewristic/model/Rectangle") (Or.inr (hw _ (List.mem_of_getElem? (i := 28) rfl))) (Or.inr (hw _ (List.mem_of_getElem? (i := 30) rfl))) (by decide) (by decide : _ = some .int) (by decide : _ = some .int)))) (Or.inr (slot_ne (C := "com/example/hewristic/hewristic/model/Rectangle") (Or.inr (hw _ (List.mem_of_getElem? (i := 28) rfl))) (Or.inr (hw _ (List.mem_of_getElem? (i := 32) rfl))) (by decide) (by decide : _ = some .int) (by decide : _ = some .int)))), (Fld.other W17 (Fld.same W15 (Fld.other W13 (Fld.other W11 F2 (Or.inr (slot_ne (C := "com/example/hewristic/hewristic/model/Rectangle") (Or.inr (hw _ (List.mem_of_getElem? (i := 30) rfl))) (Or.inr (hw _ (List.mem_of_getElem? (i := 26) rfl))) (by decide) (by decide : _ = some .int) (by decide : _ = some .int)))) (Or.inr (slot_ne (C := "com/example/hewristic/hewristic/model/Rectangle") (Or.inr (hw _ (List.mem_of_getElem? (i := 30) rfl))) (Or.inr (hw _ (List.mem_of_getElem? (i := 28) rfl))) (by decide) (by decide : _ = some .int) (by decide : _ = some .int))))) (Or.inr (slot_ne (C := "com/example/hewristic/hewristic/model/Rectangle") (Or.inr (hw _ (List.mem_of_getElem? (i := 30) rfl))) (Or.inr (hw _ (List.mem_of_getElem? (i := 32) rfl))) (by decide) (by decide : _ = some .int) (by decide : _ = some .int)))), (Fld.same W17 (Fld.other W15 (Fld.other W13 (Fld.other W11 F3 (Or.inr (slot_ne (C := "com/example/hewristic/hewristic/model/Rectangle") (Or.inr (hw _ (List.mem_of_getElem? (i := 32) rfl))) (Or.inr (hw _ (List.mem_of_getElem? (i := 26) rfl))) (by decide) (by decide : _ = some .int) (by decide : _ = some .int)))) (Or.inr (slot_ne (C := "com/example/hewristic/hewristic/model/Rectangle") (Or.inr (hw _ (List.mem_of_getElem? (i := 32) rfl))) (Or.inr (hw _ (List.mem_of_getElem? (i := 28) rfl))) (by decide) (by decide : _ = some .int) (by decide : _ = some .int)))) (Or.inr (slot_ne (C := "com/example/hewristic/hewristic/model/Rectangle") (Or.inr (hw _ (List.mem_of_getElem? (i := 32) rfl))) (Or.inr (hw _ (List.mem_of_getElem? (i := 30) rfl))) (by decide) (by decide : _ = some .int) (by decide : _ = some .int)))))⟩
theorem d6_0 : decode prog_9_method_15_code 0 = .ok (.aload_n 1, 1) := by decide +kernel
theorem d6_1 : decode prog_9_method_15_code 1 = .ok (.instanceof 10, 3) := by decide +kernel
theorem d6_4 : decode prog_9_method_15_code 4 = .ok (.ifCond .ne 5, 3) := by decide +kernel
theorem d6_7 : decode prog_9_method_15_code 7 = .ok (.iconst 0, 1) := by decide +kernel
theorem d6_8 : decode prog_9_method_15_code 8 = .ok (.ireturn, 1) := by decide +kernel
theorem d6_9 : decode prog_9_method_15_code 9 = .ok (.aload_n 1, 1) := by decide +kernel
theorem d6_10 : decode prog_9_method_15_code 10 = .ok (.checkcast 10, 3) := by decide +kernel
theorem d6_13 : decode prog_9_method_15_code 13 = .ok (.astore_n 2, 1) := by decide +kernel
theorem d6_14 : decode prog_9_method_15_code 14 = .ok (.aload_n 0, 1) := by decide +kernel
theorem d6_15 : decode prog_9_method_15_code 15 = .ok (.getfield 21, 3) := by decide +kernel
theorem d6_18 : decode prog_9_method_15_code 18 = .ok (.aload_n 2, 1) := by decide +kernel
theorem d6_19 : decode prog_9_method_15_code 19 = .ok (.getfield 21, 3) := by decide +kernel
theorem d6_22 : decode prog_9_method_15_code 22 = .ok (.if_icmp .ne 40, 3) := by decide +kernel
theorem d6_25 : decode prog_9_method_15_code 25 = .ok (.aload_n 0, 1) := by decide +kernel
theorem d6_26 : decode prog_9_method_15_code 26 = .ok (.getfield 25, 3) := by decide +kernel
theorem d6_29 : decode prog_9_method_15_code 29 = .ok (.aload_n 2, 1) := by decide +kernel
theorem d6_30 : decode prog_9_method_15_code 30 = .ok (.getfield 25, 3) := by decide +kernel
theorem d6_33 : decode prog_9_method_15_code 33 = .ok (.if_icmp .ne 29, 3) := by decide +kernel
theorem d6_36 : decode prog_9_method_15_code 36 = .ok (.aload_n 0, 1) := by decide +kernel
theorem d6_37 : decode prog_9_method_15_code 37 = .ok (.getfield 28, 3) := by decide +kernel
theorem d6_40 : decode prog_9_method_15_code 40 = .ok (.aload_n 2, 1) := by decide +kernel
theorem d6_41 : decode prog_9_method_15_code 41 = .ok (.getfield 28, 3) := by decide +kernel
theorem d6_44 : decode prog_9_method_15_code 44 = .ok (.if_icmp .ne 18, 3) := by decide +kernel
theorem d6_47 : decode prog_9_method_15_code 47 = .ok (.aload_n 0, 1) := by decide +kernel
theorem d6_48 : decode prog_9_method_15_code 48 = .ok (.getfield 31, 3) := by decide +kernel
theorem d6_51 : decode prog_9_method_15_code 51 = .ok (.aload_n 2, 1) := by decide +kernel
theorem d6_52 : decode prog_9_method_15_code 52 = .ok (.getfield 31, 3) := by decide +kernel
theorem d6_55 : decode prog_9_method_15_code 55 = .ok (.if_icmp .ne 7, 3) := by decide +kernel
theorem d6_58 : decode prog_9_method_15_code 58 = .ok (.iconst 1, 1) := by decide +kernel
theorem d6_59 : decode prog_9_method_15_code 59 = .ok (.goto 4, 3) := by decide +kernel
theorem d6_62 : decode prog_9_method_15_code 62 = .ok (.iconst 0, 1) := by decide +kernel
theorem d6_63 : decode prog_9_method_15_code 63 = .ok (.ireturn, 1) := by decide +kernel
theorem pl_5 : plainFor (⟨"com/example/hewristic/hewristic/model/Rectangle", "equals", "(Ljava/lang/Object;)Z"⟩ : MethodName) = true := plainFor_of_name (by first | (simp [plainName, overriddenIn]; done) | decide +kernel)
set_option maxRecDepth 65536 in
set_option maxHeartbeats 40000000 in
theorem rmEq (l : Launch) (Z : State) (a0 : Array Value) (hw : ∀ d ∈ tables_1, d.before a0 Z = true) (a b : Addr) (x1 x2 x3 x4 y1 y2 y3 y4 : Int32) (h0 : Heap) (n0 : Nat) (Z0 : n0 ≤ h0.size) (E : Exa Z h0 b "com/example/hewristic/hewristic/model/Rectangle") (F1 : Fld Z h0 a "com/example/hewristic/hewristic/model/Rectangle" "left" "I" (.int x1)) (G1 : Fld Z h0 b "com/example/hewristic/hewristic/model/Rectangle" "left" "I" (.int y1)) (F2 : Fld Z h0 a "com/example/hewristic/hewristic/model/Rectangle" "top" "I" (.int x2)) (G2 : Fld Z h0 b "com/example/hewristic/hewristic/model/Rectangle" "top" "I" (.int y2)) (F3 : Fld Z h0 a "com/example/hewristic/hewristic/model/Rectangle" "right" "I" (.int x3)) (G3 : Fld Z h0 b "com/example/hewristic/hewristic/model/Rectangle" "right" "I" (.int y3)) (F4 : Fld Z h0 a "com/example/hewristic/hewristic/model/Rectangle" "bottom" "I" (.int x4)) (G4 : Fld Z h0 b "com/example/hewristic/hewristic/model/Rectangle" "bottom" "I" (.int y4)) :
    Met l Z (⟨"com/example/hewristic/hewristic/model/Rectangle", "equals", "(Ljava/lang/Object;)Z"⟩ : MethodName) prog_9_method_15_code 3 (Option.some FieldType.boolean) [] ({ frames := 0, cells := 0, slots := 0, locals := 0 } : Room) #[(.ref a), (.ref b)] h0 n0 (fun v h => v = some (.int (eqv x1 x2 x3 x4 y1 y2 y3 y4)) ∧ h0 = h) := by
  refine Met.of (Ls0 := #[.val (.ref a), .val (.ref b), .unset]) pl_5 (by first | (simp [argsToLocals, Value.category]; done) | rfl) ?_
  intro p e s m below meth c hx hby hml hret hlk hown hnm hZ
  refine Go.aloadN (q := 1) hx (hb hby d6_0) rfl (by rfl) rfl ?_
  refine Go.instY (q := 4) hx hZ hown (hw _ (List.mem_of_getElem? (i := 38) rfl)) (Ins.self E) (hb hby d6_1) rfl ?_
  refine Go.if_ne (q := 7) (t := 9) hx (hb hby d6_4) (by decide) rfl rfl (fun hc4 => ?_) (fun hc4 => absurd hc4 (by decide))
  refine Go.aloadN (q := 10) hx (hb hby d6_9) rfl (by rfl) rfl ?_
  refine Go.castY (q := 13) hx hZ hown (hw _ (List.mem_of_getElem? (i := 38) rfl)) (Ins.self E) (hb hby d6_10) rfl ?_
  refine Go.astoreN (q := 14) (l' := #[.val (.ref a), .val (.ref b), .val (.ref b)]) hx (hb hby d6_13) (by rfl) rfl rfl ?_
  refine Go.aloadN (q := 15) hx (hb hby d6_14) rfl (by rfl) rfl ?_
  refine Go.getF (q := 18) hx hZ hown (host := "") (Or.inl (hw _ (List.mem_of_getElem? (i := 25) rfl))) Via.refl F1 (hb hby d6_15) rfl ?_
  refine Go.aloadN (q := 19) hx (hb hby d6_18) rfl (by rfl) rfl ?_
  refine Go.getF (q := 22) hx hZ hown (host := "") (Or.inl (hw _ (List.mem_of_getElem? (i := 25) rfl))) Via.refl G1 (hb hby d6_19) rfl ?_
  refine Go.icmp_ne (q := 25) (t := 62) hx (hb hby d6_22) (by decide) rfl rfl (fun hc22 => ?_) (fun hc22 => ?_)
  · skip
    refine Go.iconst (q := 63) (z := (0 : Int32)) hx (hb hby d6_62) rfl rfl ?_
    refine Go.retN hx (t := .boolean) hret (by simp) hlk (hb hby d6_63) (by decide) (by decide) ?_
    exact ⟨by simp [eqv, nar, hc22], rfl⟩
  · skip
    refine Go.aloadN (q := 26) hx (hb hby d6_25) rfl (by rfl) rfl ?_
    refine Go.getF (q := 29) hx hZ hown (host := "") (Or.inl (hw _ (List.mem_of_getElem? (i := 27) rfl))) Via.refl F2 (hb hby d6_26) rfl ?_
    refine Go.aloadN (q := 30) hx (hb hby d6_29) rfl (by rfl) rfl ?_
    refine Go.getF (q := 33) hx hZ hown (host := "") (Or.inl (hw _ (List.mem_of_getElem? (i := 27) rfl))) Via.refl G2 (hb hby d6_30) rfl ?_
    refine Go.icmp_ne (q := 36) (t := 62) hx (hb hby d6_33) (by decide) rfl rfl (fun hc33 => ?_) (fun hc33 => ?_)
    · skip
      refine Go.iconst (q := 63) (z := (0 : Int32)) hx (hb hby d6_62) rfl rfl ?_
      refine Go.retN hx (t := .boolean) hret (by simp) hlk (hb hby d6_63) (by decide) (by decide) ?_
      exact ⟨by simp [eqv, nar, hc22, hc33], rfl⟩
    · skip
      refine Go.aloadN (q := 37) hx (hb hby d6_36) rfl (by rfl) rfl ?_
      refine Go.getF (q := 40) hx hZ hown (host := "") (Or.inl (hw _ (List.mem_of_getElem? (i := 29) rfl))) Via.refl F3 (hb hby d6_37) rfl ?_
      refine Go.aloadN (q := 41) hx (hb hby d6_40) rfl (by rfl) rfl ?_
      refine Go.getF (q := 44) hx hZ hown (host := "") (Or.inl (hw _ (List.mem_of_getElem? (i := 29) rfl))) Via.refl G3 (hb hby d6_41) rfl ?_
      refine Go.icmp_ne (q := 47) (t := 62) hx (hb hby d6_44) (by decide) rfl rfl (fun hc44 => ?_) (fun hc44 => ?_)
      · skip
        refine Go.iconst (q := 63) (z := (0 : Int32)) hx (hb hby d6_62) rfl rfl ?_
        refine Go.retN hx (t := .boolean) hret (by simp) hlk (hb hby d6_63) (by decide) (by decide) ?_
        exact ⟨by simp [eqv, nar, hc22, hc33, hc44], rfl⟩
      · skip
        refine Go.aloadN (q := 48) hx (hb hby d6_47) rfl (by rfl) rfl ?_
        refine Go.getF (q := 51) hx hZ hown (host := "") (Or.inl (hw _ (List.mem_of_getElem? (i := 31) rfl))) Via.refl F4 (hb hby d6_48) rfl ?_
        refine Go.aloadN (q := 52) hx (hb hby d6_51) rfl (by rfl) rfl ?_
        refine Go.getF (q := 55) hx hZ hown (host := "") (Or.inl (hw _ (List.mem_of_getElem? (i := 31) rfl))) Via.refl G4 (hb hby d6_52) rfl ?_
        refine Go.icmp_ne (q := 58) (t := 62) hx (hb hby d6_55) (by decide) rfl rfl (fun hc55 => ?_) (fun hc55 => ?_)
        · skip
          refine Go.iconst (q := 63) (z := (0 : Int32)) hx (hb hby d6_62) rfl rfl ?_
          refine Go.retN hx (t := .boolean) hret (by simp) hlk (hb hby d6_63) (by decide) (by decide) ?_
          exact ⟨by simp [eqv, nar, hc22, hc33, hc44, hc55], rfl⟩
        · skip
          refine Go.iconst (q := 59) (z := (1 : Int32)) hx (hb hby d6_58) rfl rfl ?_
          refine Go.goto (q := 63) hx (hb hby d6_59) (by decide) rfl ?_
          refine Go.retN hx (t := .boolean) hret (by simp) hlk (hb hby d6_63) (by decide) (by decide) ?_
          exact ⟨by simp [eqv, nar, hc22, hc33, hc44, hc55], rfl⟩
set_option maxRecDepth 65536 in
set_option maxHeartbeats 40000000 in
theorem rmEqN (l : Launch) (Z : State) (a0 : Array Value) (hw : ∀ d ∈ tables_1, d.before a0 Z = true) (a : Addr) (h0 : Heap) (n0 : Nat) (Z0 : n0 ≤ h0.size)  :
    Met l Z (⟨"com/example/hewristic/hewristic/model/Rectangle", "equals", "(Ljava/lang/Object;)Z"⟩ : MethodName) prog_9_method_15_code 3 (Option.some FieldType.boolean) [] ({ frames := 0, cells := 0, slots := 0, locals := 0 } : Room) #[(.ref a), .null] h0 n0 (fun v h => v = some (.int 0) ∧ h0 = h) := by
  refine Met.of (Ls0 := #[.val (.ref a), .val .null, .unset]) pl_5 (by first | (simp [argsToLocals, Value.category]; done) | rfl) ?_
  intro p e s m below meth c hx hby hml hret hlk hown hnm hZ
  refine Go.aloadN (q := 1) hx (hb hby d6_0) rfl (by rfl) rfl ?_
  refine Go.instNull (q := 4) hx (hb hby d6_1) rfl ?_
  refine Go.if_ne (q := 7) (t := 9) hx (hb hby d6_4) (by decide) rfl rfl (fun hc4 => absurd hc4 (by decide)) (fun hc4 => ?_)
  refine Go.iconst (q := 8) (z := (0 : Int32)) hx (hb hby d6_7) rfl rfl ?_
  refine Go.retN hx (t := .boolean) hret (by simp) hlk (hb hby d6_8) (by decide) (by decide) ?_
  exact ⟨rfl, rfl⟩
set_option maxRecDepth 65536 in
set_option maxHeartbeats 40000000 in
theorem rmEqI (l : Launch) (Z : State) (a0 : Array Value) (hw : ∀ d ∈ tables_1, d.before a0 Z = true) (a b : Addr) (h0 : Heap) (n0 : Nat) (Z0 : n0 ≤ h0.size) (E : Exa Z h0 b "java/lang/Integer") :
    Met l Z (⟨"com/example/hewristic/hewristic/model/Rectangle", "equals", "(Ljava/lang/Object;)Z"⟩ : MethodName) prog_9_method_15_code 3 (Option.some FieldType.boolean) [] ({ frames := 0, cells := 0, slots := 0, locals := 0 } : Room) #[(.ref a), (.ref b)] h0 n0 (fun v h => v = some (.int 0) ∧ h0 = h) := by
  refine Met.of (Ls0 := #[.val (.ref a), .val (.ref b), .unset]) pl_5 (by first | (simp [argsToLocals, Value.category]; done) | rfl) ?_
  intro p e s m below meth c hx hby hml hret hlk hown hnm hZ
  refine Go.aloadN (q := 1) hx (hb hby d6_0) rfl (by rfl) rfl ?_
  refine Go.instNo (q := 4) hx hZ hown (hw _ (List.mem_of_getElem? (i := 38) rfl)) E (ns_no (hw _ (List.mem_of_getElem? (i := 47) rfl)) (hw _ (List.mem_of_getElem? (i := 16) rfl)) (NS.step (hw _ (List.mem_of_getElem? (i := 47) rfl)) (NS.step (hw _ (List.mem_of_getElem? (i := 48) rfl)) (ns_root (hw _ (List.mem_of_getElem? (i := 49) rfl)) (hw _ (List.mem_of_getElem? (i := 16) rfl)) (by decide)) (by decide)) (by decide)) (by decide)) (hb hby d6_1) rfl ?_
  refine Go.if_ne (q := 7) (t := 9) hx (hb hby d6_4) (by decide) rfl rfl (fun hc4 => absurd hc4 (by decide)) (fun hc4 => ?_)
  refine Go.iconst (q := 8) (z := (0 : Int32)) hx (hb hby d6_7) rfl rfl ?_
  refine Go.retN hx (t := .boolean) hret (by simp) hlk (hb hby d6_8) (by decide) (by decide) ?_
  exact ⟨rfl, rfl⟩
theorem d9_0 : decode jdk_18_method_1_code 0 = .ok (.aload_n 0, 1) := by decide +kernel
theorem d9_1 : decode jdk_18_method_1_code 1 = .ok (.invokespecial 1, 3) := by decide +kernel
theorem d9_4 : decode jdk_18_method_1_code 4 = .ok (.return_, 1) := by decide +kernel
theorem pl_6 : plainFor (⟨"java/lang/Number", "<init>", "()V"⟩ : MethodName) = true := plainFor_of_name (by first | (simp [plainName, overriddenIn]; done) | decide +kernel)
set_option maxRecDepth 65536 in
set_option maxHeartbeats 40000000 in
theorem rmNum (l : Launch) (Z : State) (a0 : Array Value) (hw : ∀ d ∈ tables_1, d.before a0 Z = true) (a : Addr) (h0 : Heap) (n0 : Nat) (Z0 : n0 ≤ h0.size)  :
    Met l Z (⟨"java/lang/Number", "<init>", "()V"⟩ : MethodName) jdk_18_method_1_code 1 (Option.none : Option FieldType) [] ({ frames := 1, cells := 0, slots := 0, locals := 12 } : Room) #[(.ref a)] h0 n0 (fun v h => v = none ∧ h0 = h) := by
  refine Met.of (Ls0 := #[.val (.ref a)]) pl_6 (by first | (simp [argsToLocals, Value.category]; done) | rfl) ?_
  intro p e s m below meth c hx hby hml hret hlk hown hnm hZ
  refine Go.aloadN (q := 1) hx (hb hby d9_0) rfl (by rfl) rfl ?_
  refine Go.initO (q := 4) hx hZ hown (hw _ (List.mem_of_getElem? (i := 62) rfl)) (hw _ (List.mem_of_getElem? (i := 22) rfl)) (hw _ (List.mem_of_getElem? (i := 23) rfl)) (by rw [hml]; rfl) (hb hby d9_1) rfl (by decide) (Nat.le_of_ble_eq_true rfl) ?_
  refine Go.ret0 hx hret hlk (hb hby d9_4) (by decide) (by decide) ?_
  exact ⟨rfl, rfl⟩
theorem d8_0 : decode jdk_33_method_23_code 0 = .ok (.aload_n 0, 1) := by decide +kernel
theorem d8_1 : decode jdk_33_method_23_code 1 = .ok (.invokespecial 202, 3) := by decide +kernel
theorem d8_4 : decode jdk_33_method_23_code 4 = .ok (.aload_n 0, 1) := by decide +kernel
theorem d8_5 : decode jdk_33_method_23_code 5 = .ok (.iload_n 1, 1) := by decide +kernel
theorem d8_6 : decode jdk_33_method_23_code 6 = .ok (.putfield 205, 3) := by decide +kernel
theorem d8_9 : decode jdk_33_method_23_code 9 = .ok (.return_, 1) := by decide +kernel
theorem pl_7 : plainFor (⟨"java/lang/Integer", "<init>", "(I)V"⟩ : MethodName) = true := plainFor_of_name (by first | (simp [plainName, overriddenIn]; done) | decide +kernel)
set_option maxRecDepth 65536 in
set_option maxHeartbeats 40000000 in
theorem rmII (l : Launch) (Z : State) (a0 : Array Value) (hw : ∀ d ∈ tables_1, d.before a0 Z = true) (a : Addr) (x : Int32) (h0 : Heap) (n0 : Nat) (Z0 : n0 ≤ h0.size) (ga : n0 ≤ a) (E : Exa Z h0 a "java/lang/Integer") (F : Fld Z h0 a "java/lang/Integer" "value" "I" (.int 0)) :
    Met l Z (⟨"java/lang/Integer", "<init>", "(I)V"⟩ : MethodName) jdk_33_method_23_code 2 (Option.none : Option FieldType) [] ({ frames := 2, cells := 0, slots := 0, locals := 24 } : Room) #[(.ref a), (.int x)] h0 n0 (fun v h => v = none ∧ Keep h0 h [a]) := by
  refine Met.of (Ls0 := #[.val (.ref a), .val (.int x)]) pl_7 (by first | (simp [argsToLocals, Value.category]; done) | rfl) ?_
  intro p e s m below meth c hx hby hml hret hlk hown hnm hZ
  refine Go.aloadN (q := 1) hx (hb hby d8_0) rfl (by rfl) rfl ?_
  refine Go.callI (q := 4) hx hZ (a := a) (argsL := []) (rest := []) hown rfl (hw _ (List.mem_of_getElem? (i := 56) rfl)) (hw _ (List.mem_of_getElem? (i := 57) rfl)) (hw _ (List.mem_of_getElem? (i := 60) rfl)) (hw _ (List.mem_of_getElem? (i := 61) rfl)) (by decide) (rmNum l Z a0 hw a h0 n0 Z0) (by rw [hml]; rfl) pd_1 rfl rfl (hb hby d8_1) rfl (by decide) (Nat.le_of_ble_eq_true rfl) (ce' := 0) (sl' := 0) rfl rfl (by decide) (by decide) (fun v18 h19 hQ20 => ?_)
  obtain ⟨rfl, rfl⟩ := hQ20
  show Go _ _ _ _ _ _ _ _ _ _ _ _ _ _ _ 0 0 4 #[.val (.ref a), .val (.int x)] []
  refine Go.aloadN (q := 5) hx (hb hby d8_4) rfl (by rfl) rfl ?_
  refine Go.iloadN (q := 6) hx (hb hby d8_5) rfl rfl ?_
  refine Go.putF (q := 9) hx hZ hown (host := "") (Or.inl (hw _ (List.mem_of_getElem? (i := 63) rfl))) Via.refl F E (Or.inr ⟨(hw _ (List.mem_of_getElem? (i := 64) rfl)), rfl, hnm⟩) (hw _ (List.mem_of_getElem? (i := 51) rfl)) (ty := .int) (by decide) rfl rfl ga (hb hby d8_6) rfl (fun h21 W22 => ?_)
  refine Go.ret0 hx hret hlk (hb hby d8_9) (by decide) (by decide) ?_
  exact ⟨rfl, ((Keep.refl h0 [a]).wr W22 (Or.inl (by simp)))⟩
theorem idx_ok {x : Int32} (h1 : ¬ x < (-128 : Int32)) (h2 : ¬ (127 : Int32) < x) : ¬ x + (128 : Int32) < 0 ∧ x + (128 : Int32) < (256 : Int32) := by
  rw [Int32.lt_iff_toInt_lt] at h1 h2
  have e1 : (-128 : Int32).toInt = -128 := rfl
  have e2 : (127 : Int32).toInt = 127 := rfl
  have e3 : (128 : Int32).toInt = 128 := rfl
  have e4 : (256 : Int32).toInt = 256 := rfl
  have e5 : (0 : Int32).toInt = 0 := rfl
  rw [Int32.lt_iff_toInt_lt, Int32.lt_iff_toInt_lt, Jvm.Kit.i32_add (by omega) (by omega)]
  omega
theorem d7_0 : decode jdk_33_method_22_code 0 = .ok (.iload_n 0, 1) := by decide +kernel
theorem d7_1 : decode jdk_33_method_22_code 1 = .ok (.bipush (-128), 2) := by decide +kernel
theorem d7_3 : decode jdk_33_method_22_code 3 = .ok (.if_icmp .lt 20, 3) := by decide +kernel
theorem d7_6 : decode jdk_33_method_22_code 6 = .ok (.iload_n 0, 1) := by decide +kernel
theorem d7_7 : decode jdk_33_method_22_code 7 = .ok (.getstatic 191, 3) := by decide +kernel
theorem d7_10 : decode jdk_33_method_22_code 10 = .ok (.if_icmp .gt 13, 3) := by decide +kernel
theorem d7_13 : decode jdk_33_method_22_code 13 = .ok (.getstatic 195, 3) := by decide +kernel
theorem d7_16 : decode jdk_33_method_22_code 16 = .ok (.iload_n 0, 1) := by decide +kernel
theorem d7_17 : decode jdk_33_method_22_code 17 = .ok (.sipush 128, 3) := by decide +kernel
theorem d7_20 : decode jdk_33_method_22_code 20 = .ok (.iadd, 1) := by decide +kernel
theorem d7_21 : decode jdk_33_method_22_code 21 = .ok (.aaload, 1) := by decide +kernel
theorem d7_22 : decode jdk_33_method_22_code 22 = .ok (.areturn, 1) := by decide +kernel
theorem d7_23 : decode jdk_33_method_22_code 23 = .ok (.new 1, 3) := by decide +kernel
theorem d7_26 : decode jdk_33_method_22_code 26 = .ok (.dup, 1) := by decide +kernel
theorem d7_27 : decode jdk_33_method_22_code 27 = .ok (.iload_n 0, 1) := by decide +kernel
theorem d7_28 : decode jdk_33_method_22_code 28 = .ok (.invokespecial 199, 3) := by decide +kernel
theorem d7_31 : decode jdk_33_method_22_code 31 = .ok (.areturn, 1) := by decide +kernel
theorem pl_8 : plainFor (⟨"java/lang/Integer", "valueOf", "(I)Ljava/lang/Integer;"⟩ : MethodName) = true := plainFor_of_name (by first | (simp [plainName, overriddenIn]; done) | decide +kernel)
theorem pd_2 : parseMethodDescriptor "(I)V" = some ⟨[.int], none⟩ := by decide +kernel
set_option maxRecDepth 65536 in
set_option maxHeartbeats 40000000 in
theorem rmVal (l : Launch) (Z : State) (a0 : Array Value) (hw : ∀ d ∈ tables_1, d.before a0 Z = true) (x : Int32) (cb : Addr) (cl : Cell) (vl : Int32 → Value) (h0 : Heap) (n0 : Nat) (Z0 : n0 ≤ h0.size) (X0 : Old Z n0 h0) (S1 : Sta Z Z.heap "java/lang/Integer$IntegerCache" "high" "I" (.int (127 : Int32))) (S2 : Sta Z Z.heap "java/lang/Integer$IntegerCache" "cache" "[Ljava/lang/Integer;" (.ref cb)) (B : Bxs Z cb cl "java/lang/Integer" "I" (256 : Int32) vl) :
    Met l Z (⟨"java/lang/Integer", "valueOf", "(I)Ljava/lang/Integer;"⟩ : MethodName) jdk_33_method_22_code 1 (Option.some (FieldType.object "java/lang/Integer")) [] ({ frames := 3, cells := 1, slots := 1, locals := 38 } : Room) #[(.int x)] h0 n0 (fun v h => ∃ y, v = some (.ref y) ∧ Keep h0 h [] ∧ Exa Z h y "java/lang/Integer") := by
  refine Met.of (Ls0 := #[.val (.int x)]) pl_8 (by first | (simp [argsToLocals, Value.category]; done) | rfl) ?_
  intro p e s m below meth c hx hby hml hret hlk hown hnm hZ
  refine Go.iloadN (q := 1) hx (hb hby d7_0) rfl rfl ?_
  refine Go.bipush (q := 3) (z := (-128 : Int32)) hx (hb hby d7_1) rfl rfl ?_
  refine Go.icmp_lt (q := 6) (t := 23) hx (hb hby d7_3) (by decide) rfl rfl (fun hc3 => ?_) (fun hc3 => ?_)
  · skip
    refine Go.newO (q := 26) hx hZ hown (hw _ (List.mem_of_getElem? (i := 50) rfl)) (hw _ (List.mem_of_getElem? (i := 51) rfl)) (hw _ (List.mem_of_getElem? (i := 42) rfl)) (hb hby d7_23) rfl (ce' := 1) (sl' := 1) rfl rfl (by decide) (by decide) (fun h23 a24 g25 E26 A27 D28 => ?_)
    have gz29 : n0 ≤ a24 := by rw [g25]; exact Z0
    have gk30 : h0.size ≤ a24 := by rw [g25]; exact (Keep.refl h0 []).1
    refine Go.dup (q := 27) hx (hb hby d7_26) rfl rfl ?_
    refine Go.iloadN (q := 28) hx (hb hby d7_27) rfl rfl ?_
    refine Go.callI (q := 31) hx hZ (a := a24) (argsL := [(.int x)]) (rest := [(.ref a24)]) hown rfl (hw _ (List.mem_of_getElem? (i := 52) rfl)) (hw _ (List.mem_of_getElem? (i := 53) rfl)) (hw _ (List.mem_of_getElem? (i := 42) rfl)) (hw _ (List.mem_of_getElem? (i := 55) rfl)) (by decide) (rmII l Z a0 hw a24 x h23 n0 (Nat.le_trans Z0 E26.1) gz29 A27 (D28 (Or.inr (hw _ (List.mem_of_getElem? (i := 64) rfl))) (ty := .int) (by decide))) (by rw [hml]; rfl) pd_2 rfl rfl (hb hby d7_28) rfl (by decide) (Nat.le_of_ble_eq_true rfl) (ce' := 1) (sl' := 1) rfl rfl (by decide) (by decide) (fun v31 h32 hQ33 => ?_)
    obtain ⟨rfl, K34⟩ := hQ33
    show Go _ _ _ _ _ _ _ _ _ _ _ _ _ _ _ 1 1 31 #[.val (.int x)] [(.ref a24)]
    refine Go.retA hx hret rfl (by rfl) hlk (hb hby d7_31) (by decide) (by decide) ?_
    exact ⟨a24, rfl, (Keep.trans ((Keep.refl h0 []).ext E26) K34 (allS (Or.inr gk30) all0)), (A27.keep K34)⟩
  · skip
    refine Go.iloadN (q := 7) hx (hb hby d7_6) rfl rfl ?_
    refine Go.getS (q := 10) hx hZ hown (host := "") (Or.inl (hw _ (List.mem_of_getElem? (i := 44) rfl))) Via.refl (Sta.ext X0.2 S1) (hb hby d7_7) rfl ?_
    refine Go.icmp_gt (q := 13) (t := 23) hx (hb hby d7_10) (by decide) rfl rfl (fun hc10 => ?_) (fun hc10 => ?_)
    · skip
      refine Go.newO (q := 26) hx hZ hown (hw _ (List.mem_of_getElem? (i := 50) rfl)) (hw _ (List.mem_of_getElem? (i := 51) rfl)) (hw _ (List.mem_of_getElem? (i := 42) rfl)) (hb hby d7_23) rfl (ce' := 1) (sl' := 1) rfl rfl (by decide) (by decide) (fun h35 a36 g37 E38 A39 D40 => ?_)
      have gz41 : n0 ≤ a36 := by rw [g37]; exact Z0
      have gk42 : h0.size ≤ a36 := by rw [g37]; exact (Keep.refl h0 []).1
      refine Go.dup (q := 27) hx (hb hby d7_26) rfl rfl ?_
      refine Go.iloadN (q := 28) hx (hb hby d7_27) rfl rfl ?_
      refine Go.callI (q := 31) hx hZ (a := a36) (argsL := [(.int x)]) (rest := [(.ref a36)]) hown rfl (hw _ (List.mem_of_getElem? (i := 52) rfl)) (hw _ (List.mem_of_getElem? (i := 53) rfl)) (hw _ (List.mem_of_getElem? (i := 42) rfl)) (hw _ (List.mem_of_getElem? (i := 55) rfl)) (by decide) (rmII l Z a0 hw a36 x h35 n0 (Nat.le_trans Z0 E38.1) gz41 A39 (D40 (Or.inr (hw _ (List.mem_of_getElem? (i := 64) rfl))) (ty := .int) (by decide))) (by rw [hml]; rfl) pd_2 rfl rfl (hb hby d7_28) rfl (by decide) (Nat.le_of_ble_eq_true rfl) (ce' := 1) (sl' := 1) rfl rfl (by decide) (by decide) (fun v43 h44 hQ45 => ?_)
      obtain ⟨rfl, K46⟩ := hQ45
      show Go _ _ _ _ _ _ _ _ _ _ _ _ _ _ _ 1 1 31 #[.val (.int x)] [(.ref a36)]
      refine Go.retA hx hret rfl (by rfl) hlk (hb hby d7_31) (by decide) (by decide) ?_
      exact ⟨a36, rfl, (Keep.trans ((Keep.refl h0 []).ext E38) K46 (allS (Or.inr gk42) all0)), (A39.keep K46)⟩
    · skip
      refine Go.getS (q := 16) hx hZ hown (host := "") (Or.inl (hw _ (List.mem_of_getElem? (i := 46) rfl))) Via.refl (Sta.ext X0.2 S2) (hb hby d7_13) rfl ?_
      refine Go.iloadN (q := 17) hx (hb hby d7_16) rfl rfl ?_
      refine Go.sipush (q := 20) (z := (128 : Int32)) hx (hb hby d7_17) rfl rfl ?_
      refine Go.iadd (q := 21) hx (hb hby d7_20) rfl ?_
      have hj : ¬ (x + (128 : Int32) < 0 ∨ cl.slots.size ≤ (x + (128 : Int32)).toNatClampNeg) := inb_of B.2.1 (idx_ok hc3 hc10)
      obtain ⟨y, y1, y2, y3⟩ := B.2.2.2 _ hj
      refine Go.aaloadC (q := 22) hx hZ (Arr.ext X0.2 B.1) rfl hj y1 (hb hby d7_21) rfl ?_
      refine Go.retA hx hret rfl (by rfl) hlk (hb hby d7_22) (by decide) (by decide) ?_
      exact ⟨y, rfl, Keep.refl _ _, (Exa.ext X0.2 y2)⟩
theorem pl_9 : plainFor (⟨"com/example/hewristic/hewristic/model/RectangleEqualsPinLaw", "law", "(IIIIII)Z"⟩ : MethodName) = true := plainFor_of_name (by first | (simp [plainName, overriddenIn]; done) | decide +kernel)
theorem pd_3 : parseMethodDescriptor "(IIII)V" = some ⟨[.int, .int, .int, .int], none⟩ := by decide +kernel
theorem pd_4 : parseMethodDescriptor "(Ljava/lang/Object;)Z" = some ⟨[(.object "java/lang/Object")], some .boolean⟩ := by decide +kernel
theorem pd_5 : parseMethodDescriptor "(I)Ljava/lang/Integer;" = some ⟨[.int], some (.object "java/lang/Integer")⟩ := by decide +kernel
set_option maxRecDepth 65536 in
set_option maxHeartbeats 40000000 in
theorem rm0 (l : Launch) (Z : State) (a0 : Array Value) (hw : ∀ d ∈ tables_1, d.before a0 Z = true) (p1 p2 p3 p4 p5 p6 : Int32) (cb : Addr) (cl : Cell) (vl : Int32 → Value) (h0 : Heap) (n0 : Nat) (Z0 : n0 ≤ h0.size) (X0 : Old Z n0 h0) (S1 : Sta Z Z.heap "java/lang/Integer$IntegerCache" "high" "I" (.int (127 : Int32))) (S2 : Sta Z Z.heap "java/lang/Integer$IntegerCache" "cache" "[Ljava/lang/Integer;" (.ref cb)) (B : Bxs Z cb cl "java/lang/Integer" "I" (256 : Int32) vl) :
    Met l Z x code maxLocals ret tables_1 room_1 #[(.int p1), (.int p2), (.int p3), (.int p4), (.int p5), (.int p6)] h0 n0 (fun v h => v = some (.int 1)) := by
  refine Met.of (Ls0 := #[.val (.int p1), .val (.int p2), .val (.int p3), .val (.int p4), .val (.int p5), .val (.int p6), .unset, .unset, .unset, .unset, .unset, .unset, .unset, .unset, .unset, .unset, .unset, .unset, .unset, .unset, .unset, .unset, .unset, .unset, .unset, .unset, .unset, .unset]) pl_9 (by first | (simp [argsToLocals, Value.category, maxLocals]; done) | rfl) ?_
  intro p e s m below meth c hx hby hml hret hlk hown hnm hZ
  have J95 : ∀ (k6 k7 a2 b2 c2 d2 : Int32), Go p l e room_1 s m #[(.int p1), (.int p2), (.int p3), (.int p4), (.int p5), (.int p6)] below meth c n0 room_1.cells room_1.slots (fun v h => v = some (.int 1)) h0 0 0 95 #[.val (.int p1), .val (.int p2), .val (.int p3), .val (.int p4), .val (.int p5), .val (.int p6), .val (.int k6), .val (.int k7), .val (.int a2), .val (.int b2), .val (.int c2), .val (.int d2), .unset, .unset, .unset, .unset, .unset, .unset, .unset, .unset, .unset, .unset, .unset, .unset, .unset, .unset, .unset, .unset] [] := by
    intro k6 k7 a2 b2 c2 d2
    refine Go.iloadN (q := 96) hx (hb hby at_95) rfl rfl ?_
    refine Go.iloadN (q := 97) hx (hb hby at_96) rfl rfl ?_
    refine Go.callS (q := 100) hx hZ (argsL := [(.int p1), (.int p3)]) (rest := []) hown (hw _ (List.mem_of_getElem? (i := 0) rfl)) (hw _ (List.mem_of_getElem? (i := 1) rfl)) (hw _ (List.mem_of_getElem? (i := 2) rfl)) (hw _ (List.mem_of_getElem? (i := 3) rfl)) (by decide) (rmLo l Z a0 hw p1 p3 h0 n0 Z0) (by rw [hml]; rfl) pd_0 rfl rfl (hb hby at_97) rfl (by decide) (Nat.le_of_ble_eq_true rfl) (ce' := 0) (sl' := 0) rfl rfl (by decide) (by decide) (fun v47 h48 hQ49 => ?_)
    obtain ⟨rfl, rfl⟩ := hQ49
    show Go _ _ _ _ _ _ _ _ _ _ _ _ _ _ _ 0 0 100 #[.val (.int p1), .val (.int p2), .val (.int p3), .val (.int p4), .val (.int p5), .val (.int p6), .val (.int k6), .val (.int k7), .val (.int a2), .val (.int b2), .val (.int c2), .val (.int d2), .unset, .unset, .unset, .unset, .unset, .unset, .unset, .unset, .unset, .unset, .unset, .unset, .unset, .unset, .unset, .unset] [(.int (imin p1 p3))]
    refine Go.istore (q := 102) (l' := #[.val (.int p1), .val (.int p2), .val (.int p3), .val (.int p4), .val (.int p5), .val (.int p6), .val (.int k6), .val (.int k7), .val (.int a2), .val (.int b2), .val (.int c2), .val (.int d2), .val (.int (imin p1 p3)), .unset, .unset, .unset, .unset, .unset, .unset, .unset, .unset, .unset, .unset, .unset, .unset, .unset, .unset, .unset]) hx (hb hby at_100) rfl rfl ?_
    refine Go.iloadN (q := 103) hx (hb hby at_102) rfl rfl ?_
    refine Go.iloadN (q := 104) hx (hb hby at_103) rfl rfl ?_
    refine Go.callS (q := 107) hx hZ (argsL := [(.int p1), (.int p3)]) (rest := []) hown (hw _ (List.mem_of_getElem? (i := 8) rfl)) (hw _ (List.mem_of_getElem? (i := 9) rfl)) (hw _ (List.mem_of_getElem? (i := 2) rfl)) (hw _ (List.mem_of_getElem? (i := 10) rfl)) (by decide) (rmHi l Z a0 hw p1 p3 h0 n0 Z0) (by rw [hml]; rfl) pd_0 rfl rfl (hb hby at_104) rfl (by decide) (Nat.le_of_ble_eq_true rfl) (ce' := 0) (sl' := 0) rfl rfl (by decide) (by decide) (fun v50 h51 hQ52 => ?_)
    obtain ⟨rfl, rfl⟩ := hQ52
    show Go _ _ _ _ _ _ _ _ _ _ _ _ _ _ _ 0 0 107 #[.val (.int p1), .val (.int p2), .val (.int p3), .val (.int p4), .val (.int p5), .val (.int p6), .val (.int k6), .val (.int k7), .val (.int a2), .val (.int b2), .val (.int c2), .val (.int d2), .val (.int (imin p1 p3)), .unset, .unset, .unset, .unset, .unset, .unset, .unset, .unset, .unset, .unset, .unset, .unset, .unset, .unset, .unset] [(.int (hi p1 p3))]
    refine Go.istore (q := 109) (l' := #[.val (.int p1), .val (.int p2), .val (.int p3), .val (.int p4), .val (.int p5), .val (.int p6), .val (.int k6), .val (.int k7), .val (.int a2), .val (.int b2), .val (.int c2), .val (.int d2), .val (.int (imin p1 p3)), .val (.int (hi p1 p3)), .unset, .unset, .unset, .unset, .unset, .unset, .unset, .unset, .unset, .unset, .unset, .unset, .unset, .unset]) hx (hb hby at_107) rfl rfl ?_
    refine Go.iloadN (q := 110) hx (hb hby at_109) rfl rfl ?_
    refine Go.iloadN (q := 111) hx (hb hby at_110) rfl rfl ?_
    refine Go.callS (q := 114) hx hZ (argsL := [(.int p2), (.int p4)]) (rest := []) hown (hw _ (List.mem_of_getElem? (i := 0) rfl)) (hw _ (List.mem_of_getElem? (i := 1) rfl)) (hw _ (List.mem_of_getElem? (i := 2) rfl)) (hw _ (List.mem_of_getElem? (i := 3) rfl)) (by decide) (rmLo l Z a0 hw p2 p4 h0 n0 Z0) (by rw [hml]; rfl) pd_0 rfl rfl (hb hby at_111) rfl (by decide) (Nat.le_of_ble_eq_true rfl) (ce' := 0) (sl' := 0) rfl rfl (by decide) (by decide) (fun v53 h54 hQ55 => ?_)
    obtain ⟨rfl, rfl⟩ := hQ55
    show Go _ _ _ _ _ _ _ _ _ _ _ _ _ _ _ 0 0 114 #[.val (.int p1), .val (.int p2), .val (.int p3), .val (.int p4), .val (.int p5), .val (.int p6), .val (.int k6), .val (.int k7), .val (.int a2), .val (.int b2), .val (.int c2), .val (.int d2), .val (.int (imin p1 p3)), .val (.int (hi p1 p3)), .unset, .unset, .unset, .unset, .unset, .unset, .unset, .unset, .unset, .unset, .unset, .unset, .unset, .unset] [(.int (imin p2 p4))]
    refine Go.istore (q := 116) (l' := #[.val (.int p1), .val (.int p2), .val (.int p3), .val (.int p4), .val (.int p5), .val (.int p6), .val (.int k6), .val (.int k7), .val (.int a2), .val (.int b2), .val (.int c2), .val (.int d2), .val (.int (imin p1 p3)), .val (.int (hi p1 p3)), .val (.int (imin p2 p4)), .unset, .unset, .unset, .unset, .unset, .unset, .unset, .unset, .unset, .unset, .unset, .unset, .unset]) hx (hb hby at_114) rfl rfl ?_
    refine Go.iloadN (q := 117) hx (hb hby at_116) rfl rfl ?_
    refine Go.iloadN (q := 118) hx (hb hby at_117) rfl rfl ?_
    refine Go.callS (q := 121) hx hZ (argsL := [(.int p2), (.int p4)]) (rest := []) hown (hw _ (List.mem_of_getElem? (i := 8) rfl)) (hw _ (List.mem_of_getElem? (i := 9) rfl)) (hw _ (List.mem_of_getElem? (i := 2) rfl)) (hw _ (List.mem_of_getElem? (i := 10) rfl)) (by decide) (rmHi l Z a0 hw p2 p4 h0 n0 Z0) (by rw [hml]; rfl) pd_0 rfl rfl (hb hby at_118) rfl (by decide) (Nat.le_of_ble_eq_true rfl) (ce' := 0) (sl' := 0) rfl rfl (by decide) (by decide) (fun v56 h57 hQ58 => ?_)
    obtain ⟨rfl, rfl⟩ := hQ58
    show Go _ _ _ _ _ _ _ _ _ _ _ _ _ _ _ 0 0 121 #[.val (.int p1), .val (.int p2), .val (.int p3), .val (.int p4), .val (.int p5), .val (.int p6), .val (.int k6), .val (.int k7), .val (.int a2), .val (.int b2), .val (.int c2), .val (.int d2), .val (.int (imin p1 p3)), .val (.int (hi p1 p3)), .val (.int (imin p2 p4)), .unset, .unset, .unset, .unset, .unset, .unset, .unset, .unset, .unset, .unset, .unset, .unset, .unset] [(.int (hi p2 p4))]
    refine Go.istore (q := 123) (l' := #[.val (.int p1), .val (.int p2), .val (.int p3), .val (.int p4), .val (.int p5), .val (.int p6), .val (.int k6), .val (.int k7), .val (.int a2), .val (.int b2), .val (.int c2), .val (.int d2), .val (.int (imin p1 p3)), .val (.int (hi p1 p3)), .val (.int (imin p2 p4)), .val (.int (hi p2 p4)), .unset, .unset, .unset, .unset, .unset, .unset, .unset, .unset, .unset, .unset, .unset, .unset]) hx (hb hby at_121) rfl rfl ?_
    refine Go.iload (q := 125) hx (hb hby at_123) rfl rfl ?_
    refine Go.iload (q := 127) hx (hb hby at_125) rfl rfl ?_
    refine Go.callS (q := 130) hx hZ (argsL := [(.int a2), (.int c2)]) (rest := []) hown (hw _ (List.mem_of_getElem? (i := 0) rfl)) (hw _ (List.mem_of_getElem? (i := 1) rfl)) (hw _ (List.mem_of_getElem? (i := 2) rfl)) (hw _ (List.mem_of_getElem? (i := 3) rfl)) (by decide) (rmLo l Z a0 hw a2 c2 h0 n0 Z0) (by rw [hml]; rfl) pd_0 rfl rfl (hb hby at_127) rfl (by decide) (Nat.le_of_ble_eq_true rfl) (ce' := 0) (sl' := 0) rfl rfl (by decide) (by decide) (fun v59 h60 hQ61 => ?_)
    obtain ⟨rfl, rfl⟩ := hQ61
    show Go _ _ _ _ _ _ _ _ _ _ _ _ _ _ _ 0 0 130 #[.val (.int p1), .val (.int p2), .val (.int p3), .val (.int p4), .val (.int p5), .val (.int p6), .val (.int k6), .val (.int k7), .val (.int a2), .val (.int b2), .val (.int c2), .val (.int d2), .val (.int (imin p1 p3)), .val (.int (hi p1 p3)), .val (.int (imin p2 p4)), .val (.int (hi p2 p4)), .unset, .unset, .unset, .unset, .unset, .unset, .unset, .unset, .unset, .unset, .unset, .unset] [(.int (imin a2 c2))]
    refine Go.istore (q := 132) (l' := #[.val (.int p1), .val (.int p2), .val (.int p3), .val (.int p4), .val (.int p5), .val (.int p6), .val (.int k6), .val (.int k7), .val (.int a2), .val (.int b2), .val (.int c2), .val (.int d2), .val (.int (imin p1 p3)), .val (.int (hi p1 p3)), .val (.int (imin p2 p4)), .val (.int (hi p2 p4)), .val (.int (imin a2 c2)), .unset, .unset, .unset, .unset, .unset, .unset, .unset, .unset, .unset, .unset, .unset]) hx (hb hby at_130) rfl rfl ?_
    refine Go.iload (q := 134) hx (hb hby at_132) rfl rfl ?_
    refine Go.iload (q := 136) hx (hb hby at_134) rfl rfl ?_
    refine Go.callS (q := 139) hx hZ (argsL := [(.int a2), (.int c2)]) (rest := []) hown (hw _ (List.mem_of_getElem? (i := 8) rfl)) (hw _ (List.mem_of_getElem? (i := 9) rfl)) (hw _ (List.mem_of_getElem? (i := 2) rfl)) (hw _ (List.mem_of_getElem? (i := 10) rfl)) (by decide) (rmHi l Z a0 hw a2 c2 h0 n0 Z0) (by rw [hml]; rfl) pd_0 rfl rfl (hb hby at_136) rfl (by decide) (Nat.le_of_ble_eq_true rfl) (ce' := 0) (sl' := 0) rfl rfl (by decide) (by decide) (fun v62 h63 hQ64 => ?_)
    obtain ⟨rfl, rfl⟩ := hQ64
    show Go _ _ _ _ _ _ _ _ _ _ _ _ _ _ _ 0 0 139 #[.val (.int p1), .val (.int p2), .val (.int p3), .val (.int p4), .val (.int p5), .val (.int p6), .val (.int k6), .val (.int k7), .val (.int a2), .val (.int b2), .val (.int c2), .val (.int d2), .val (.int (imin p1 p3)), .val (.int (hi p1 p3)), .val (.int (imin p2 p4)), .val (.int (hi p2 p4)), .val (.int (imin a2 c2)), .unset, .unset, .unset, .unset, .unset, .unset, .unset, .unset, .unset, .unset, .unset] [(.int (hi a2 c2))]
    refine Go.istore (q := 141) (l' := #[.val (.int p1), .val (.int p2), .val (.int p3), .val (.int p4), .val (.int p5), .val (.int p6), .val (.int k6), .val (.int k7), .val (.int a2), .val (.int b2), .val (.int c2), .val (.int d2), .val (.int (imin p1 p3)), .val (.int (hi p1 p3)), .val (.int (imin p2 p4)), .val (.int (hi p2 p4)), .val (.int (imin a2 c2)), .val (.int (hi a2 c2)), .unset, .unset, .unset, .unset, .unset, .unset, .unset, .unset, .unset, .unset]) hx (hb hby at_139) rfl rfl ?_
    refine Go.iload (q := 143) hx (hb hby at_141) rfl rfl ?_
    refine Go.iload (q := 145) hx (hb hby at_143) rfl rfl ?_
    refine Go.callS (q := 148) hx hZ (argsL := [(.int b2), (.int d2)]) (rest := []) hown (hw _ (List.mem_of_getElem? (i := 0) rfl)) (hw _ (List.mem_of_getElem? (i := 1) rfl)) (hw _ (List.mem_of_getElem? (i := 2) rfl)) (hw _ (List.mem_of_getElem? (i := 3) rfl)) (by decide) (rmLo l Z a0 hw b2 d2 h0 n0 Z0) (by rw [hml]; rfl) pd_0 rfl rfl (hb hby at_145) rfl (by decide) (Nat.le_of_ble_eq_true rfl) (ce' := 0) (sl' := 0) rfl rfl (by decide) (by decide) (fun v65 h66 hQ67 => ?_)
    obtain ⟨rfl, rfl⟩ := hQ67
    show Go _ _ _ _ _ _ _ _ _ _ _ _ _ _ _ 0 0 148 #[.val (.int p1), .val (.int p2), .val (.int p3), .val (.int p4), .val (.int p5), .val (.int p6), .val (.int k6), .val (.int k7), .val (.int a2), .val (.int b2), .val (.int c2), .val (.int d2), .val (.int (imin p1 p3)), .val (.int (hi p1 p3)), .val (.int (imin p2 p4)), .val (.int (hi p2 p4)), .val (.int (imin a2 c2)), .val (.int (hi a2 c2)), .unset, .unset, .unset, .unset, .unset, .unset, .unset, .unset, .unset, .unset] [(.int (imin b2 d2))]
    refine Go.istore (q := 150) (l' := #[.val (.int p1), .val (.int p2), .val (.int p3), .val (.int p4), .val (.int p5), .val (.int p6), .val (.int k6), .val (.int k7), .val (.int a2), .val (.int b2), .val (.int c2), .val (.int d2), .val (.int (imin p1 p3)), .val (.int (hi p1 p3)), .val (.int (imin p2 p4)), .val (.int (hi p2 p4)), .val (.int (imin a2 c2)), .val (.int (hi a2 c2)), .val (.int (imin b2 d2)), .unset, .unset, .unset, .unset, .unset, .unset, .unset, .unset, .unset]) hx (hb hby at_148) rfl rfl ?_
    refine Go.iload (q := 152) hx (hb hby at_150) rfl rfl ?_
    refine Go.iload (q := 154) hx (hb hby at_152) rfl rfl ?_
    refine Go.callS (q := 157) hx hZ (argsL := [(.int b2), (.int d2)]) (rest := []) hown (hw _ (List.mem_of_getElem? (i := 8) rfl)) (hw _ (List.mem_of_getElem? (i := 9) rfl)) (hw _ (List.mem_of_getElem? (i := 2) rfl)) (hw _ (List.mem_of_getElem? (i := 10) rfl)) (by decide) (rmHi l Z a0 hw b2 d2 h0 n0 Z0) (by rw [hml]; rfl) pd_0 rfl rfl (hb hby at_154) rfl (by decide) (Nat.le_of_ble_eq_true rfl) (ce' := 0) (sl' := 0) rfl rfl (by decide) (by decide) (fun v68 h69 hQ70 => ?_)
    obtain ⟨rfl, rfl⟩ := hQ70
    show Go _ _ _ _ _ _ _ _ _ _ _ _ _ _ _ 0 0 157 #[.val (.int p1), .val (.int p2), .val (.int p3), .val (.int p4), .val (.int p5), .val (.int p6), .val (.int k6), .val (.int k7), .val (.int a2), .val (.int b2), .val (.int c2), .val (.int d2), .val (.int (imin p1 p3)), .val (.int (hi p1 p3)), .val (.int (imin p2 p4)), .val (.int (hi p2 p4)), .val (.int (imin a2 c2)), .val (.int (hi a2 c2)), .val (.int (imin b2 d2)), .unset, .unset, .unset, .unset, .unset, .unset, .unset, .unset, .unset] [(.int (hi b2 d2))]
    refine Go.istore (q := 159) (l' := #[.val (.int p1), .val (.int p2), .val (.int p3), .val (.int p4), .val (.int p5), .val (.int p6), .val (.int k6), .val (.int k7), .val (.int a2), .val (.int b2), .val (.int c2), .val (.int d2), .val (.int (imin p1 p3)), .val (.int (hi p1 p3)), .val (.int (imin p2 p4)), .val (.int (hi p2 p4)), .val (.int (imin a2 c2)), .val (.int (hi a2 c2)), .val (.int (imin b2 d2)), .val (.int (hi b2 d2)), .unset, .unset, .unset, .unset, .unset, .unset, .unset, .unset]) hx (hb hby at_157) rfl rfl ?_
    refine Go.newO (q := 162) hx hZ hown (hw _ (List.mem_of_getElem? (i := 15) rfl)) (hw _ (List.mem_of_getElem? (i := 16) rfl)) (hw _ (List.mem_of_getElem? (i := 17) rfl)) (hb hby at_159) rfl (ce' := 1) (sl' := 4) rfl rfl (by decide) (by decide) (fun h71 a72 g73 E74 A75 D76 => ?_)
    have gz77 : n0 ≤ a72 := by rw [g73]; exact Z0
    refine Go.dup (q := 163) hx (hb hby at_162) rfl rfl ?_
    refine Go.iload (q := 165) hx (hb hby at_163) rfl rfl ?_
    refine Go.iload (q := 167) hx (hb hby at_165) rfl rfl ?_
    refine Go.iload (q := 169) hx (hb hby at_167) rfl rfl ?_
    refine Go.iload (q := 171) hx (hb hby at_169) rfl rfl ?_
    refine Go.callI (q := 174) hx hZ (a := a72) (argsL := [(.int (imin p1 p3)), (.int (imin p2 p4)), (.int (hi p1 p3)), (.int (hi p2 p4))]) (rest := [(.ref a72)]) hown rfl (hw _ (List.mem_of_getElem? (i := 18) rfl)) (hw _ (List.mem_of_getElem? (i := 19) rfl)) (hw _ (List.mem_of_getElem? (i := 17) rfl)) (hw _ (List.mem_of_getElem? (i := 20) rfl)) (by decide) (rmInit l Z a0 hw a72 (imin p1 p3) (imin p2 p4) (hi p1 p3) (hi p2 p4) h71 n0 (Nat.le_trans Z0 E74.1) (okr _ _ _ _) gz77 A75 (D76 (Or.inr (hw _ (List.mem_of_getElem? (i := 26) rfl))) (ty := .int) (by decide)) (D76 (Or.inr (hw _ (List.mem_of_getElem? (i := 28) rfl))) (ty := .int) (by decide)) (D76 (Or.inr (hw _ (List.mem_of_getElem? (i := 30) rfl))) (ty := .int) (by decide)) (D76 (Or.inr (hw _ (List.mem_of_getElem? (i := 32) rfl))) (ty := .int) (by decide))) (by rw [hml]; rfl) pd_3 rfl rfl (hb hby at_171) rfl (by decide) (Nat.le_of_ble_eq_true rfl) (ce' := 1) (sl' := 4) rfl rfl (by decide) (by decide) (fun v78 h79 hQ80 => ?_)
    obtain ⟨rfl, K81, F82, F83, F84, F85⟩ := hQ80
    show Go _ _ _ _ _ _ _ _ _ _ _ _ _ _ _ 1 4 174 #[.val (.int p1), .val (.int p2), .val (.int p3), .val (.int p4), .val (.int p5), .val (.int p6), .val (.int k6), .val (.int k7), .val (.int a2), .val (.int b2), .val (.int c2), .val (.int d2), .val (.int (imin p1 p3)), .val (.int (hi p1 p3)), .val (.int (imin p2 p4)), .val (.int (hi p2 p4)), .val (.int (imin a2 c2)), .val (.int (hi a2 c2)), .val (.int (imin b2 d2)), .val (.int (hi b2 d2)), .unset, .unset, .unset, .unset, .unset, .unset, .unset, .unset] [(.ref a72)]
    refine Go.astore (q := 176) (l' := #[.val (.int p1), .val (.int p2), .val (.int p3), .val (.int p4), .val (.int p5), .val (.int p6), .val (.int k6), .val (.int k7), .val (.int a2), .val (.int b2), .val (.int c2), .val (.int d2), .val (.int (imin p1 p3)), .val (.int (hi p1 p3)), .val (.int (imin p2 p4)), .val (.int (hi p2 p4)), .val (.int (imin a2 c2)), .val (.int (hi a2 c2)), .val (.int (imin b2 d2)), .val (.int (hi b2 d2)), .val (.ref a72), .unset, .unset, .unset, .unset, .unset, .unset, .unset]) hx (hb hby at_174) (by rfl) rfl rfl ?_
    refine Go.newO (q := 179) hx hZ hown (hw _ (List.mem_of_getElem? (i := 15) rfl)) (hw _ (List.mem_of_getElem? (i := 16) rfl)) (hw _ (List.mem_of_getElem? (i := 17) rfl)) (hb hby at_176) rfl (ce' := 2) (sl' := 8) rfl rfl (by decide) (by decide) (fun h86 a87 g88 E89 A90 D91 => ?_)
    have ne92 : a72 ≠ a87 := by rw [g88]; exact Nat.ne_of_lt ((A75.keep K81)).lt
    have gz93 : n0 ≤ a87 := by rw [g88]; exact (Nat.le_trans (Nat.le_trans Z0 E74.1) K81.1)
    refine Go.dup (q := 180) hx (hb hby at_179) rfl rfl ?_
    refine Go.iload (q := 182) hx (hb hby at_180) rfl rfl ?_
    refine Go.iload (q := 184) hx (hb hby at_182) rfl rfl ?_
    refine Go.iload (q := 186) hx (hb hby at_184) rfl rfl ?_
    refine Go.iload (q := 188) hx (hb hby at_186) rfl rfl ?_
    refine Go.callI (q := 191) hx hZ (a := a87) (argsL := [(.int (imin a2 c2)), (.int (imin b2 d2)), (.int (hi a2 c2)), (.int (hi b2 d2))]) (rest := [(.ref a87)]) hown rfl (hw _ (List.mem_of_getElem? (i := 18) rfl)) (hw _ (List.mem_of_getElem? (i := 19) rfl)) (hw _ (List.mem_of_getElem? (i := 17) rfl)) (hw _ (List.mem_of_getElem? (i := 20) rfl)) (by decide) (rmInit l Z a0 hw a87 (imin a2 c2) (imin b2 d2) (hi a2 c2) (hi b2 d2) h86 n0 (Nat.le_trans (Nat.le_trans (Nat.le_trans Z0 E74.1) K81.1) E89.1) (okr _ _ _ _) gz93 A90 (D91 (Or.inr (hw _ (List.mem_of_getElem? (i := 26) rfl))) (ty := .int) (by decide)) (D91 (Or.inr (hw _ (List.mem_of_getElem? (i := 28) rfl))) (ty := .int) (by decide)) (D91 (Or.inr (hw _ (List.mem_of_getElem? (i := 30) rfl))) (ty := .int) (by decide)) (D91 (Or.inr (hw _ (List.mem_of_getElem? (i := 32) rfl))) (ty := .int) (by decide))) (by rw [hml]; rfl) pd_3 rfl rfl (hb hby at_188) rfl (by decide) (Nat.le_of_ble_eq_true rfl) (ce' := 2) (sl' := 8) rfl rfl (by decide) (by decide) (fun v94 h95 hQ96 => ?_)
    obtain ⟨rfl, K97, F98, F99, F100, F101⟩ := hQ96
    show Go _ _ _ _ _ _ _ _ _ _ _ _ _ _ _ 2 8 191 #[.val (.int p1), .val (.int p2), .val (.int p3), .val (.int p4), .val (.int p5), .val (.int p6), .val (.int k6), .val (.int k7), .val (.int a2), .val (.int b2), .val (.int c2), .val (.int d2), .val (.int (imin p1 p3)), .val (.int (hi p1 p3)), .val (.int (imin p2 p4)), .val (.int (hi p2 p4)), .val (.int (imin a2 c2)), .val (.int (hi a2 c2)), .val (.int (imin b2 d2)), .val (.int (hi b2 d2)), .val (.ref a72), .unset, .unset, .unset, .unset, .unset, .unset, .unset] [(.ref a87)]
    refine Go.astore (q := 193) (l' := #[.val (.int p1), .val (.int p2), .val (.int p3), .val (.int p4), .val (.int p5), .val (.int p6), .val (.int k6), .val (.int k7), .val (.int a2), .val (.int b2), .val (.int c2), .val (.int d2), .val (.int (imin p1 p3)), .val (.int (hi p1 p3)), .val (.int (imin p2 p4)), .val (.int (hi p2 p4)), .val (.int (imin a2 c2)), .val (.int (hi a2 c2)), .val (.int (imin b2 d2)), .val (.int (hi b2 d2)), .val (.ref a72), .val (.ref a87), .unset, .unset, .unset, .unset, .unset, .unset]) hx (hb hby at_191) (by rfl) rfl rfl ?_
    have J226 : ∀ (eqq : Int32) (hqq : eqq = eqv (imin p1 p3) (imin p2 p4) (hi p1 p3) (hi p2 p4) (imin a2 c2) (imin b2 d2) (hi a2 c2) (hi b2 d2)), Go p l e room_1 s m #[(.int p1), (.int p2), (.int p3), (.int p4), (.int p5), (.int p6)] below meth c n0 room_1.cells room_1.slots (fun v h => v = some (.int 1)) h95 2 8 226 #[.val (.int p1), .val (.int p2), .val (.int p3), .val (.int p4), .val (.int p5), .val (.int p6), .val (.int k6), .val (.int k7), .val (.int a2), .val (.int b2), .val (.int c2), .val (.int d2), .val (.int (imin p1 p3)), .val (.int (hi p1 p3)), .val (.int (imin p2 p4)), .val (.int (hi p2 p4)), .val (.int (imin a2 c2)), .val (.int (hi a2 c2)), .val (.int (imin b2 d2)), .val (.int (hi b2 d2)), .val (.ref a72), .val (.ref a87), .unset, .unset, .unset, .unset, .unset, .unset] [(.int eqq)] := by
      intro eqq hqq
      refine Go.istore (q := 228) (l' := #[.val (.int p1), .val (.int p2), .val (.int p3), .val (.int p4), .val (.int p5), .val (.int p6), .val (.int k6), .val (.int k7), .val (.int a2), .val (.int b2), .val (.int c2), .val (.int d2), .val (.int (imin p1 p3)), .val (.int (hi p1 p3)), .val (.int (imin p2 p4)), .val (.int (hi p2 p4)), .val (.int (imin a2 c2)), .val (.int (hi a2 c2)), .val (.int (imin b2 d2)), .val (.int (hi b2 d2)), .val (.ref a72), .val (.ref a87), .val (.int eqq), .unset, .unset, .unset, .unset, .unset]) hx (hb hby at_226) rfl rfl ?_
      refine Go.aload (q := 230) hx (hb hby at_228) rfl (by rfl) rfl ?_
      refine Go.aload (q := 232) hx (hb hby at_230) rfl (by rfl) rfl ?_
      refine Go.callV (q := 235) hx hZ (a := a72) (argsL := [(.ref a87)]) (rest := []) hown (hw _ (List.mem_of_getElem? (i := 33) rfl)) (hw _ (List.mem_of_getElem? (i := 34) rfl)) (notFace_of_selects (args := #[]) (mvT hZ (hw _ (List.mem_of_getElem? (i := 36) rfl)))) (hw _ (List.mem_of_getElem? (i := 36) rfl)) (hw _ (List.mem_of_getElem? (i := 35) rfl)) (hw _ (List.mem_of_getElem? (i := 17) rfl)) (hw _ (List.mem_of_getElem? (i := 37) rfl)) (by decide) ((Exa.ext E89 (A75.keep K81)).keep K97) (rmEq l Z a0 hw a72 a87 (imin p1 p3) (imin p2 p4) (hi p1 p3) (hi p2 p4) (imin a2 c2) (imin b2 d2) (hi a2 c2) (hi b2 d2) h95 n0 (Nat.le_trans (Nat.le_trans (Nat.le_trans (Nat.le_trans Z0 E74.1) K81.1) E89.1) K97.1) (A90.keep K97) ((Fld.ext E89 F82).keep K97 (ninS ne92 nin0)) F98 ((Fld.ext E89 F83).keep K97 (ninS ne92 nin0)) F99 ((Fld.ext E89 F84).keep K97 (ninS ne92 nin0)) F100 ((Fld.ext E89 F85).keep K97 (ninS ne92 nin0)) F101) (by rw [hml]; rfl) pd_4 rfl rfl (hb hby at_232) rfl (by decide) (Nat.le_of_ble_eq_true rfl) (ce' := 2) (sl' := 8) rfl rfl (by decide) (by decide) (fun v102 h103 hQ104 => ?_)
      obtain ⟨rfl, rfl⟩ := hQ104
      show Go _ _ _ _ _ _ _ _ _ _ _ _ _ _ _ 2 8 235 #[.val (.int p1), .val (.int p2), .val (.int p3), .val (.int p4), .val (.int p5), .val (.int p6), .val (.int k6), .val (.int k7), .val (.int a2), .val (.int b2), .val (.int c2), .val (.int d2), .val (.int (imin p1 p3)), .val (.int (hi p1 p3)), .val (.int (imin p2 p4)), .val (.int (hi p2 p4)), .val (.int (imin a2 c2)), .val (.int (hi a2 c2)), .val (.int (imin b2 d2)), .val (.int (hi b2 d2)), .val (.ref a72), .val (.ref a87), .val (.int eqq), .unset, .unset, .unset, .unset, .unset] [(.int (eqv (imin p1 p3) (imin p2 p4) (hi p1 p3) (hi p2 p4) (imin a2 c2) (imin b2 d2) (hi a2 c2) (hi b2 d2)))]
      refine Go.iload (q := 237) hx (hb hby at_235) rfl rfl ?_
      refine Go.icmp_ne (q := 240) (t := 244) hx (hb hby at_237) (by decide) rfl rfl (fun hc237 => absurd hqq.symm hc237) (fun hc237 => ?_)
      refine Go.iconst (q := 241) (z := (1 : Int32)) hx (hb hby at_240) rfl rfl ?_
      refine Go.goto (q := 245) hx (hb hby at_241) (by decide) rfl ?_
      refine Go.istore (q := 247) (l' := #[.val (.int p1), .val (.int p2), .val (.int p3), .val (.int p4), .val (.int p5), .val (.int p6), .val (.int k6), .val (.int k7), .val (.int a2), .val (.int b2), .val (.int c2), .val (.int d2), .val (.int (imin p1 p3)), .val (.int (hi p1 p3)), .val (.int (imin p2 p4)), .val (.int (hi p2 p4)), .val (.int (imin a2 c2)), .val (.int (hi a2 c2)), .val (.int (imin b2 d2)), .val (.int (hi b2 d2)), .val (.ref a72), .val (.ref a87), .val (.int eqq), .val (.int (1 : Int32)), .unset, .unset, .unset, .unset]) hx (hb hby at_245) rfl rfl ?_
      refine Go.aload (q := 249) hx (hb hby at_247) rfl (by rfl) rfl ?_
      refine Go.aload (q := 251) hx (hb hby at_249) rfl (by rfl) rfl ?_
      refine Go.callV (q := 254) hx hZ (a := a87) (argsL := [(.ref a72)]) (rest := []) hown (hw _ (List.mem_of_getElem? (i := 33) rfl)) (hw _ (List.mem_of_getElem? (i := 34) rfl)) (notFace_of_selects (args := #[]) (mvT hZ (hw _ (List.mem_of_getElem? (i := 36) rfl)))) (hw _ (List.mem_of_getElem? (i := 36) rfl)) (hw _ (List.mem_of_getElem? (i := 35) rfl)) (hw _ (List.mem_of_getElem? (i := 17) rfl)) (hw _ (List.mem_of_getElem? (i := 37) rfl)) (by decide) (A90.keep K97) (rmEq l Z a0 hw a87 a72 (imin a2 c2) (imin b2 d2) (hi a2 c2) (hi b2 d2) (imin p1 p3) (imin p2 p4) (hi p1 p3) (hi p2 p4) h95 n0 (Nat.le_trans (Nat.le_trans (Nat.le_trans (Nat.le_trans Z0 E74.1) K81.1) E89.1) K97.1) ((Exa.ext E89 (A75.keep K81)).keep K97) F98 ((Fld.ext E89 F82).keep K97 (ninS ne92 nin0)) F99 ((Fld.ext E89 F83).keep K97 (ninS ne92 nin0)) F100 ((Fld.ext E89 F84).keep K97 (ninS ne92 nin0)) F101 ((Fld.ext E89 F85).keep K97 (ninS ne92 nin0))) (by rw [hml]; rfl) pd_4 rfl rfl (hb hby at_251) rfl (by decide) (Nat.le_of_ble_eq_true rfl) (ce' := 2) (sl' := 8) rfl rfl (by decide) (by decide) (fun v105 h106 hQ107 => ?_)
      obtain ⟨rfl, rfl⟩ := hQ107
      show Go _ _ _ _ _ _ _ _ _ _ _ _ _ _ _ 2 8 254 #[.val (.int p1), .val (.int p2), .val (.int p3), .val (.int p4), .val (.int p5), .val (.int p6), .val (.int k6), .val (.int k7), .val (.int a2), .val (.int b2), .val (.int c2), .val (.int d2), .val (.int (imin p1 p3)), .val (.int (hi p1 p3)), .val (.int (imin p2 p4)), .val (.int (hi p2 p4)), .val (.int (imin a2 c2)), .val (.int (hi a2 c2)), .val (.int (imin b2 d2)), .val (.int (hi b2 d2)), .val (.ref a72), .val (.ref a87), .val (.int eqq), .val (.int (1 : Int32)), .unset, .unset, .unset, .unset] [(.int (eqv (imin a2 c2) (imin b2 d2) (hi a2 c2) (hi b2 d2) (imin p1 p3) (imin p2 p4) (hi p1 p3) (hi p2 p4)))]
      refine Go.iload (q := 256) hx (hb hby at_254) rfl rfl ?_
      refine Go.icmp_ne (q := 259) (t := 263) hx (hb hby at_256) (by decide) rfl rfl (fun hc256 => absurd ((eqv_comm _ _ _ _ _ _ _ _).trans hqq.symm) hc256) (fun hc256 => ?_)
      refine Go.iconst (q := 260) (z := (1 : Int32)) hx (hb hby at_259) rfl rfl ?_
      refine Go.goto (q := 264) hx (hb hby at_260) (by decide) rfl ?_
      refine Go.istore (q := 266) (l' := #[.val (.int p1), .val (.int p2), .val (.int p3), .val (.int p4), .val (.int p5), .val (.int p6), .val (.int k6), .val (.int k7), .val (.int a2), .val (.int b2), .val (.int c2), .val (.int d2), .val (.int (imin p1 p3)), .val (.int (hi p1 p3)), .val (.int (imin p2 p4)), .val (.int (hi p2 p4)), .val (.int (imin a2 c2)), .val (.int (hi a2 c2)), .val (.int (imin b2 d2)), .val (.int (hi b2 d2)), .val (.ref a72), .val (.ref a87), .val (.int eqq), .val (.int (1 : Int32)), .val (.int (1 : Int32)), .unset, .unset, .unset]) hx (hb hby at_264) rfl rfl ?_
      refine Go.aload (q := 268) hx (hb hby at_266) rfl (by rfl) rfl ?_
      refine Go.aload (q := 270) hx (hb hby at_268) rfl (by rfl) rfl ?_
      refine Go.callV (q := 273) hx hZ (a := a72) (argsL := [(.ref a72)]) (rest := []) hown (hw _ (List.mem_of_getElem? (i := 33) rfl)) (hw _ (List.mem_of_getElem? (i := 34) rfl)) (notFace_of_selects (args := #[]) (mvT hZ (hw _ (List.mem_of_getElem? (i := 36) rfl)))) (hw _ (List.mem_of_getElem? (i := 36) rfl)) (hw _ (List.mem_of_getElem? (i := 35) rfl)) (hw _ (List.mem_of_getElem? (i := 17) rfl)) (hw _ (List.mem_of_getElem? (i := 37) rfl)) (by decide) ((Exa.ext E89 (A75.keep K81)).keep K97) (rmEq l Z a0 hw a72 a72 (imin p1 p3) (imin p2 p4) (hi p1 p3) (hi p2 p4) (imin p1 p3) (imin p2 p4) (hi p1 p3) (hi p2 p4) h95 n0 (Nat.le_trans (Nat.le_trans (Nat.le_trans (Nat.le_trans Z0 E74.1) K81.1) E89.1) K97.1) ((Exa.ext E89 (A75.keep K81)).keep K97) ((Fld.ext E89 F82).keep K97 (ninS ne92 nin0)) ((Fld.ext E89 F82).keep K97 (ninS ne92 nin0)) ((Fld.ext E89 F83).keep K97 (ninS ne92 nin0)) ((Fld.ext E89 F83).keep K97 (ninS ne92 nin0)) ((Fld.ext E89 F84).keep K97 (ninS ne92 nin0)) ((Fld.ext E89 F84).keep K97 (ninS ne92 nin0)) ((Fld.ext E89 F85).keep K97 (ninS ne92 nin0)) ((Fld.ext E89 F85).keep K97 (ninS ne92 nin0))) (by rw [hml]; rfl) pd_4 rfl rfl (hb hby at_270) rfl (by decide) (Nat.le_of_ble_eq_true rfl) (ce' := 2) (sl' := 8) rfl rfl (by decide) (by decide) (fun v108 h109 hQ110 => ?_)
      obtain ⟨rfl, rfl⟩ := hQ110
      rw [eqv_self]
      show Go _ _ _ _ _ _ _ _ _ _ _ _ _ _ _ 2 8 273 #[.val (.int p1), .val (.int p2), .val (.int p3), .val (.int p4), .val (.int p5), .val (.int p6), .val (.int k6), .val (.int k7), .val (.int a2), .val (.int b2), .val (.int c2), .val (.int d2), .val (.int (imin p1 p3)), .val (.int (hi p1 p3)), .val (.int (imin p2 p4)), .val (.int (hi p2 p4)), .val (.int (imin a2 c2)), .val (.int (hi a2 c2)), .val (.int (imin b2 d2)), .val (.int (hi b2 d2)), .val (.ref a72), .val (.ref a87), .val (.int eqq), .val (.int (1 : Int32)), .val (.int (1 : Int32)), .unset, .unset, .unset] [(.int (1 : Int32))]
      refine Go.istore (q := 275) (l' := #[.val (.int p1), .val (.int p2), .val (.int p3), .val (.int p4), .val (.int p5), .val (.int p6), .val (.int k6), .val (.int k7), .val (.int a2), .val (.int b2), .val (.int c2), .val (.int d2), .val (.int (imin p1 p3)), .val (.int (hi p1 p3)), .val (.int (imin p2 p4)), .val (.int (hi p2 p4)), .val (.int (imin a2 c2)), .val (.int (hi a2 c2)), .val (.int (imin b2 d2)), .val (.int (hi b2 d2)), .val (.ref a72), .val (.ref a87), .val (.int eqq), .val (.int (1 : Int32)), .val (.int (1 : Int32)), .val (.int (1 : Int32)), .unset, .unset]) hx (hb hby at_273) rfl rfl ?_
      refine Go.aload (q := 277) hx (hb hby at_275) rfl (by rfl) rfl ?_
      refine Go.aconstNull (q := 278) hx (hb hby at_277) rfl ?_
      refine Go.callV (q := 281) hx hZ (a := a72) (argsL := [.null]) (rest := []) hown (hw _ (List.mem_of_getElem? (i := 33) rfl)) (hw _ (List.mem_of_getElem? (i := 34) rfl)) (notFace_of_selects (args := #[]) (mvT hZ (hw _ (List.mem_of_getElem? (i := 36) rfl)))) (hw _ (List.mem_of_getElem? (i := 36) rfl)) (hw _ (List.mem_of_getElem? (i := 35) rfl)) (hw _ (List.mem_of_getElem? (i := 17) rfl)) (hw _ (List.mem_of_getElem? (i := 37) rfl)) (by decide) ((Exa.ext E89 (A75.keep K81)).keep K97) (rmEqN l Z a0 hw a72 h95 n0 (Nat.le_trans (Nat.le_trans (Nat.le_trans (Nat.le_trans Z0 E74.1) K81.1) E89.1) K97.1)) (by rw [hml]; rfl) pd_4 rfl rfl (hb hby at_278) rfl (by decide) (Nat.le_of_ble_eq_true rfl) (ce' := 2) (sl' := 8) rfl rfl (by decide) (by decide) (fun v111 h112 hQ113 => ?_)
      obtain ⟨rfl, rfl⟩ := hQ113
      show Go _ _ _ _ _ _ _ _ _ _ _ _ _ _ _ 2 8 281 #[.val (.int p1), .val (.int p2), .val (.int p3), .val (.int p4), .val (.int p5), .val (.int p6), .val (.int k6), .val (.int k7), .val (.int a2), .val (.int b2), .val (.int c2), .val (.int d2), .val (.int (imin p1 p3)), .val (.int (hi p1 p3)), .val (.int (imin p2 p4)), .val (.int (hi p2 p4)), .val (.int (imin a2 c2)), .val (.int (hi a2 c2)), .val (.int (imin b2 d2)), .val (.int (hi b2 d2)), .val (.ref a72), .val (.ref a87), .val (.int eqq), .val (.int (1 : Int32)), .val (.int (1 : Int32)), .val (.int (1 : Int32)), .unset, .unset] [(.int (0 : Int32))]
      refine Go.if_ne (q := 284) (t := 288) hx (hb hby at_281) (by decide) rfl rfl (fun hc281 => absurd hc281 (by decide)) (fun hc281 => ?_)
      refine Go.iconst (q := 285) (z := (1 : Int32)) hx (hb hby at_284) rfl rfl ?_
      refine Go.goto (q := 289) hx (hb hby at_285) (by decide) rfl ?_
      refine Go.istore (q := 291) (l' := #[.val (.int p1), .val (.int p2), .val (.int p3), .val (.int p4), .val (.int p5), .val (.int p6), .val (.int k6), .val (.int k7), .val (.int a2), .val (.int b2), .val (.int c2), .val (.int d2), .val (.int (imin p1 p3)), .val (.int (hi p1 p3)), .val (.int (imin p2 p4)), .val (.int (hi p2 p4)), .val (.int (imin a2 c2)), .val (.int (hi a2 c2)), .val (.int (imin b2 d2)), .val (.int (hi b2 d2)), .val (.ref a72), .val (.ref a87), .val (.int eqq), .val (.int (1 : Int32)), .val (.int (1 : Int32)), .val (.int (1 : Int32)), .val (.int (1 : Int32)), .unset]) hx (hb hby at_289) rfl rfl ?_
      refine Go.aload (q := 293) hx (hb hby at_291) rfl (by rfl) rfl ?_
      refine Go.iloadN (q := 294) hx (hb hby at_293) rfl rfl ?_
      refine Go.callS (q := 297) hx hZ (argsL := [(.int p1)]) (rest := [(.ref a72)]) hown (hw _ (List.mem_of_getElem? (i := 40) rfl)) (hw _ (List.mem_of_getElem? (i := 41) rfl)) (hw _ (List.mem_of_getElem? (i := 42) rfl)) (hw _ (List.mem_of_getElem? (i := 43) rfl)) (by decide) (rmVal l Z a0 hw p1 cb cl vl h95 n0 (Nat.le_trans (Nat.le_trans (Nat.le_trans (Nat.le_trans Z0 E74.1) K81.1) E89.1) K97.1) ((((X0.ext E74).keep K81 (allS gz77 all0)).ext E89).keep K97 (allS gz93 all0)) S1 S2 B) (by rw [hml]; rfl) pd_5 rfl rfl (hb hby at_294) rfl (by decide) (Nat.le_of_ble_eq_true rfl) (ce' := 3) (sl' := 9) rfl rfl (by decide) (by decide) (fun v114 h115 hQ116 => ?_)
      obtain ⟨y119, rfl, K117, E118⟩ := hQ116
      show Go _ _ _ _ _ _ _ _ _ _ _ _ _ _ _ 3 9 297 #[.val (.int p1), .val (.int p2), .val (.int p3), .val (.int p4), .val (.int p5), .val (.int p6), .val (.int k6), .val (.int k7), .val (.int a2), .val (.int b2), .val (.int c2), .val (.int d2), .val (.int (imin p1 p3)), .val (.int (hi p1 p3)), .val (.int (imin p2 p4)), .val (.int (hi p2 p4)), .val (.int (imin a2 c2)), .val (.int (hi a2 c2)), .val (.int (imin b2 d2)), .val (.int (hi b2 d2)), .val (.ref a72), .val (.ref a87), .val (.int eqq), .val (.int (1 : Int32)), .val (.int (1 : Int32)), .val (.int (1 : Int32)), .val (.int (1 : Int32)), .unset] [(.ref y119), (.ref a72)]
      refine Go.callV (q := 300) hx hZ (a := a72) (argsL := [(.ref y119)]) (rest := []) hown (hw _ (List.mem_of_getElem? (i := 33) rfl)) (hw _ (List.mem_of_getElem? (i := 34) rfl)) (notFace_of_selects (args := #[]) (mvT hZ (hw _ (List.mem_of_getElem? (i := 36) rfl)))) (hw _ (List.mem_of_getElem? (i := 36) rfl)) (hw _ (List.mem_of_getElem? (i := 35) rfl)) (hw _ (List.mem_of_getElem? (i := 17) rfl)) (hw _ (List.mem_of_getElem? (i := 37) rfl)) (by decide) (((Exa.ext E89 (A75.keep K81)).keep K97).keep K117) (rmEqI l Z a0 hw a72 y119 h115 n0 (Nat.le_trans (Nat.le_trans (Nat.le_trans (Nat.le_trans (Nat.le_trans Z0 E74.1) K81.1) E89.1) K97.1) K117.1) E118) (by rw [hml]; rfl) pd_4 rfl rfl (hb hby at_297) rfl (by decide) (Nat.le_of_ble_eq_true rfl) (ce' := 3) (sl' := 9) rfl rfl (by decide) (by decide) (fun v120 h121 hQ122 => ?_)
      obtain ⟨rfl, rfl⟩ := hQ122
      show Go _ _ _ _ _ _ _ _ _ _ _ _ _ _ _ 3 9 300 #[.val (.int p1), .val (.int p2), .val (.int p3), .val (.int p4), .val (.int p5), .val (.int p6), .val (.int k6), .val (.int k7), .val (.int a2), .val (.int b2), .val (.int c2), .val (.int d2), .val (.int (imin p1 p3)), .val (.int (hi p1 p3)), .val (.int (imin p2 p4)), .val (.int (hi p2 p4)), .val (.int (imin a2 c2)), .val (.int (hi a2 c2)), .val (.int (imin b2 d2)), .val (.int (hi b2 d2)), .val (.ref a72), .val (.ref a87), .val (.int eqq), .val (.int (1 : Int32)), .val (.int (1 : Int32)), .val (.int (1 : Int32)), .val (.int (1 : Int32)), .unset] [(.int (0 : Int32))]
      refine Go.if_ne (q := 303) (t := 307) hx (hb hby at_300) (by decide) rfl rfl (fun hc300 => absurd hc300 (by decide)) (fun hc300 => ?_)
      refine Go.iconst (q := 304) (z := (1 : Int32)) hx (hb hby at_303) rfl rfl ?_
      refine Go.goto (q := 308) hx (hb hby at_304) (by decide) rfl ?_
      refine Go.istore (q := 310) (l' := #[.val (.int p1), .val (.int p2), .val (.int p3), .val (.int p4), .val (.int p5), .val (.int p6), .val (.int k6), .val (.int k7), .val (.int a2), .val (.int b2), .val (.int c2), .val (.int d2), .val (.int (imin p1 p3)), .val (.int (hi p1 p3)), .val (.int (imin p2 p4)), .val (.int (hi p2 p4)), .val (.int (imin a2 c2)), .val (.int (hi a2 c2)), .val (.int (imin b2 d2)), .val (.int (hi b2 d2)), .val (.ref a72), .val (.ref a87), .val (.int eqq), .val (.int (1 : Int32)), .val (.int (1 : Int32)), .val (.int (1 : Int32)), .val (.int (1 : Int32)), .val (.int (1 : Int32))]) hx (hb hby at_308) rfl rfl ?_
      refine Go.iload (q := 312) hx (hb hby at_310) rfl rfl ?_
      refine Go.if_eq (q := 315) (t := 339) hx (hb hby at_312) (by decide) rfl rfl (fun hc312 => absurd hc312 (by decide)) (fun hc312 => ?_)
      refine Go.iload (q := 317) hx (hb hby at_315) rfl rfl ?_
      refine Go.if_eq (q := 320) (t := 339) hx (hb hby at_317) (by decide) rfl rfl (fun hc317 => absurd hc317 (by decide)) (fun hc317 => ?_)
      refine Go.iload (q := 322) hx (hb hby at_320) rfl rfl ?_
      refine Go.if_eq (q := 325) (t := 339) hx (hb hby at_322) (by decide) rfl rfl (fun hc322 => absurd hc322 (by decide)) (fun hc322 => ?_)
      refine Go.iload (q := 327) hx (hb hby at_325) rfl rfl ?_
      refine Go.if_eq (q := 330) (t := 339) hx (hb hby at_327) (by decide) rfl rfl (fun hc327 => absurd hc327 (by decide)) (fun hc327 => ?_)
      refine Go.iload (q := 332) hx (hb hby at_330) rfl rfl ?_
      refine Go.if_eq (q := 335) (t := 339) hx (hb hby at_332) (by decide) rfl rfl (fun hc332 => absurd hc332 (by decide)) (fun hc332 => ?_)
      refine Go.iconst (q := 336) (z := (1 : Int32)) hx (hb hby at_335) rfl rfl ?_
      refine Go.goto (q := 340) hx (hb hby at_336) (by decide) rfl ?_
      refine Go.retN hx (t := .boolean) hret (by simp) hlk (hb hby at_340) (by decide) (by decide) ?_
      rfl
    refine Go.iload (q := 195) hx (hb hby at_193) rfl rfl ?_
    refine Go.iload (q := 197) hx (hb hby at_195) rfl rfl ?_
    refine Go.icmp_ne (q := 200) (t := 225) hx (hb hby at_197) (by decide) rfl rfl (fun hc197 => ?_) (fun hc197 => ?_)
    · skip
      refine Go.iconst (q := 226) (z := (0 : Int32)) hx (hb hby at_225) rfl rfl ?_
      exact J226 _ (by simp [eqv, hc197])
    · skip
      refine Go.iload (q := 202) hx (hb hby at_200) rfl rfl ?_
      refine Go.iload (q := 204) hx (hb hby at_202) rfl rfl ?_
      refine Go.icmp_ne (q := 207) (t := 225) hx (hb hby at_204) (by decide) rfl rfl (fun hc204 => ?_) (fun hc204 => ?_)
      · skip
        refine Go.iconst (q := 226) (z := (0 : Int32)) hx (hb hby at_225) rfl rfl ?_
        exact J226 _ (by simp [eqv, hc197, hc204])
      · skip
        refine Go.iload (q := 209) hx (hb hby at_207) rfl rfl ?_
        refine Go.iload (q := 211) hx (hb hby at_209) rfl rfl ?_
        refine Go.icmp_ne (q := 214) (t := 225) hx (hb hby at_211) (by decide) rfl rfl (fun hc211 => ?_) (fun hc211 => ?_)
        · skip
          refine Go.iconst (q := 226) (z := (0 : Int32)) hx (hb hby at_225) rfl rfl ?_
          exact J226 _ (by simp [eqv, hc197, hc204, hc211])
        · skip
          refine Go.iload (q := 216) hx (hb hby at_214) rfl rfl ?_
          refine Go.iload (q := 218) hx (hb hby at_216) rfl rfl ?_
          refine Go.icmp_ne (q := 221) (t := 225) hx (hb hby at_218) (by decide) rfl rfl (fun hc218 => ?_) (fun hc218 => ?_)
          · skip
            refine Go.iconst (q := 226) (z := (0 : Int32)) hx (hb hby at_225) rfl rfl ?_
            exact J226 _ (by simp [eqv, hc197, hc204, hc211, hc218])
          · skip
            refine Go.iconst (q := 222) (z := (1 : Int32)) hx (hb hby at_221) rfl rfl ?_
            refine Go.goto (q := 226) hx (hb hby at_222) (by decide) rfl ?_
            exact J226 _ (by simp [eqv, hc197, hc204, hc211, hc218])
  refine Go.iload (q := 2) hx (hb hby at_0) rfl rfl ?_
  refine Go.iconst (q := 3) (z := (3 : Int32)) hx (hb hby at_2) rfl rfl ?_
  refine Go.iand (q := 4) hx (hb hby at_3) rfl ?_
  refine Go.istore (q := 6) (l' := #[.val (.int p1), .val (.int p2), .val (.int p3), .val (.int p4), .val (.int p5), .val (.int p6), .val (.int (p6 &&& (3 : Int32))), .unset, .unset, .unset, .unset, .unset, .unset, .unset, .unset, .unset, .unset, .unset, .unset, .unset, .unset, .unset, .unset, .unset, .unset, .unset, .unset, .unset]) hx (hb hby at_4) rfl rfl ?_
  refine Go.iload (q := 8) hx (hb hby at_6) rfl rfl ?_
  refine Go.iconst (q := 9) (z := (4 : Int32)) hx (hb hby at_8) rfl rfl ?_
  refine Go.iand (q := 10) hx (hb hby at_9) rfl ?_
  refine Go.if_ne (q := 13) (t := 17) hx (hb hby at_10) (by decide) rfl rfl (fun hc10 => ?_) (fun hc10 => ?_)
  · skip
    refine Go.iconst (q := 18) (z := (0 : Int32)) hx (hb hby at_17) rfl rfl ?_
    refine Go.istore (q := 20) (l' := #[.val (.int p1), .val (.int p2), .val (.int p3), .val (.int p4), .val (.int p5), .val (.int p6), .val (.int (p6 &&& (3 : Int32))), .val (.int (0 : Int32)), .unset, .unset, .unset, .unset, .unset, .unset, .unset, .unset, .unset, .unset, .unset, .unset, .unset, .unset, .unset, .unset, .unset, .unset, .unset, .unset]) hx (hb hby at_18) rfl rfl ?_
    refine Go.iload (q := 22) hx (hb hby at_20) rfl rfl ?_
    refine Go.if_eq (q := 25) (t := 35) hx (hb hby at_22) (by decide) rfl rfl (fun hc22 => ?_) (fun hc22 => absurd hc22 (by decide))
    refine Go.iloadN (q := 36) hx (hb hby at_35) rfl rfl ?_
    refine Go.istore (q := 38) (l' := #[.val (.int p1), .val (.int p2), .val (.int p3), .val (.int p4), .val (.int p5), .val (.int p6), .val (.int (p6 &&& (3 : Int32))), .val (.int (0 : Int32)), .val (.int p1), .unset, .unset, .unset, .unset, .unset, .unset, .unset, .unset, .unset, .unset, .unset, .unset, .unset, .unset, .unset, .unset, .unset, .unset, .unset]) hx (hb hby at_36) rfl rfl ?_
    refine Go.iload (q := 40) hx (hb hby at_38) rfl rfl ?_
    refine Go.if_eq (q := 43) (t := 54) hx (hb hby at_40) (by decide) rfl rfl (fun hc40 => ?_) (fun hc40 => absurd hc40 (by decide))
    refine Go.iloadN (q := 55) hx (hb hby at_54) rfl rfl ?_
    refine Go.istore (q := 57) (l' := #[.val (.int p1), .val (.int p2), .val (.int p3), .val (.int p4), .val (.int p5), .val (.int p6), .val (.int (p6 &&& (3 : Int32))), .val (.int (0 : Int32)), .val (.int p1), .val (.int p2), .unset, .unset, .unset, .unset, .unset, .unset, .unset, .unset, .unset, .unset, .unset, .unset, .unset, .unset, .unset, .unset, .unset, .unset]) hx (hb hby at_55) rfl rfl ?_
    refine Go.iload (q := 59) hx (hb hby at_57) rfl rfl ?_
    refine Go.if_eq (q := 62) (t := 73) hx (hb hby at_59) (by decide) rfl rfl (fun hc59 => ?_) (fun hc59 => absurd hc59 (by decide))
    refine Go.iloadN (q := 74) hx (hb hby at_73) rfl rfl ?_
    refine Go.istore (q := 76) (l' := #[.val (.int p1), .val (.int p2), .val (.int p3), .val (.int p4), .val (.int p5), .val (.int p6), .val (.int (p6 &&& (3 : Int32))), .val (.int (0 : Int32)), .val (.int p1), .val (.int p2), .val (.int p3), .unset, .unset, .unset, .unset, .unset, .unset, .unset, .unset, .unset, .unset, .unset, .unset, .unset, .unset, .unset, .unset, .unset]) hx (hb hby at_74) rfl rfl ?_
    refine Go.iload (q := 78) hx (hb hby at_76) rfl rfl ?_
    refine Go.if_eq (q := 81) (t := 92) hx (hb hby at_78) (by decide) rfl rfl (fun hc78 => ?_) (fun hc78 => absurd hc78 (by decide))
    refine Go.iloadN (q := 93) hx (hb hby at_92) rfl rfl ?_
    refine Go.istore (q := 95) (l' := #[.val (.int p1), .val (.int p2), .val (.int p3), .val (.int p4), .val (.int p5), .val (.int p6), .val (.int (p6 &&& (3 : Int32))), .val (.int (0 : Int32)), .val (.int p1), .val (.int p2), .val (.int p3), .val (.int p4), .unset, .unset, .unset, .unset, .unset, .unset, .unset, .unset, .unset, .unset, .unset, .unset, .unset, .unset, .unset, .unset]) hx (hb hby at_93) rfl rfl ?_
    exact J95 (p6 &&& (3 : Int32)) (0 : Int32) p1 p2 p3 p4
  · skip
    refine Go.iconst (q := 14) (z := (1 : Int32)) hx (hb hby at_13) rfl rfl ?_
    refine Go.goto (q := 18) hx (hb hby at_14) (by decide) rfl ?_
    refine Go.istore (q := 20) (l' := #[.val (.int p1), .val (.int p2), .val (.int p3), .val (.int p4), .val (.int p5), .val (.int p6), .val (.int (p6 &&& (3 : Int32))), .val (.int (1 : Int32)), .unset, .unset, .unset, .unset, .unset, .unset, .unset, .unset, .unset, .unset, .unset, .unset, .unset, .unset, .unset, .unset, .unset, .unset, .unset, .unset]) hx (hb hby at_18) rfl rfl ?_
    refine Go.iload (q := 22) hx (hb hby at_20) rfl rfl ?_
    refine Go.if_eq (q := 25) (t := 35) hx (hb hby at_22) (by decide) rfl rfl (fun hc22 => absurd hc22 (by decide)) (fun hc22 => ?_)
    refine Go.iload (q := 27) hx (hb hby at_25) rfl rfl ?_
    refine Go.if_ne (q := 30) (t := 35) hx (hb hby at_27) (by decide) rfl rfl (fun hc27 => ?_) (fun hc27 => ?_)
    · skip
      refine Go.iloadN (q := 36) hx (hb hby at_35) rfl rfl ?_
      refine Go.istore (q := 38) (l' := #[.val (.int p1), .val (.int p2), .val (.int p3), .val (.int p4), .val (.int p5), .val (.int p6), .val (.int (p6 &&& (3 : Int32))), .val (.int (1 : Int32)), .val (.int p1), .unset, .unset, .unset, .unset, .unset, .unset, .unset, .unset, .unset, .unset, .unset, .unset, .unset, .unset, .unset, .unset, .unset, .unset, .unset]) hx (hb hby at_36) rfl rfl ?_
      refine Go.iload (q := 40) hx (hb hby at_38) rfl rfl ?_
      refine Go.if_eq (q := 43) (t := 54) hx (hb hby at_40) (by decide) rfl rfl (fun hc40 => absurd hc40 (by decide)) (fun hc40 => ?_)
      refine Go.iload (q := 45) hx (hb hby at_43) rfl rfl ?_
      refine Go.iconst (q := 46) (z := (1 : Int32)) hx (hb hby at_45) rfl rfl ?_
      refine Go.icmp_ne (q := 49) (t := 54) hx (hb hby at_46) (by decide) rfl rfl (fun hc46 => ?_) (fun hc46 => ?_)
      · skip
        refine Go.iloadN (q := 55) hx (hb hby at_54) rfl rfl ?_
        refine Go.istore (q := 57) (l' := #[.val (.int p1), .val (.int p2), .val (.int p3), .val (.int p4), .val (.int p5), .val (.int p6), .val (.int (p6 &&& (3 : Int32))), .val (.int (1 : Int32)), .val (.int p1), .val (.int p2), .unset, .unset, .unset, .unset, .unset, .unset, .unset, .unset, .unset, .unset, .unset, .unset, .unset, .unset, .unset, .unset, .unset, .unset]) hx (hb hby at_55) rfl rfl ?_
        refine Go.iload (q := 59) hx (hb hby at_57) rfl rfl ?_
        refine Go.if_eq (q := 62) (t := 73) hx (hb hby at_59) (by decide) rfl rfl (fun hc59 => absurd hc59 (by decide)) (fun hc59 => ?_)
        refine Go.iload (q := 64) hx (hb hby at_62) rfl rfl ?_
        refine Go.iconst (q := 65) (z := (2 : Int32)) hx (hb hby at_64) rfl rfl ?_
        refine Go.icmp_ne (q := 68) (t := 73) hx (hb hby at_65) (by decide) rfl rfl (fun hc65 => ?_) (fun hc65 => ?_)
        · skip
          refine Go.iloadN (q := 74) hx (hb hby at_73) rfl rfl ?_
          refine Go.istore (q := 76) (l' := #[.val (.int p1), .val (.int p2), .val (.int p3), .val (.int p4), .val (.int p5), .val (.int p6), .val (.int (p6 &&& (3 : Int32))), .val (.int (1 : Int32)), .val (.int p1), .val (.int p2), .val (.int p3), .unset, .unset, .unset, .unset, .unset, .unset, .unset, .unset, .unset, .unset, .unset, .unset, .unset, .unset, .unset, .unset, .unset]) hx (hb hby at_74) rfl rfl ?_
          refine Go.iload (q := 78) hx (hb hby at_76) rfl rfl ?_
          refine Go.if_eq (q := 81) (t := 92) hx (hb hby at_78) (by decide) rfl rfl (fun hc78 => absurd hc78 (by decide)) (fun hc78 => ?_)
          refine Go.iload (q := 83) hx (hb hby at_81) rfl rfl ?_
          refine Go.iconst (q := 84) (z := (3 : Int32)) hx (hb hby at_83) rfl rfl ?_
          refine Go.icmp_ne (q := 87) (t := 92) hx (hb hby at_84) (by decide) rfl rfl (fun hc84 => ?_) (fun hc84 => ?_)
          · skip
            refine Go.iloadN (q := 93) hx (hb hby at_92) rfl rfl ?_
            refine Go.istore (q := 95) (l' := #[.val (.int p1), .val (.int p2), .val (.int p3), .val (.int p4), .val (.int p5), .val (.int p6), .val (.int (p6 &&& (3 : Int32))), .val (.int (1 : Int32)), .val (.int p1), .val (.int p2), .val (.int p3), .val (.int p4), .unset, .unset, .unset, .unset, .unset, .unset, .unset, .unset, .unset, .unset, .unset, .unset, .unset, .unset, .unset, .unset]) hx (hb hby at_93) rfl rfl ?_
            exact J95 (p6 &&& (3 : Int32)) (1 : Int32) p1 p2 p3 p4
          · skip
            refine Go.iload (q := 89) hx (hb hby at_87) rfl rfl ?_
            refine Go.goto (q := 93) hx (hb hby at_89) (by decide) rfl ?_
            refine Go.istore (q := 95) (l' := #[.val (.int p1), .val (.int p2), .val (.int p3), .val (.int p4), .val (.int p5), .val (.int p6), .val (.int (p6 &&& (3 : Int32))), .val (.int (1 : Int32)), .val (.int p1), .val (.int p2), .val (.int p3), .val (.int p5), .unset, .unset, .unset, .unset, .unset, .unset, .unset, .unset, .unset, .unset, .unset, .unset, .unset, .unset, .unset, .unset]) hx (hb hby at_93) rfl rfl ?_
            exact J95 (p6 &&& (3 : Int32)) (1 : Int32) p1 p2 p3 p5
        · skip
          refine Go.iload (q := 70) hx (hb hby at_68) rfl rfl ?_
          refine Go.goto (q := 74) hx (hb hby at_70) (by decide) rfl ?_
          refine Go.istore (q := 76) (l' := #[.val (.int p1), .val (.int p2), .val (.int p3), .val (.int p4), .val (.int p5), .val (.int p6), .val (.int (p6 &&& (3 : Int32))), .val (.int (1 : Int32)), .val (.int p1), .val (.int p2), .val (.int p5), .unset, .unset, .unset, .unset, .unset, .unset, .unset, .unset, .unset, .unset, .unset, .unset, .unset, .unset, .unset, .unset, .unset]) hx (hb hby at_74) rfl rfl ?_
          refine Go.iload (q := 78) hx (hb hby at_76) rfl rfl ?_
          refine Go.if_eq (q := 81) (t := 92) hx (hb hby at_78) (by decide) rfl rfl (fun hc78 => absurd hc78 (by decide)) (fun hc78 => ?_)
          refine Go.iload (q := 83) hx (hb hby at_81) rfl rfl ?_
          refine Go.iconst (q := 84) (z := (3 : Int32)) hx (hb hby at_83) rfl rfl ?_
          refine Go.icmp_ne (q := 87) (t := 92) hx (hb hby at_84) (by decide) rfl rfl (fun hc84 => ?_) (fun hc84 => ?_)
          · skip
            refine Go.iloadN (q := 93) hx (hb hby at_92) rfl rfl ?_
            refine Go.istore (q := 95) (l' := #[.val (.int p1), .val (.int p2), .val (.int p3), .val (.int p4), .val (.int p5), .val (.int p6), .val (.int (p6 &&& (3 : Int32))), .val (.int (1 : Int32)), .val (.int p1), .val (.int p2), .val (.int p5), .val (.int p4), .unset, .unset, .unset, .unset, .unset, .unset, .unset, .unset, .unset, .unset, .unset, .unset, .unset, .unset, .unset, .unset]) hx (hb hby at_93) rfl rfl ?_
            exact J95 (p6 &&& (3 : Int32)) (1 : Int32) p1 p2 p5 p4
          · skip
            refine Go.iload (q := 89) hx (hb hby at_87) rfl rfl ?_
            refine Go.goto (q := 93) hx (hb hby at_89) (by decide) rfl ?_
            refine Go.istore (q := 95) (l' := #[.val (.int p1), .val (.int p2), .val (.int p3), .val (.int p4), .val (.int p5), .val (.int p6), .val (.int (p6 &&& (3 : Int32))), .val (.int (1 : Int32)), .val (.int p1), .val (.int p2), .val (.int p5), .val (.int p5), .unset, .unset, .unset, .unset, .unset, .unset, .unset, .unset, .unset, .unset, .unset, .unset, .unset, .unset, .unset, .unset]) hx (hb hby at_93) rfl rfl ?_
            exact J95 (p6 &&& (3 : Int32)) (1 : Int32) p1 p2 p5 p5
      · skip
        refine Go.iload (q := 51) hx (hb hby at_49) rfl rfl ?_
        refine Go.goto (q := 55) hx (hb hby at_51) (by decide) rfl ?_
        refine Go.istore (q := 57) (l' := #[.val (.int p1), .val (.int p2), .val (.int p3), .val (.int p4), .val (.int p5), .val (.int p6), .val (.int (p6 &&& (3 : Int32))), .val (.int (1 : Int32)), .val (.int p1), .val (.int p5), .unset, .unset, .unset, .unset, .unset, .unset, .unset, .unset, .unset, .unset, .unset, .unset, .unset, .unset, .unset, .unset, .unset, .unset]) hx (hb hby at_55) rfl rfl ?_
        refine Go.iload (q := 59) hx (hb hby at_57) rfl rfl ?_
        refine Go.if_eq (q := 62) (t := 73) hx (hb hby at_59) (by decide) rfl rfl (fun hc59 => absurd hc59 (by decide)) (fun hc59 => ?_)
        refine Go.iload (q := 64) hx (hb hby at_62) rfl rfl ?_
        refine Go.iconst (q := 65) (z := (2 : Int32)) hx (hb hby at_64) rfl rfl ?_
        refine Go.icmp_ne (q := 68) (t := 73) hx (hb hby at_65) (by decide) rfl rfl (fun hc65 => ?_) (fun hc65 => ?_)
        · skip
          refine Go.iloadN (q := 74) hx (hb hby at_73) rfl rfl ?_
          refine Go.istore (q := 76) (l' := #[.val (.int p1), .val (.int p2), .val (.int p3), .val (.int p4), .val (.int p5), .val (.int p6), .val (.int (p6 &&& (3 : Int32))), .val (.int (1 : Int32)), .val (.int p1), .val (.int p5), .val (.int p3), .unset, .unset, .unset, .unset, .unset, .unset, .unset, .unset, .unset, .unset, .unset, .unset, .unset, .unset, .unset, .unset, .unset]) hx (hb hby at_74) rfl rfl ?_
          refine Go.iload (q := 78) hx (hb hby at_76) rfl rfl ?_
          refine Go.if_eq (q := 81) (t := 92) hx (hb hby at_78) (by decide) rfl rfl (fun hc78 => absurd hc78 (by decide)) (fun hc78 => ?_)
          refine Go.iload (q := 83) hx (hb hby at_81) rfl rfl ?_
          refine Go.iconst (q := 84) (z := (3 : Int32)) hx (hb hby at_83) rfl rfl ?_
          refine Go.icmp_ne (q := 87) (t := 92) hx (hb hby at_84) (by decide) rfl rfl (fun hc84 => ?_) (fun hc84 => ?_)
          · skip
            refine Go.iloadN (q := 93) hx (hb hby at_92) rfl rfl ?_
            refine Go.istore (q := 95) (l' := #[.val (.int p1), .val (.int p2), .val (.int p3), .val (.int p4), .val (.int p5), .val (.int p6), .val (.int (p6 &&& (3 : Int32))), .val (.int (1 : Int32)), .val (.int p1), .val (.int p5), .val (.int p3), .val (.int p4), .unset, .unset, .unset, .unset, .unset, .unset, .unset, .unset, .unset, .unset, .unset, .unset, .unset, .unset, .unset, .unset]) hx (hb hby at_93) rfl rfl ?_
            exact J95 (p6 &&& (3 : Int32)) (1 : Int32) p1 p5 p3 p4
          · skip
            refine Go.iload (q := 89) hx (hb hby at_87) rfl rfl ?_
            refine Go.goto (q := 93) hx (hb hby at_89) (by decide) rfl ?_
            refine Go.istore (q := 95) (l' := #[.val (.int p1), .val (.int p2), .val (.int p3), .val (.int p4), .val (.int p5), .val (.int p6), .val (.int (p6 &&& (3 : Int32))), .val (.int (1 : Int32)), .val (.int p1), .val (.int p5), .val (.int p3), .val (.int p5), .unset, .unset, .unset, .unset, .unset, .unset, .unset, .unset, .unset, .unset, .unset, .unset, .unset, .unset, .unset, .unset]) hx (hb hby at_93) rfl rfl ?_
            exact J95 (p6 &&& (3 : Int32)) (1 : Int32) p1 p5 p3 p5
        · skip
          refine Go.iload (q := 70) hx (hb hby at_68) rfl rfl ?_
          refine Go.goto (q := 74) hx (hb hby at_70) (by decide) rfl ?_
          refine Go.istore (q := 76) (l' := #[.val (.int p1), .val (.int p2), .val (.int p3), .val (.int p4), .val (.int p5), .val (.int p6), .val (.int (p6 &&& (3 : Int32))), .val (.int (1 : Int32)), .val (.int p1), .val (.int p5), .val (.int p5), .unset, .unset, .unset, .unset, .unset, .unset, .unset, .unset, .unset, .unset, .unset, .unset, .unset, .unset, .unset, .unset, .unset]) hx (hb hby at_74) rfl rfl ?_
          refine Go.iload (q := 78) hx (hb hby at_76) rfl rfl ?_
          refine Go.if_eq (q := 81) (t := 92) hx (hb hby at_78) (by decide) rfl rfl (fun hc78 => absurd hc78 (by decide)) (fun hc78 => ?_)
          refine Go.iload (q := 83) hx (hb hby at_81) rfl rfl ?_
          refine Go.iconst (q := 84) (z := (3 : Int32)) hx (hb hby at_83) rfl rfl ?_
          refine Go.icmp_ne (q := 87) (t := 92) hx (hb hby at_84) (by decide) rfl rfl (fun hc84 => ?_) (fun hc84 => ?_)
          · skip
            refine Go.iloadN (q := 93) hx (hb hby at_92) rfl rfl ?_
            refine Go.istore (q := 95) (l' := #[.val (.int p1), .val (.int p2), .val (.int p3), .val (.int p4), .val (.int p5), .val (.int p6), .val (.int (p6 &&& (3 : Int32))), .val (.int (1 : Int32)), .val (.int p1), .val (.int p5), .val (.int p5), .val (.int p4), .unset, .unset, .unset, .unset, .unset, .unset, .unset, .unset, .unset, .unset, .unset, .unset, .unset, .unset, .unset, .unset]) hx (hb hby at_93) rfl rfl ?_
            exact J95 (p6 &&& (3 : Int32)) (1 : Int32) p1 p5 p5 p4
          · skip
            refine Go.iload (q := 89) hx (hb hby at_87) rfl rfl ?_
            refine Go.goto (q := 93) hx (hb hby at_89) (by decide) rfl ?_
            refine Go.istore (q := 95) (l' := #[.val (.int p1), .val (.int p2), .val (.int p3), .val (.int p4), .val (.int p5), .val (.int p6), .val (.int (p6 &&& (3 : Int32))), .val (.int (1 : Int32)), .val (.int p1), .val (.int p5), .val (.int p5), .val (.int p5), .unset, .unset, .unset, .unset, .unset, .unset, .unset, .unset, .unset, .unset, .unset, .unset, .unset, .unset, .unset, .unset]) hx (hb hby at_93) rfl rfl ?_
            exact J95 (p6 &&& (3 : Int32)) (1 : Int32) p1 p5 p5 p5
    · skip
      refine Go.iload (q := 32) hx (hb hby at_30) rfl rfl ?_
      refine Go.goto (q := 36) hx (hb hby at_32) (by decide) rfl ?_
      refine Go.istore (q := 38) (l' := #[.val (.int p1), .val (.int p2), .val (.int p3), .val (.int p4), .val (.int p5), .val (.int p6), .val (.int (p6 &&& (3 : Int32))), .val (.int (1 : Int32)), .val (.int p5), .unset, .unset, .unset, .unset, .unset, .unset, .unset, .unset, .unset, .unset, .unset, .unset, .unset, .unset, .unset, .unset, .unset, .unset, .unset]) hx (hb hby at_36) rfl rfl ?_
      refine Go.iload (q := 40) hx (hb hby at_38) rfl rfl ?_
      refine Go.if_eq (q := 43) (t := 54) hx (hb hby at_40) (by decide) rfl rfl (fun hc40 => absurd hc40 (by decide)) (fun hc40 => ?_)
      refine Go.iload (q := 45) hx (hb hby at_43) rfl rfl ?_
      refine Go.iconst (q := 46) (z := (1 : Int32)) hx (hb hby at_45) rfl rfl ?_
      refine Go.icmp_ne (q := 49) (t := 54) hx (hb hby at_46) (by decide) rfl rfl (fun hc46 => ?_) (fun hc46 => ?_)
      · skip
        refine Go.iloadN (q := 55) hx (hb hby at_54) rfl rfl ?_
        refine Go.istore (q := 57) (l' := #[.val (.int p1), .val (.int p2), .val (.int p3), .val (.int p4), .val (.int p5), .val (.int p6), .val (.int (p6 &&& (3 : Int32))), .val (.int (1 : Int32)), .val (.int p5), .val (.int p2), .unset, .unset, .unset, .unset, .unset, .unset, .unset, .unset, .unset, .unset, .unset, .unset, .unset, .unset, .unset, .unset, .unset, .unset]) hx (hb hby at_55) rfl rfl ?_
        refine Go.iload (q := 59) hx (hb hby at_57) rfl rfl ?_
        refine Go.if_eq (q := 62) (t := 73) hx (hb hby at_59) (by decide) rfl rfl (fun hc59 => absurd hc59 (by decide)) (fun hc59 => ?_)
        refine Go.iload (q := 64) hx (hb hby at_62) rfl rfl ?_
        refine Go.iconst (q := 65) (z := (2 : Int32)) hx (hb hby at_64) rfl rfl ?_
        refine Go.icmp_ne (q := 68) (t := 73) hx (hb hby at_65) (by decide) rfl rfl (fun hc65 => ?_) (fun hc65 => ?_)
        · skip
          refine Go.iloadN (q := 74) hx (hb hby at_73) rfl rfl ?_
          refine Go.istore (q := 76) (l' := #[.val (.int p1), .val (.int p2), .val (.int p3), .val (.int p4), .val (.int p5), .val (.int p6), .val (.int (p6 &&& (3 : Int32))), .val (.int (1 : Int32)), .val (.int p5), .val (.int p2), .val (.int p3), .unset, .unset, .unset, .unset, .unset, .unset, .unset, .unset, .unset, .unset, .unset, .unset, .unset, .unset, .unset, .unset, .unset]) hx (hb hby at_74) rfl rfl ?_
          refine Go.iload (q := 78) hx (hb hby at_76) rfl rfl ?_
          refine Go.if_eq (q := 81) (t := 92) hx (hb hby at_78) (by decide) rfl rfl (fun hc78 => absurd hc78 (by decide)) (fun hc78 => ?_)
          refine Go.iload (q := 83) hx (hb hby at_81) rfl rfl ?_
          refine Go.iconst (q := 84) (z := (3 : Int32)) hx (hb hby at_83) rfl rfl ?_
          refine Go.icmp_ne (q := 87) (t := 92) hx (hb hby at_84) (by decide) rfl rfl (fun hc84 => ?_) (fun hc84 => ?_)
          · skip
            refine Go.iloadN (q := 93) hx (hb hby at_92) rfl rfl ?_
            refine Go.istore (q := 95) (l' := #[.val (.int p1), .val (.int p2), .val (.int p3), .val (.int p4), .val (.int p5), .val (.int p6), .val (.int (p6 &&& (3 : Int32))), .val (.int (1 : Int32)), .val (.int p5), .val (.int p2), .val (.int p3), .val (.int p4), .unset, .unset, .unset, .unset, .unset, .unset, .unset, .unset, .unset, .unset, .unset, .unset, .unset, .unset, .unset, .unset]) hx (hb hby at_93) rfl rfl ?_
            exact J95 (p6 &&& (3 : Int32)) (1 : Int32) p5 p2 p3 p4
          · skip
            refine Go.iload (q := 89) hx (hb hby at_87) rfl rfl ?_
            refine Go.goto (q := 93) hx (hb hby at_89) (by decide) rfl ?_
            refine Go.istore (q := 95) (l' := #[.val (.int p1), .val (.int p2), .val (.int p3), .val (.int p4), .val (.int p5), .val (.int p6), .val (.int (p6 &&& (3 : Int32))), .val (.int (1 : Int32)), .val (.int p5), .val (.int p2), .val (.int p3), .val (.int p5), .unset, .unset, .unset, .unset, .unset, .unset, .unset, .unset, .unset, .unset, .unset, .unset, .unset, .unset, .unset, .unset]) hx (hb hby at_93) rfl rfl ?_
            exact J95 (p6 &&& (3 : Int32)) (1 : Int32) p5 p2 p3 p5
        · skip
          refine Go.iload (q := 70) hx (hb hby at_68) rfl rfl ?_
          refine Go.goto (q := 74) hx (hb hby at_70) (by decide) rfl ?_
          refine Go.istore (q := 76) (l' := #[.val (.int p1), .val (.int p2), .val (.int p3), .val (.int p4), .val (.int p5), .val (.int p6), .val (.int (p6 &&& (3 : Int32))), .val (.int (1 : Int32)), .val (.int p5), .val (.int p2), .val (.int p5), .unset, .unset, .unset, .unset, .unset, .unset, .unset, .unset, .unset, .unset, .unset, .unset, .unset, .unset, .unset, .unset, .unset]) hx (hb hby at_74) rfl rfl ?_
          refine Go.iload (q := 78) hx (hb hby at_76) rfl rfl ?_
          refine Go.if_eq (q := 81) (t := 92) hx (hb hby at_78) (by decide) rfl rfl (fun hc78 => absurd hc78 (by decide)) (fun hc78 => ?_)
          refine Go.iload (q := 83) hx (hb hby at_81) rfl rfl ?_
          refine Go.iconst (q := 84) (z := (3 : Int32)) hx (hb hby at_83) rfl rfl ?_
          refine Go.icmp_ne (q := 87) (t := 92) hx (hb hby at_84) (by decide) rfl rfl (fun hc84 => ?_) (fun hc84 => ?_)
          · skip
            refine Go.iloadN (q := 93) hx (hb hby at_92) rfl rfl ?_
            refine Go.istore (q := 95) (l' := #[.val (.int p1), .val (.int p2), .val (.int p3), .val (.int p4), .val (.int p5), .val (.int p6), .val (.int (p6 &&& (3 : Int32))), .val (.int (1 : Int32)), .val (.int p5), .val (.int p2), .val (.int p5), .val (.int p4), .unset, .unset, .unset, .unset, .unset, .unset, .unset, .unset, .unset, .unset, .unset, .unset, .unset, .unset, .unset, .unset]) hx (hb hby at_93) rfl rfl ?_
            exact J95 (p6 &&& (3 : Int32)) (1 : Int32) p5 p2 p5 p4
          · skip
            refine Go.iload (q := 89) hx (hb hby at_87) rfl rfl ?_
            refine Go.goto (q := 93) hx (hb hby at_89) (by decide) rfl ?_
            refine Go.istore (q := 95) (l' := #[.val (.int p1), .val (.int p2), .val (.int p3), .val (.int p4), .val (.int p5), .val (.int p6), .val (.int (p6 &&& (3 : Int32))), .val (.int (1 : Int32)), .val (.int p5), .val (.int p2), .val (.int p5), .val (.int p5), .unset, .unset, .unset, .unset, .unset, .unset, .unset, .unset, .unset, .unset, .unset, .unset, .unset, .unset, .unset, .unset]) hx (hb hby at_93) rfl rfl ?_
            exact J95 (p6 &&& (3 : Int32)) (1 : Int32) p5 p2 p5 p5
      · skip
        refine Go.iload (q := 51) hx (hb hby at_49) rfl rfl ?_
        refine Go.goto (q := 55) hx (hb hby at_51) (by decide) rfl ?_
        refine Go.istore (q := 57) (l' := #[.val (.int p1), .val (.int p2), .val (.int p3), .val (.int p4), .val (.int p5), .val (.int p6), .val (.int (p6 &&& (3 : Int32))), .val (.int (1 : Int32)), .val (.int p5), .val (.int p5), .unset, .unset, .unset, .unset, .unset, .unset, .unset, .unset, .unset, .unset, .unset, .unset, .unset, .unset, .unset, .unset, .unset, .unset]) hx (hb hby at_55) rfl rfl ?_
        refine Go.iload (q := 59) hx (hb hby at_57) rfl rfl ?_
        refine Go.if_eq (q := 62) (t := 73) hx (hb hby at_59) (by decide) rfl rfl (fun hc59 => absurd hc59 (by decide)) (fun hc59 => ?_)
        refine Go.iload (q := 64) hx (hb hby at_62) rfl rfl ?_
        refine Go.iconst (q := 65) (z := (2 : Int32)) hx (hb hby at_64) rfl rfl ?_
        refine Go.icmp_ne (q := 68) (t := 73) hx (hb hby at_65) (by decide) rfl rfl (fun hc65 => ?_) (fun hc65 => ?_)
        · skip
          refine Go.iloadN (q := 74) hx (hb hby at_73) rfl rfl ?_
          refine Go.istore (q := 76) (l' := #[.val (.int p1), .val (.int p2), .val (.int p3), .val (.int p4), .val (.int p5), .val (.int p6), .val (.int (p6 &&& (3 : Int32))), .val (.int (1 : Int32)), .val (.int p5), .val (.int p5), .val (.int p3), .unset, .unset, .unset, .unset, .unset, .unset, .unset, .unset, .unset, .unset, .unset, .unset, .unset, .unset, .unset, .unset, .unset]) hx (hb hby at_74) rfl rfl ?_
          refine Go.iload (q := 78) hx (hb hby at_76) rfl rfl ?_
          refine Go.if_eq (q := 81) (t := 92) hx (hb hby at_78) (by decide) rfl rfl (fun hc78 => absurd hc78 (by decide)) (fun hc78 => ?_)
          refine Go.iload (q := 83) hx (hb hby at_81) rfl rfl ?_
          refine Go.iconst (q := 84) (z := (3 : Int32)) hx (hb hby at_83) rfl rfl ?_
          refine Go.icmp_ne (q := 87) (t := 92) hx (hb hby at_84) (by decide) rfl rfl (fun hc84 => ?_) (fun hc84 => ?_)
          · skip
            refine Go.iloadN (q := 93) hx (hb hby at_92) rfl rfl ?_
            refine Go.istore (q := 95) (l' := #[.val (.int p1), .val (.int p2), .val (.int p3), .val (.int p4), .val (.int p5), .val (.int p6), .val (.int (p6 &&& (3 : Int32))), .val (.int (1 : Int32)), .val (.int p5), .val (.int p5), .val (.int p3), .val (.int p4), .unset, .unset, .unset, .unset, .unset, .unset, .unset, .unset, .unset, .unset, .unset, .unset, .unset, .unset, .unset, .unset]) hx (hb hby at_93) rfl rfl ?_
            exact J95 (p6 &&& (3 : Int32)) (1 : Int32) p5 p5 p3 p4
          · skip
            refine Go.iload (q := 89) hx (hb hby at_87) rfl rfl ?_
            refine Go.goto (q := 93) hx (hb hby at_89) (by decide) rfl ?_
            refine Go.istore (q := 95) (l' := #[.val (.int p1), .val (.int p2), .val (.int p3), .val (.int p4), .val (.int p5), .val (.int p6), .val (.int (p6 &&& (3 : Int32))), .val (.int (1 : Int32)), .val (.int p5), .val (.int p5), .val (.int p3), .val (.int p5), .unset, .unset, .unset, .unset, .unset, .unset, .unset, .unset, .unset, .unset, .unset, .unset, .unset, .unset, .unset, .unset]) hx (hb hby at_93) rfl rfl ?_
            exact J95 (p6 &&& (3 : Int32)) (1 : Int32) p5 p5 p3 p5
        · skip
          refine Go.iload (q := 70) hx (hb hby at_68) rfl rfl ?_
          refine Go.goto (q := 74) hx (hb hby at_70) (by decide) rfl ?_
          refine Go.istore (q := 76) (l' := #[.val (.int p1), .val (.int p2), .val (.int p3), .val (.int p4), .val (.int p5), .val (.int p6), .val (.int (p6 &&& (3 : Int32))), .val (.int (1 : Int32)), .val (.int p5), .val (.int p5), .val (.int p5), .unset, .unset, .unset, .unset, .unset, .unset, .unset, .unset, .unset, .unset, .unset, .unset, .unset, .unset, .unset, .unset, .unset]) hx (hb hby at_74) rfl rfl ?_
          refine Go.iload (q := 78) hx (hb hby at_76) rfl rfl ?_
          refine Go.if_eq (q := 81) (t := 92) hx (hb hby at_78) (by decide) rfl rfl (fun hc78 => absurd hc78 (by decide)) (fun hc78 => ?_)
          refine Go.iload (q := 83) hx (hb hby at_81) rfl rfl ?_
          refine Go.iconst (q := 84) (z := (3 : Int32)) hx (hb hby at_83) rfl rfl ?_
          refine Go.icmp_ne (q := 87) (t := 92) hx (hb hby at_84) (by decide) rfl rfl (fun hc84 => ?_) (fun hc84 => ?_)
          · skip
            refine Go.iloadN (q := 93) hx (hb hby at_92) rfl rfl ?_
            refine Go.istore (q := 95) (l' := #[.val (.int p1), .val (.int p2), .val (.int p3), .val (.int p4), .val (.int p5), .val (.int p6), .val (.int (p6 &&& (3 : Int32))), .val (.int (1 : Int32)), .val (.int p5), .val (.int p5), .val (.int p5), .val (.int p4), .unset, .unset, .unset, .unset, .unset, .unset, .unset, .unset, .unset, .unset, .unset, .unset, .unset, .unset, .unset, .unset]) hx (hb hby at_93) rfl rfl ?_
            exact J95 (p6 &&& (3 : Int32)) (1 : Int32) p5 p5 p5 p4
          · skip
            refine Go.iload (q := 89) hx (hb hby at_87) rfl rfl ?_
            refine Go.goto (q := 93) hx (hb hby at_89) (by decide) rfl ?_
            refine Go.istore (q := 95) (l' := #[.val (.int p1), .val (.int p2), .val (.int p3), .val (.int p4), .val (.int p5), .val (.int p6), .val (.int (p6 &&& (3 : Int32))), .val (.int (1 : Int32)), .val (.int p5), .val (.int p5), .val (.int p5), .val (.int p5), .unset, .unset, .unset, .unset, .unset, .unset, .unset, .unset, .unset, .unset, .unset, .unset, .unset, .unset, .unset, .unset]) hx (hb hby at_93) rfl rfl ?_
            exact J95 (p6 &&& (3 : Int32)) (1 : Int32) p5 p5 p5 p5
theorem len_eq256 {args : Array Value} {s : State} {t : Term} {a : Addr} {cl : Cell} {z : Int32} (h : (Term.length t).eval args s none [] s = some (.int z)) (ht : t.eval args s none [] s = some (.ref a)) (ha : s.arrayAt? a = some cl) : cl.slots.size < 2 ^ 31 ∧ cl.slots.size.toInt32 = z := by
  have h2 := h
  simp only [Term.eval, ht] at h2
  simp [ha] at h2
  exact h2
set_option maxRecDepth 65536 in
set_option maxHeartbeats 40000000 in
theorem comes_1 {Post : Tables → Env → Array Value → State → Outcome → State → Prop} (hpost : ∀ tb e args s v u, (limb_1_1.after args s (.returned v) u = true ∧ limb_1_2.after args s (.returned v) u = true ∧ True) → FrameEnd s (.returned v) u (Jvm.fieldLocs frame_1_writes args s ++ Jvm.arrayLocs frame_1_arrays args s ++ Jvm.staticLocs frame_1_statics s) 16 128 → Post tb e args s (.returned v) u) :
    ArmFor flags0 classFile x code maxLocals ret World_1 tables_1 room_1 Calls_1 rest_1 Pre_1 Post := by
  intro l hfl _ _ p e ha hc hk s m args below hf hA hF happ hP
  obtain ⟨hcalls, hrest, hpre⟩ := hP
  obtain ⟨-, -, -, hnamed, -, -, -, hat⟩ := (Spec.applies_iff hf).mp happ
  obtain ⟨hg, hn⟩ := and_e (Cond.before_iff.mp (show (Jvm.Cond.and given_1 narrow_1).before args s = true from hpre))
  obtain ⟨hcnt, hk0⟩ := and_e hg
  obtain ⟨ha0, hk1⟩ := and_e hk0
  obtain ⟨ha1, hk2⟩ := and_e hk1
  obtain ⟨ha2, hk3⟩ := and_e hk2
  obtain ⟨ha3, hk4⟩ := and_e hk3
  obtain ⟨ha4, hk5⟩ := and_e hk4
  obtain ⟨w0, w1, w2, w3, w4, w5, rfl⟩ : ∃ w0 w1 w2 w3 w4 w5 : Value, args = #[w0, w1, w2, w3, w4, w5] := by
    have hs : args.size = 6 := by simpa [Cond.value, given_1] using hcnt
    obtain ⟨L⟩ := args
    match L, hs with
    | [w0, w1, w2, w3, w4, w5], _ => exact ⟨w0, w1, w2, w3, w4, w5, rfl⟩
  have hw := fun d (hd : d ∈ tables_1) => atoms_spec (ws := Jvm.Cond.code x code maxLocals ret :: tables_1) hat d (List.mem_cons_of_mem _ hd)
  obtain ⟨hsets, hown0⟩ := atoms_of _ (rest_1_c_eq ▸ (show rest_1_c.before _ s = true from hrest))
  have hfit : Fit s := fun {y c} hc i hi => by
    obtain ⟨ha, rfl⟩ := Array.getElem?_eq_some_iff.mp hc
    have q := List.all_eq_true.mp ((Array.all_eq_true_iff_forall_mem.mp hF) _ (Array.getElem_mem ha)) i (List.mem_range.mpr hi)
    simpa [Array.getElem?_eq_getElem hi] using q
  obtain ⟨i0, ei0⟩ := is_v ha0
  obtain rfl : w0 = (.int i0) := Option.some.inj ei0
  obtain ⟨i1, ei1⟩ := is_v ha1
  obtain rfl : w1 = (.int i1) := Option.some.inj ei1
  obtain ⟨i2, ei2⟩ := is_v ha2
  obtain rfl : w2 = (.int i2) := Option.some.inj ei2
  obtain ⟨i3, ei3⟩ := is_v ha3
  obtain rfl : w3 = (.int i3) := Option.some.inj ei3
  obtain ⟨i4, ei4⟩ := is_v ha4
  obtain rfl : w4 = (.int i4) := Option.some.inj ei4
  obtain ⟨i5, ei5⟩ := is_v hk5
  obtain rfl : w5 = (.int i5) := Option.some.inj ei5
  have e1 := eqv_i (Term.int_eval (127 : Int32)) (Cond.before_iff.mp (hsets _ (List.mem_of_getElem? (i := 3) rfl)))
  have S1 := Sta.start e1 (Or.inl (hsets _ (List.mem_of_getElem? (i := 1) rfl)))
  have ha4 := Cond.before_iff.mp (hsets _ (List.mem_of_getElem? (i := 4) rfl))
  obtain ⟨cb, ecb⟩ := arr_v ha4
  obtain ⟨cl, Acl⟩ := Arr.start ecb ha4
  have S2 := Sta.start ecb (Or.inr ⟨(hw _ (List.mem_of_getElem? (i := 45) rfl)), hsets _ (List.mem_of_getElem? (i := 2) rfl)⟩)
  have hl6 := eqv_i (Term.int_eval (256 : Int32)) (Cond.before_iff.mp (hsets _ (List.mem_of_getElem? (i := 6) rfl)))
  have hlen := len_eq256 hl6 ecb (Acl.fin (Vm.Alike.refl _))
  have B : Bxs s cb cl "java/lang/Integer" "I" (256 : Int32) (fun j => .int (j - (128 : Int32))) := Bxs.start (fun _ => ecb) Acl hlen.1 hlen.2 (by decide) (Cond.before_iff.mp (hsets _ (List.mem_of_getElem? (i := 7) rfl))) (fun X j hj hv => eqv_i (by simp [Term.eval, (back32 hj).1]) hv)
  obtain ⟨n, o, h1, h2, h3, _, L, rfl, ⟨rfl, N⟩, hq⟩ := rm0 l s _ hw i0 i1 i2 i3 i4 i5 cb cl _ s.heap s.heap.size (Nat.le_refl _) (Old.start s) S1 S2 B p e ha hc hk s m _ below hf ((Spec.applies_iff_loose hf).mp happ).1 ⟨rfl, State.Warmed39.refl s, rfl⟩ trivial
  refine ⟨n, _, h1, h2, h3, hpost _ _ _ _ _ _ ⟨Cond.after_iff.mpr rfl, Cond.after_iff.mpr (eq_i res_at (Term.int_eval (1)) rfl), trivial⟩ ⟨hq.1, hq.2.1, (hq.2.2.sift fun y hy => Or.inr (N y hy)).mono (by decide) (by decide)⟩⟩
theorem main_1_1 : Claimed_1_1 := comes_1 fun _ _ _ _ _ _ h hF => ⟨h.1, hF⟩
theorem main_1_2 : Claimed_1_2 := comes_1 fun _ _ _ _ _ _ h hF => ⟨h.2.1, hF⟩
end Jvm.Pilot.@@N@@
namespace Jvm.Pilot.@@N@@
open Jvm Jvm.ClassFile Sem Op Lib Jvm.Free Jvm.Stand Jvm.Pilot.@@N@@.Jvm.D
/-! MADE BY PROGRAM (witnessworld.py) out of the Statement's table words and the real class files: 17 classes; the members and pool entries that the words name. The judged class is class 1, her method 3. -/
namespace start1
open Jvm.ClassFile
def u (s : String) : CpInfo := .utf8 (stringToUtf16 s)
/-- a pool by its gaps: so many unusable entries, then the entry; so many at the end -/
def gap : Nat → List CpInfo → List CpInfo
  | 0, r => r
  | n + 1, r => .unusable :: gap n r
def poolList (es : List (Nat × CpInfo)) (last : Nat) : List CpInfo := es.foldr (fun e r => gap e.1 (e.2 :: r)) (gap last [])
def pool (es : List (Nat × CpInfo)) (last : Nat) : Array CpInfo := ⟨poolList es last⟩
def fileOf (pool : Array CpInfo) (this : Nat) (attrs : Array Attribute := #[]) (ms : Array MethodInfo := #[]) (fl : Nat := 33) (sup : Nat := 0) (ifs : Array Nat := #[]) (fds : Array FieldInfo := #[]) : ClassFile where
  minorVersion := 0
  majorVersion := 65
  constantPool := pool
  accessFlags := fl
  thisClass := this
  superClass := sup
  interfaces := ifs
  fields := fds
  methods := ms
  attributes := attrs
def plain (name : String) (sup : Option ClassId) : Class where
  name := name
  kind := .ordinary
  loader := none
  accessFlags := 33
  super := sup
  interfaces := #[]
  cf := none
  fields := #[]
  methods := #[]
  instanceTypes := #[]
  staticTypes := #[]
  resolved := #[]
  callSites := []
  init := .initialized
  statics := none
  mirror := none

def pool0 : Array CpInfo := pool [(5, u "<init>"), (0, u "()V"), (1, .class_ 10), (1, u "java/lang/Object")] 113

def k0c0 : Code := { maxStack := 0, maxLocals := 1, code := object_method_1_code, exceptionTable := #[], attributes := #[] }
def k0m0 : Method := { name := "<init>", desc := "()V", sig := { parameters := [], returnType := none }, accessFlags := 1, code := some k0c0 }
/-- java/lang/Object -/
def k0 : Class := { plain "java/lang/Object" none with
  accessFlags := 33
  interfaces := #[]
  cf := some (fileOf pool0 8 #[] #[{ accessFlags := 1, nameIndex := 5, descriptorIndex := 6, attributes := #[] }] 33 0 #[] #[])
  fields := #[]
  methods := #[k0m0]
  instanceTypes := #[]
  staticTypes := #[]
  resolved := Array.replicate 124 none
  statics := none }

def pool1 : Array CpInfo := pool [(2, .class_ 4), (1, u "java/lang/Object"), (0, u "<init>"), (0, u "()V"), (0, .methodref 8 9), (0, .class_ 10), (0, .nameAndType 11 12), (0, u "java/lang/Math"), (0, u "min"), (0, u "(II)I"), (0, .methodref 8 14), (0, .nameAndType 15 12), (0, u "max"), (0, .class_ 17), (0, u "java/lang/Integer"), (0, .long 2147483647), (1, .integer 2147483647), (0, .methodref 22 23), (0, .class_ 24), (0, .nameAndType 25 12), (0, u "com/example/hewristic/hewristic/model/RectangleEqualsPinLaw"), (0, u "lo"), (0, .methodref 22 27), (0, .nameAndType 28 12), (0, u "hi"), (0, .class_ 30), (0, u "com/example/hewristic/hewristic/model/Rectangle"), (0, .methodref 29 32), (0, .nameAndType 5 33), (0, u "(IIII)V"), (0, .methodref 29 35), (0, .nameAndType 36 37), (0, u "equals"), (0, u "(Ljava/lang/Object;)Z"), (0, .methodref 16 39), (0, .nameAndType 40 41), (0, u "valueOf"), (0, u "(I)Ljava/lang/Integer;"), (3, u "law"), (0, u "(IIIIII)Z")] 2

def k1m0 : Method := { name := "<init>", desc := "()V", sig := { parameters := [], returnType := none }, accessFlags := 1, code := none }
def k1c1 : Code := { maxStack := 2, maxLocals := 2, code := method_2_code, exceptionTable := #[], attributes := #[] }
def k1m1 : Method := { name := "lo", desc := "(II)I", sig := { parameters := [.int, .int], returnType := some .int }, accessFlags := 10, code := some k1c1 }
def k1c2 : Code := { maxStack := 4, maxLocals := 4, code := method_3_code, exceptionTable := #[], attributes := #[] }
def k1m2 : Method := { name := "hi", desc := "(II)I", sig := { parameters := [.int, .int], returnType := some .int }, accessFlags := 10, code := some k1c2 }
def k1c3 : Code := { maxStack := 6, maxLocals := 28, code := code, exceptionTable := #[], attributes := #[] }
def k1m3 : Method := { name := "law", desc := "(IIIIII)Z", sig := { parameters := [.int, .int, .int, .int, .int, .int], returnType := some .boolean }, accessFlags := 9, code := some k1c3 }
/-- com/example/hewristic/hewristic/model/RectangleEqualsPinLaw -/
def k1 : Class := { plain "com/example/hewristic/hewristic/model/RectangleEqualsPinLaw" (some 0) with
  accessFlags := 49
  interfaces := #[]
  cf := some (fileOf pool1 22 #[] #[{ accessFlags := 1, nameIndex := 5, descriptorIndex := 6, attributes := #[] }, { accessFlags := 10, nameIndex := 25, descriptorIndex := 12, attributes := #[] }, { accessFlags := 10, nameIndex := 28, descriptorIndex := 12, attributes := #[] }, { accessFlags := 9, nameIndex := 45, descriptorIndex := 46, attributes := #[] }] 49 2 #[] #[])
  fields := #[]
  methods := #[k1m0, k1m1, k1m2, k1m3]
  instanceTypes := #[]
  staticTypes := #[]
  resolved := Array.replicate 49 none
  statics := none }

def pool2 : Array CpInfo := pool [(1, .class_ 2), (0, u "java/lang/Math"), (1, .class_ 6), (1, u "java/lang/Object"), (0, u "<init>"), (0, u "()V"), (89, .class_ 100), (1, u "java/lang/Math$RandomNumberGeneratorHolder"), (71, u "negativeZeroFloatBits"), (0, u "J"), (2, u "negativeZeroDoubleBits"), (21, u "max"), (2, u "min"), (43, u "$assertionsDisabled"), (0, u "Z"), (88, u "(II)I"), (2, u "twoToTheDoubleScaleDown"), (0, u "D"), (4, u "twoToTheDoubleScaleUp"), (9, u "E"), (3, u "PI"), (2, u "TAU"), (2, u "DEGREES_TO_RADIANS"), (0, u "RADIANS_TO_DEGREES")] 94

def k2m0 : Method := { name := "<init>", desc := "()V", sig := { parameters := [], returnType := none }, accessFlags := 2, code := none }
def k2c1 : Code := { maxStack := 2, maxLocals := 2, code := jdk_29_method_65_code, exceptionTable := #[], attributes := #[] }
def k2m1 : Method := { name := "max", desc := "(II)I", sig := { parameters := [.int, .int], returnType := some .int }, accessFlags := 9, code := some k2c1 }
def k2c2 : Code := { maxStack := 2, maxLocals := 2, code := jdk_29_method_69_code, exceptionTable := #[], attributes := #[] }
def k2m2 : Method := { name := "min", desc := "(II)I", sig := { parameters := [.int, .int], returnType := some .int }, accessFlags := 9, code := some k2c2 }
/-- java/lang/Math -/
def k2 : Class := { plain "java/lang/Math" (some 0) with
  accessFlags := 49
  interfaces := #[]
  cf := some (fileOf pool2 1 #[.nestMembers #[98]] #[{ accessFlags := 2, nameIndex := 7, descriptorIndex := 8, attributes := #[] }, { accessFlags := 9, nameIndex := 198, descriptorIndex := 335, attributes := #[] }, { accessFlags := 9, nameIndex := 201, descriptorIndex := 335, attributes := #[] }] 49 4 #[] #[{ accessFlags := 25, nameIndex := 354, descriptorIndex := 339, attributes := #[] }, { accessFlags := 25, nameIndex := 358, descriptorIndex := 339, attributes := #[] }, { accessFlags := 25, nameIndex := 361, descriptorIndex := 339, attributes := #[] }, { accessFlags := 26, nameIndex := 364, descriptorIndex := 339, attributes := #[] }, { accessFlags := 26, nameIndex := 365, descriptorIndex := 339, attributes := #[] }, { accessFlags := 26, nameIndex := 172, descriptorIndex := 173, attributes := #[] }, { accessFlags := 26, nameIndex := 176, descriptorIndex := 173, attributes := #[] }, { accessFlags := 8, nameIndex := 344, descriptorIndex := 339, attributes := #[] }, { accessFlags := 8, nameIndex := 338, descriptorIndex := 339, attributes := #[] }, { accessFlags := 4120, nameIndex := 245, descriptorIndex := 246, attributes := #[] }])
  fields := #[{ name := "E", type := .double, accessFlags := 25, slot := 0, constantValue := 0 }, { name := "PI", type := .double, accessFlags := 25, slot := 1, constantValue := 0 }, { name := "TAU", type := .double, accessFlags := 25, slot := 2, constantValue := 0 }, { name := "DEGREES_TO_RADIANS", type := .double, accessFlags := 26, slot := 3, constantValue := 0 }, { name := "RADIANS_TO_DEGREES", type := .double, accessFlags := 26, slot := 4, constantValue := 0 }, { name := "negativeZeroFloatBits", type := .long, accessFlags := 26, slot := 5, constantValue := 0 }, { name := "negativeZeroDoubleBits", type := .long, accessFlags := 26, slot := 6, constantValue := 0 }, { name := "twoToTheDoubleScaleUp", type := .double, accessFlags := 8, slot := 7, constantValue := 0 }, { name := "twoToTheDoubleScaleDown", type := .double, accessFlags := 8, slot := 8, constantValue := 0 }, { name := "$assertionsDisabled", type := .boolean, accessFlags := 4120, slot := 9, constantValue := 0 }]
  methods := #[k2m0, k2m1, k2m2]
  instanceTypes := #[]
  staticTypes := #[.double, .double, .double, .double, .double, .long, .long, .double, .double, .boolean]
  resolved := Array.replicate 460 none
  statics := none }

def pool3 : Array CpInfo := pool [(1, .methodref 2 3), (0, .class_ 4), (0, .nameAndType 5 6), (0, u "java/lang/Object"), (0, u "<init>"), (0, u "()V"), (3, .class_ 12), (1, u "com/example/hewristic/hewristic/model/Rectangle"), (4, .long 2147483647), (3, .fieldref 10 22), (0, .nameAndType 23 24), (0, u "left"), (0, u "I"), (0, .fieldref 10 26), (0, .nameAndType 27 24), (0, u "top"), (0, .fieldref 10 29), (0, .nameAndType 30 24), (0, u "right"), (0, .fieldref 10 32), (0, .nameAndType 33 24), (0, u "bottom"), (25, u "(IIII)V"), (30, u "equals"), (0, u "(Ljava/lang/Object;)Z")] 22

def k3c0 : Code := { maxStack := 5, maxLocals := 5, code := prog_9_method_1_code, exceptionTable := #[], attributes := #[] }
def k3m0 : Method := { name := "<init>", desc := "(IIII)V", sig := { parameters := [.int, .int, .int, .int], returnType := none }, accessFlags := 1, code := some k3c0 }
def k3c1 : Code := { maxStack := 2, maxLocals := 3, code := prog_9_method_15_code, exceptionTable := #[], attributes := #[] }
def k3m1 : Method := { name := "equals", desc := "(Ljava/lang/Object;)Z", sig := { parameters := [(.object "java/lang/Object")], returnType := some .boolean }, accessFlags := 1, code := some k3c1 }
/-- com/example/hewristic/hewristic/model/Rectangle -/
def k3 : Class := { plain "com/example/hewristic/hewristic/model/Rectangle" (some 0) with
  accessFlags := 49
  interfaces := #[]
  cf := some (fileOf pool3 10 #[] #[{ accessFlags := 1, nameIndex := 5, descriptorIndex := 59, attributes := #[] }, { accessFlags := 1, nameIndex := 90, descriptorIndex := 91, attributes := #[] }] 49 2 #[] #[{ accessFlags := 18, nameIndex := 23, descriptorIndex := 24, attributes := #[] }, { accessFlags := 18, nameIndex := 27, descriptorIndex := 24, attributes := #[] }, { accessFlags := 18, nameIndex := 30, descriptorIndex := 24, attributes := #[] }, { accessFlags := 18, nameIndex := 33, descriptorIndex := 24, attributes := #[] }])
  fields := #[{ name := "left", type := .int, accessFlags := 18, slot := 0, constantValue := 0 }, { name := "top", type := .int, accessFlags := 18, slot := 1, constantValue := 0 }, { name := "right", type := .int, accessFlags := 18, slot := 2, constantValue := 0 }, { name := "bottom", type := .int, accessFlags := 18, slot := 3, constantValue := 0 }]
  methods := #[k3m0, k3m1]
  instanceTypes := #[.int, .int, .int, .int]
  staticTypes := #[]
  resolved := Array.replicate 114 none
  statics := none }

def pool4 : Array CpInfo := pool [(1, .class_ 2), (0, u "java/io/Serializable"), (0, .class_ 4), (0, u "java/lang/Object")] 2

/-- java/io/Serializable -/
def k4 : Class := { plain "java/io/Serializable" (some 0) with
  accessFlags := 1537
  interfaces := #[]
  cf := some (fileOf pool4 1 #[] #[] 1537 3 #[] #[])
  fields := #[]
  methods := #[]
  instanceTypes := #[]
  staticTypes := #[]
  resolved := Array.replicate 7 none
  statics := none }

def pool5 : Array CpInfo := pool [(1, .methodref 2 3), (0, .class_ 4), (0, .nameAndType 5 6), (0, u "java/lang/Object"), (0, u "<init>"), (0, u "()V"), (1, .class_ 10), (1, u "java/lang/Number"), (2, .class_ 14), (0, u "java/io/Serializable"), (0, u "serialVersionUID"), (0, u "J")] 20

def k5c0 : Code := { maxStack := 1, maxLocals := 1, code := jdk_18_method_1_code, exceptionTable := #[], attributes := #[] }
def k5m0 : Method := { name := "<init>", desc := "()V", sig := { parameters := [], returnType := none }, accessFlags := 1, code := some k5c0 }
/-- java/lang/Number -/
def k5 : Class := { plain "java/lang/Number" (some 0) with
  accessFlags := 1057
  interfaces := #[4]
  cf := some (fileOf pool5 8 #[] #[{ accessFlags := 1, nameIndex := 5, descriptorIndex := 6, attributes := #[] }] 1057 2 #[13] #[{ accessFlags := 26, nameIndex := 15, descriptorIndex := 16, attributes := #[] }])
  fields := #[{ name := "serialVersionUID", type := .long, accessFlags := 26, slot := 0, constantValue := 0 }]
  methods := #[k5m0]
  instanceTypes := #[]
  staticTypes := #[.long]
  resolved := Array.replicate 37 none
  statics := none }

def pool6 : Array CpInfo := pool [(1, .class_ 2), (0, u "java/lang/Comparable"), (0, .class_ 4), (0, u "java/lang/Object")] 7

/-- java/lang/Comparable -/
def k6 : Class := { plain "java/lang/Comparable" (some 0) with
  accessFlags := 1537
  interfaces := #[]
  cf := some (fileOf pool6 1 #[] #[] 1537 3 #[] #[])
  fields := #[]
  methods := #[]
  instanceTypes := #[]
  staticTypes := #[]
  resolved := Array.replicate 12 none
  statics := none }

def pool7 : Array CpInfo := pool [(1, .class_ 2), (0, u "java/lang/constant/Constable"), (0, .class_ 4), (0, u "java/lang/Object")] 6

/-- java/lang/constant/Constable -/
def k7 : Class := { plain "java/lang/constant/Constable" (some 0) with
  accessFlags := 1537
  interfaces := #[]
  cf := some (fileOf pool7 1 #[] #[] 1537 3 #[] #[])
  fields := #[]
  methods := #[]
  instanceTypes := #[]
  staticTypes := #[]
  resolved := Array.replicate 11 none
  statics := none }

def pool8 : Array CpInfo := pool [(1, .class_ 2), (0, u "java/lang/constant/ConstantDesc"), (0, .class_ 4), (0, u "java/lang/Object")] 32

/-- java/lang/constant/ConstantDesc -/
def k8 : Class := { plain "java/lang/constant/ConstantDesc" (some 0) with
  accessFlags := 1537
  interfaces := #[]
  cf := some (fileOf pool8 1 #[] #[] 1537 3 #[] #[])
  fields := #[]
  methods := #[]
  instanceTypes := #[]
  staticTypes := #[]
  resolved := Array.replicate 37 none
  statics := none }

def pool9 : Array CpInfo := pool [(1, .class_ 2), (0, u "java/lang/Integer"), (16, u "digits"), (0, u "[C"), (46, u "<init>"), (17, u "DigitOnes"), (0, u "[B"), (2, u "DigitTens"), (10, .nameAndType 67 101), (0, u "()V"), (85, u "valueOf"), (0, u "(I)Ljava/lang/Integer;"), (0, .class_ 190), (0, u "java/lang/Integer$IntegerCache"), (0, .fieldref 189 192), (0, .nameAndType 193 194), (0, u "high"), (0, u "I"), (0, .fieldref 189 196), (0, .nameAndType 197 198), (0, u "cache"), (0, u "[Ljava/lang/Integer;"), (0, .methodref 1 200), (0, .nameAndType 67 201), (0, u "(I)V"), (0, .methodref 203 100), (0, .class_ 204), (0, u "java/lang/Number"), (0, .fieldref 1 206), (0, .nameAndType 207 194), (0, u "value"), (94, u "TYPE"), (0, u "Ljava/lang/Class;"), (0, .class_ 305), (0, u "java/lang/Comparable"), (0, .class_ 307), (0, u "java/lang/constant/Constable"), (0, .class_ 309), (0, u "java/lang/constant/ConstantDesc"), (0, u "MIN_VALUE"), (1, u "MAX_VALUE"), (3, u "SIZE"), (1, u "BYTES"), (1, u "serialVersionUID"), (0, u "J")] 131

def k9c0 : Code := { maxStack := 3, maxLocals := 1, code := jdk_33_method_22_code, exceptionTable := #[], attributes := #[] }
def k9m0 : Method := { name := "valueOf", desc := "(I)Ljava/lang/Integer;", sig := { parameters := [.int], returnType := some (.object "java/lang/Integer") }, accessFlags := 9, code := some k9c0 }
def k9c1 : Code := { maxStack := 2, maxLocals := 2, code := jdk_33_method_23_code, exceptionTable := #[], attributes := #[] }
def k9m1 : Method := { name := "<init>", desc := "(I)V", sig := { parameters := [.int], returnType := none }, accessFlags := 1, code := some k9c1 }
/-- java/lang/Integer -/
def k9 : Class := { plain "java/lang/Integer" (some 5) with
  accessFlags := 49
  interfaces := #[6, 7, 8]
  cf := some (fileOf pool9 1 #[.nestMembers #[189]] #[{ accessFlags := 9, nameIndex := 187, descriptorIndex := 188, attributes := #[] }, { accessFlags := 1, nameIndex := 67, descriptorIndex := 201, attributes := #[] }] 49 203 #[304, 306, 308] #[{ accessFlags := 25, nameIndex := 310, descriptorIndex := 194, attributes := #[] }, { accessFlags := 25, nameIndex := 312, descriptorIndex := 194, attributes := #[] }, { accessFlags := 25, nameIndex := 302, descriptorIndex := 303, attributes := #[] }, { accessFlags := 24, nameIndex := 19, descriptorIndex := 20, attributes := #[] }, { accessFlags := 24, nameIndex := 89, descriptorIndex := 86, attributes := #[] }, { accessFlags := 24, nameIndex := 85, descriptorIndex := 86, attributes := #[] }, { accessFlags := 18, nameIndex := 207, descriptorIndex := 194, attributes := #[] }, { accessFlags := 25, nameIndex := 316, descriptorIndex := 194, attributes := #[] }, { accessFlags := 25, nameIndex := 318, descriptorIndex := 194, attributes := #[] }, { accessFlags := 26, nameIndex := 320, descriptorIndex := 321, attributes := #[] }])
  fields := #[{ name := "MIN_VALUE", type := .int, accessFlags := 25, slot := 0, constantValue := 0 }, { name := "MAX_VALUE", type := .int, accessFlags := 25, slot := 1, constantValue := 0 }, { name := "TYPE", type := (.object "java/lang/Class"), accessFlags := 25, slot := 2, constantValue := 0 }, { name := "digits", type := (.array .char), accessFlags := 24, slot := 3, constantValue := 0 }, { name := "DigitTens", type := (.array .byte), accessFlags := 24, slot := 4, constantValue := 0 }, { name := "DigitOnes", type := (.array .byte), accessFlags := 24, slot := 5, constantValue := 0 }, { name := "value", type := .int, accessFlags := 18, slot := 0, constantValue := 0 }, { name := "SIZE", type := .int, accessFlags := 25, slot := 6, constantValue := 0 }, { name := "BYTES", type := .int, accessFlags := 25, slot := 7, constantValue := 0 }, { name := "serialVersionUID", type := .long, accessFlags := 26, slot := 8, constantValue := 0 }]
  methods := #[k9m0, k9m1]
  instanceTypes := #[.int]
  staticTypes := #[.int, .int, (.object "java/lang/Class"), (.array .char), (.array .byte), (.array .byte), .int, .int, .long]
  resolved := Array.replicate 453 none
  statics := none }

def pool10 : Array CpInfo := pool [(2, .class_ 4), (1, u "java/lang/Object"), (0, u "<init>"), (0, u "()V"), (0, .class_ 8), (0, u "java/lang/Integer"), (7, .class_ 18), (1, u "java/lang/Integer$IntegerCache"), (0, u "$assertionsDisabled"), (0, u "Z"), (26, u "high"), (0, u "I"), (8, u "archivedCache"), (0, u "[Ljava/lang/Integer;"), (12, u "cache"), (0, u "low")] 27

def k10m0 : Method := { name := "<init>", desc := "()V", sig := { parameters := [], returnType := none }, accessFlags := 2, code := none }
/-- java/lang/Integer$IntegerCache -/
def k10 : Class := { plain "java/lang/Integer$IntegerCache" (some 0) with
  accessFlags := 48
  interfaces := #[]
  cf := some (fileOf pool10 16 #[.nestHost 7] #[{ accessFlags := 2, nameIndex := 5, descriptorIndex := 6, attributes := #[] }] 48 2 #[] #[{ accessFlags := 24, nameIndex := 72, descriptorIndex := 48, attributes := #[] }, { accessFlags := 24, nameIndex := 47, descriptorIndex := 48, attributes := #[] }, { accessFlags := 24, nameIndex := 71, descriptorIndex := 58, attributes := #[] }, { accessFlags := 8, nameIndex := 57, descriptorIndex := 58, attributes := #[] }, { accessFlags := 4120, nameIndex := 19, descriptorIndex := 20, attributes := #[] }])
  fields := #[{ name := "low", type := .int, accessFlags := 24, slot := 0, constantValue := 0 }, { name := "high", type := .int, accessFlags := 24, slot := 1, constantValue := 0 }, { name := "cache", type := (.array (.object "java/lang/Integer")), accessFlags := 24, slot := 2, constantValue := 0 }, { name := "archivedCache", type := (.array (.object "java/lang/Integer")), accessFlags := 8, slot := 3, constantValue := 0 }, { name := "$assertionsDisabled", type := .boolean, accessFlags := 4120, slot := 4, constantValue := 0 }]
  methods := #[k10m0]
  instanceTypes := #[]
  staticTypes := #[.int, .int, (.array (.object "java/lang/Integer")), (.array (.object "java/lang/Integer")), .boolean]
  resolved := Array.replicate 100 none
  statics := some 0 }

def pool11 : Array CpInfo := pool [(1, u "java/lang/Cloneable"), (0, .class_ 1), (0, u "java/lang/Object"), (0, .class_ 3)] 3

/-- java/lang/Cloneable -/
def k11 : Class := { plain "java/lang/Cloneable" (some 0) with
  accessFlags := 1537
  interfaces := #[]
  cf := some (fileOf pool11 2 #[] #[] 1537 4 #[] #[])
  fields := #[]
  methods := #[]
  instanceTypes := #[]
  staticTypes := #[]
  resolved := Array.replicate 8 none
  statics := none }

/-- the primitive byte -/
def k12 : Class := { plain "byte" none with kind := .primitive 'B', accessFlags := 0x411 }
/-- [B -/
def k13 : Class := { plain "[B" (some 0) with kind := .array 12 .byte, interfaces := #[11, 4], accessFlags := 1041 }

/-- the primitive int -/
def k14 : Class := { plain "int" none with kind := .primitive 'I', accessFlags := 0x411 }
/-- [I -/
def k15 : Class := { plain "[I" (some 0) with kind := .array 14 .int, interfaces := #[11, 4], accessFlags := 1041 }

/-- [Ljava/lang/Integer; -/
def k16 : Class := { plain "[Ljava/lang/Integer;" (some 0) with kind := .array 9 (.object "java/lang/Integer"), interfaces := #[11, 4], accessFlags := 1041 }

def heap : Heap := #[{ cls := 10, slots := #[.int 0, .int 127, .ref 1, .null, .int 0], vm := .statics 10 },
  { cls := 16, slots := #[.ref 2, .ref 3, .ref 4, .ref 5, .ref 6, .ref 7, .ref 8, .ref 9, .ref 10, .ref 11, .ref 12, .ref 13, .ref 14, .ref 15, .ref 16, .ref 17, .ref 18, .ref 19, .ref 20, .ref 21, .ref 22, .ref 23, .ref 24, .ref 25, .ref 26, .ref 27, .ref 28, .ref 29, .ref 30, .ref 31, .ref 32, .ref 33, .ref 34, .ref 35, .ref 36, .ref 37, .ref 38, .ref 39, .ref 40, .ref 41, .ref 42, .ref 43, .ref 44, .ref 45, .ref 46, .ref 47, .ref 48, .ref 49, .ref 50, .ref 51, .ref 52, .ref 53, .ref 54, .ref 55, .ref 56, .ref 57, .ref 58, .ref 59, .ref 60, .ref 61, .ref 62, .ref 63, .ref 64, .ref 65, .ref 66, .ref 67, .ref 68, .ref 69, .ref 70, .ref 71, .ref 72, .ref 73, .ref 74, .ref 75, .ref 76, .ref 77, .ref 78, .ref 79, .ref 80, .ref 81, .ref 82, .ref 83, .ref 84, .ref 85, .ref 86, .ref 87, .ref 88, .ref 89, .ref 90, .ref 91, .ref 92, .ref 93, .ref 94, .ref 95, .ref 96, .ref 97, .ref 98, .ref 99, .ref 100, .ref 101, .ref 102, .ref 103, .ref 104, .ref 105, .ref 106, .ref 107, .ref 108, .ref 109, .ref 110, .ref 111, .ref 112, .ref 113, .ref 114, .ref 115, .ref 116, .ref 117, .ref 118, .ref 119, .ref 120, .ref 121, .ref 122, .ref 123, .ref 124, .ref 125, .ref 126, .ref 127, .ref 128, .ref 129, .ref 130, .ref 131, .ref 132, .ref 133, .ref 134, .ref 135, .ref 136, .ref 137, .ref 138, .ref 139, .ref 140, .ref 141, .ref 142, .ref 143, .ref 144, .ref 145, .ref 146, .ref 147, .ref 148, .ref 149, .ref 150, .ref 151, .ref 152, .ref 153, .ref 154, .ref 155, .ref 156, .ref 157, .ref 158, .ref 159, .ref 160, .ref 161, .ref 162, .ref 163, .ref 164, .ref 165, .ref 166, .ref 167, .ref 168, .ref 169, .ref 170, .ref 171, .ref 172, .ref 173, .ref 174, .ref 175, .ref 176, .ref 177, .ref 178, .ref 179, .ref 180, .ref 181, .ref 182, .ref 183, .ref 184, .ref 185, .ref 186, .ref 187, .ref 188, .ref 189, .ref 190, .ref 191, .ref 192, .ref 193, .ref 194, .ref 195, .ref 196, .ref 197, .ref 198, .ref 199, .ref 200, .ref 201, .ref 202, .ref 203, .ref 204, .ref 205, .ref 206, .ref 207, .ref 208, .ref 209, .ref 210, .ref 211, .ref 212, .ref 213, .ref 214, .ref 215, .ref 216, .ref 217, .ref 218, .ref 219, .ref 220, .ref 221, .ref 222, .ref 223, .ref 224, .ref 225, .ref 226, .ref 227, .ref 228, .ref 229, .ref 230, .ref 231, .ref 232, .ref 233, .ref 234, .ref 235, .ref 236, .ref 237, .ref 238, .ref 239, .ref 240, .ref 241, .ref 242, .ref 243, .ref 244, .ref 245, .ref 246, .ref 247, .ref 248, .ref 249, .ref 250, .ref 251, .ref 252, .ref 253, .ref 254, .ref 255, .ref 256, .ref 257], vm := .none },
  { cls := 9, slots := #[.int (-128)], vm := .none },
  { cls := 9, slots := #[.int (-127)], vm := .none },
  { cls := 9, slots := #[.int (-126)], vm := .none },
  { cls := 9, slots := #[.int (-125)], vm := .none },
  { cls := 9, slots := #[.int (-124)], vm := .none },
  { cls := 9, slots := #[.int (-123)], vm := .none },
  { cls := 9, slots := #[.int (-122)], vm := .none },
  { cls := 9, slots := #[.int (-121)], vm := .none },
  { cls := 9, slots := #[.int (-120)], vm := .none },
  { cls := 9, slots := #[.int (-119)], vm := .none },
  { cls := 9, slots := #[.int (-118)], vm := .none },
  { cls := 9, slots := #[.int (-117)], vm := .none },
  { cls := 9, slots := #[.int (-116)], vm := .none },
  { cls := 9, slots := #[.int (-115)], vm := .none },
  { cls := 9, slots := #[.int (-114)], vm := .none },
  { cls := 9, slots := #[.int (-113)], vm := .none },
  { cls := 9, slots := #[.int (-112)], vm := .none },
  { cls := 9, slots := #[.int (-111)], vm := .none },
  { cls := 9, slots := #[.int (-110)], vm := .none },
  { cls := 9, slots := #[.int (-109)], vm := .none },
  { cls := 9, slots := #[.int (-108)], vm := .none },
  { cls := 9, slots := #[.int (-107)], vm := .none },
  { cls := 9, slots := #[.int (-106)], vm := .none },
  { cls := 9, slots := #[.int (-105)], vm := .none },
  { cls := 9, slots := #[.int (-104)], vm := .none },
  { cls := 9, slots := #[.int (-103)], vm := .none },
  { cls := 9, slots := #[.int (-102)], vm := .none },
  { cls := 9, slots := #[.int (-101)], vm := .none },
  { cls := 9, slots := #[.int (-100)], vm := .none },
  { cls := 9, slots := #[.int (-99)], vm := .none },
  { cls := 9, slots := #[.int (-98)], vm := .none },
  { cls := 9, slots := #[.int (-97)], vm := .none },
  { cls := 9, slots := #[.int (-96)], vm := .none },
  { cls := 9, slots := #[.int (-95)], vm := .none },
  { cls := 9, slots := #[.int (-94)], vm := .none },
  { cls := 9, slots := #[.int (-93)], vm := .none },
  { cls := 9, slots := #[.int (-92)], vm := .none },
  { cls := 9, slots := #[.int (-91)], vm := .none },
  { cls := 9, slots := #[.int (-90)], vm := .none },
  { cls := 9, slots := #[.int (-89)], vm := .none },
  { cls := 9, slots := #[.int (-88)], vm := .none },
  { cls := 9, slots := #[.int (-87)], vm := .none },
  { cls := 9, slots := #[.int (-86)], vm := .none },
  { cls := 9, slots := #[.int (-85)], vm := .none },
  { cls := 9, slots := #[.int (-84)], vm := .none },
  { cls := 9, slots := #[.int (-83)], vm := .none },
  { cls := 9, slots := #[.int (-82)], vm := .none },
  { cls := 9, slots := #[.int (-81)], vm := .none },
  { cls := 9, slots := #[.int (-80)], vm := .none },
  { cls := 9, slots := #[.int (-79)], vm := .none },
  { cls := 9, slots := #[.int (-78)], vm := .none },
  { cls := 9, slots := #[.int (-77)], vm := .none },
  { cls := 9, slots := #[.int (-76)], vm := .none },
  { cls := 9, slots := #[.int (-75)], vm := .none },
  { cls := 9, slots := #[.int (-74)], vm := .none },
  { cls := 9, slots := #[.int (-73)], vm := .none },
  { cls := 9, slots := #[.int (-72)], vm := .none },
  { cls := 9, slots := #[.int (-71)], vm := .none },
  { cls := 9, slots := #[.int (-70)], vm := .none },
  { cls := 9, slots := #[.int (-69)], vm := .none },
  { cls := 9, slots := #[.int (-68)], vm := .none },
  { cls := 9, slots := #[.int (-67)], vm := .none },
  { cls := 9, slots := #[.int (-66)], vm := .none },
  { cls := 9, slots := #[.int (-65)], vm := .none },
  { cls := 9, slots := #[.int (-64)], vm := .none },
  { cls := 9, slots := #[.int (-63)], vm := .none },
  { cls := 9, slots := #[.int (-62)], vm := .none },
  { cls := 9, slots := #[.int (-61)], vm := .none },
  { cls := 9, slots := #[.int (-60)], vm := .none },
  { cls := 9, slots := #[.int (-59)], vm := .none },
  { cls := 9, slots := #[.int (-58)], vm := .none },
  { cls := 9, slots := #[.int (-57)], vm := .none },
  { cls := 9, slots := #[.int (-56)], vm := .none },
  { cls := 9, slots := #[.int (-55)], vm := .none },
  { cls := 9, slots := #[.int (-54)], vm := .none },
  { cls := 9, slots := #[.int (-53)], vm := .none },
  { cls := 9, slots := #[.int (-52)], vm := .none },
  { cls := 9, slots := #[.int (-51)], vm := .none },
  { cls := 9, slots := #[.int (-50)], vm := .none },
  { cls := 9, slots := #[.int (-49)], vm := .none },
  { cls := 9, slots := #[.int (-48)], vm := .none },
  { cls := 9, slots := #[.int (-47)], vm := .none },
  { cls := 9, slots := #[.int (-46)], vm := .none },
  { cls := 9, slots := #[.int (-45)], vm := .none },
  { cls := 9, slots := #[.int (-44)], vm := .none },
  { cls := 9, slots := #[.int (-43)], vm := .none },
  { cls := 9, slots := #[.int (-42)], vm := .none },
  { cls := 9, slots := #[.int (-41)], vm := .none },
  { cls := 9, slots := #[.int (-40)], vm := .none },
  { cls := 9, slots := #[.int (-39)], vm := .none },
  { cls := 9, slots := #[.int (-38)], vm := .none },
  { cls := 9, slots := #[.int (-37)], vm := .none },
  { cls := 9, slots := #[.int (-36)], vm := .none },
  { cls := 9, slots := #[.int (-35)], vm := .none },
  { cls := 9, slots := #[.int (-34)], vm := .none },
  { cls := 9, slots := #[.int (-33)], vm := .none },
  { cls := 9, slots := #[.int (-32)], vm := .none },
  { cls := 9, slots := #[.int (-31)], vm := .none },
  { cls := 9, slots := #[.int (-30)], vm := .none },
  { cls := 9, slots := #[.int (-29)], vm := .none },
  { cls := 9, slots := #[.int (-28)], vm := .none },
  { cls := 9, slots := #[.int (-27)], vm := .none },
  { cls := 9, slots := #[.int (-26)], vm := .none },
  { cls := 9, slots := #[.int (-25)], vm := .none },
  { cls := 9, slots := #[.int (-24)], vm := .none },
  { cls := 9, slots := #[.int (-23)], vm := .none },
  { cls := 9, slots := #[.int (-22)], vm := .none },
  { cls := 9, slots := #[.int (-21)], vm := .none },
  { cls := 9, slots := #[.int (-20)], vm := .none },
  { cls := 9, slots := #[.int (-19)], vm := .none },
  { cls := 9, slots := #[.int (-18)], vm := .none },
  { cls := 9, slots := #[.int (-17)], vm := .none },
  { cls := 9, slots := #[.int (-16)], vm := .none },
  { cls := 9, slots := #[.int (-15)], vm := .none },
  { cls := 9, slots := #[.int (-14)], vm := .none },
  { cls := 9, slots := #[.int (-13)], vm := .none },
  { cls := 9, slots := #[.int (-12)], vm := .none },
  { cls := 9, slots := #[.int (-11)], vm := .none },
  { cls := 9, slots := #[.int (-10)], vm := .none },
  { cls := 9, slots := #[.int (-9)], vm := .none },
  { cls := 9, slots := #[.int (-8)], vm := .none },
  { cls := 9, slots := #[.int (-7)], vm := .none },
  { cls := 9, slots := #[.int (-6)], vm := .none },
  { cls := 9, slots := #[.int (-5)], vm := .none },
  { cls := 9, slots := #[.int (-4)], vm := .none },
  { cls := 9, slots := #[.int (-3)], vm := .none },
  { cls := 9, slots := #[.int (-2)], vm := .none },
  { cls := 9, slots := #[.int (-1)], vm := .none },
  { cls := 9, slots := #[.int 0], vm := .none },
  { cls := 9, slots := #[.int 1], vm := .none },
  { cls := 9, slots := #[.int 2], vm := .none },
  { cls := 9, slots := #[.int 3], vm := .none },
  { cls := 9, slots := #[.int 4], vm := .none },
  { cls := 9, slots := #[.int 5], vm := .none },
  { cls := 9, slots := #[.int 6], vm := .none },
  { cls := 9, slots := #[.int 7], vm := .none },
  { cls := 9, slots := #[.int 8], vm := .none },
  { cls := 9, slots := #[.int 9], vm := .none },
  { cls := 9, slots := #[.int 10], vm := .none },
  { cls := 9, slots := #[.int 11], vm := .none },
  { cls := 9, slots := #[.int 12], vm := .none },
  { cls := 9, slots := #[.int 13], vm := .none },
  { cls := 9, slots := #[.int 14], vm := .none },
  { cls := 9, slots := #[.int 15], vm := .none },
  { cls := 9, slots := #[.int 16], vm := .none },
  { cls := 9, slots := #[.int 17], vm := .none },
  { cls := 9, slots := #[.int 18], vm := .none },
  { cls := 9, slots := #[.int 19], vm := .none },
  { cls := 9, slots := #[.int 20], vm := .none },
  { cls := 9, slots := #[.int 21], vm := .none },
  { cls := 9, slots := #[.int 22], vm := .none },
  { cls := 9, slots := #[.int 23], vm := .none },
  { cls := 9, slots := #[.int 24], vm := .none },
  { cls := 9, slots := #[.int 25], vm := .none },
  { cls := 9, slots := #[.int 26], vm := .none },
  { cls := 9, slots := #[.int 27], vm := .none },
  { cls := 9, slots := #[.int 28], vm := .none },
  { cls := 9, slots := #[.int 29], vm := .none },
  { cls := 9, slots := #[.int 30], vm := .none },
  { cls := 9, slots := #[.int 31], vm := .none },
  { cls := 9, slots := #[.int 32], vm := .none },
  { cls := 9, slots := #[.int 33], vm := .none },
  { cls := 9, slots := #[.int 34], vm := .none },
  { cls := 9, slots := #[.int 35], vm := .none },
  { cls := 9, slots := #[.int 36], vm := .none },
  { cls := 9, slots := #[.int 37], vm := .none },
  { cls := 9, slots := #[.int 38], vm := .none },
  { cls := 9, slots := #[.int 39], vm := .none },
  { cls := 9, slots := #[.int 40], vm := .none },
  { cls := 9, slots := #[.int 41], vm := .none },
  { cls := 9, slots := #[.int 42], vm := .none },
  { cls := 9, slots := #[.int 43], vm := .none },
  { cls := 9, slots := #[.int 44], vm := .none },
  { cls := 9, slots := #[.int 45], vm := .none },
  { cls := 9, slots := #[.int 46], vm := .none },
  { cls := 9, slots := #[.int 47], vm := .none },
  { cls := 9, slots := #[.int 48], vm := .none },
  { cls := 9, slots := #[.int 49], vm := .none },
  { cls := 9, slots := #[.int 50], vm := .none },
  { cls := 9, slots := #[.int 51], vm := .none },
  { cls := 9, slots := #[.int 52], vm := .none },
  { cls := 9, slots := #[.int 53], vm := .none },
  { cls := 9, slots := #[.int 54], vm := .none },
  { cls := 9, slots := #[.int 55], vm := .none },
  { cls := 9, slots := #[.int 56], vm := .none },
  { cls := 9, slots := #[.int 57], vm := .none },
  { cls := 9, slots := #[.int 58], vm := .none },
  { cls := 9, slots := #[.int 59], vm := .none },
  { cls := 9, slots := #[.int 60], vm := .none },
  { cls := 9, slots := #[.int 61], vm := .none },
  { cls := 9, slots := #[.int 62], vm := .none },
  { cls := 9, slots := #[.int 63], vm := .none },
  { cls := 9, slots := #[.int 64], vm := .none },
  { cls := 9, slots := #[.int 65], vm := .none },
  { cls := 9, slots := #[.int 66], vm := .none },
  { cls := 9, slots := #[.int 67], vm := .none },
  { cls := 9, slots := #[.int 68], vm := .none },
  { cls := 9, slots := #[.int 69], vm := .none },
  { cls := 9, slots := #[.int 70], vm := .none },
  { cls := 9, slots := #[.int 71], vm := .none },
  { cls := 9, slots := #[.int 72], vm := .none },
  { cls := 9, slots := #[.int 73], vm := .none },
  { cls := 9, slots := #[.int 74], vm := .none },
  { cls := 9, slots := #[.int 75], vm := .none },
  { cls := 9, slots := #[.int 76], vm := .none },
  { cls := 9, slots := #[.int 77], vm := .none },
  { cls := 9, slots := #[.int 78], vm := .none },
  { cls := 9, slots := #[.int 79], vm := .none },
  { cls := 9, slots := #[.int 80], vm := .none },
  { cls := 9, slots := #[.int 81], vm := .none },
  { cls := 9, slots := #[.int 82], vm := .none },
  { cls := 9, slots := #[.int 83], vm := .none },
  { cls := 9, slots := #[.int 84], vm := .none },
  { cls := 9, slots := #[.int 85], vm := .none },
  { cls := 9, slots := #[.int 86], vm := .none },
  { cls := 9, slots := #[.int 87], vm := .none },
  { cls := 9, slots := #[.int 88], vm := .none },
  { cls := 9, slots := #[.int 89], vm := .none },
  { cls := 9, slots := #[.int 90], vm := .none },
  { cls := 9, slots := #[.int 91], vm := .none },
  { cls := 9, slots := #[.int 92], vm := .none },
  { cls := 9, slots := #[.int 93], vm := .none },
  { cls := 9, slots := #[.int 94], vm := .none },
  { cls := 9, slots := #[.int 95], vm := .none },
  { cls := 9, slots := #[.int 96], vm := .none },
  { cls := 9, slots := #[.int 97], vm := .none },
  { cls := 9, slots := #[.int 98], vm := .none },
  { cls := 9, slots := #[.int 99], vm := .none },
  { cls := 9, slots := #[.int 100], vm := .none },
  { cls := 9, slots := #[.int 101], vm := .none },
  { cls := 9, slots := #[.int 102], vm := .none },
  { cls := 9, slots := #[.int 103], vm := .none },
  { cls := 9, slots := #[.int 104], vm := .none },
  { cls := 9, slots := #[.int 105], vm := .none },
  { cls := 9, slots := #[.int 106], vm := .none },
  { cls := 9, slots := #[.int 107], vm := .none },
  { cls := 9, slots := #[.int 108], vm := .none },
  { cls := 9, slots := #[.int 109], vm := .none },
  { cls := 9, slots := #[.int 110], vm := .none },
  { cls := 9, slots := #[.int 111], vm := .none },
  { cls := 9, slots := #[.int 112], vm := .none },
  { cls := 9, slots := #[.int 113], vm := .none },
  { cls := 9, slots := #[.int 114], vm := .none },
  { cls := 9, slots := #[.int 115], vm := .none },
  { cls := 9, slots := #[.int 116], vm := .none },
  { cls := 9, slots := #[.int 117], vm := .none },
  { cls := 9, slots := #[.int 118], vm := .none },
  { cls := 9, slots := #[.int 119], vm := .none },
  { cls := 9, slots := #[.int 120], vm := .none },
  { cls := 9, slots := #[.int 121], vm := .none },
  { cls := 9, slots := #[.int 122], vm := .none },
  { cls := 9, slots := #[.int 123], vm := .none },
  { cls := 9, slots := #[.int 124], vm := .none },
  { cls := 9, slots := #[.int 125], vm := .none },
  { cls := 9, slots := #[.int 126], vm := .none },
  { cls := 9, slots := #[.int 127], vm := .none }]
def classes : Array Class := #[k0, k1, k2, k3, k4, k5, k6, k7, k8, k9, k10, k11, k12, k13, k14, k15, k16]
def interned : List (Array UInt16 × Addr) := []
def slotsUsed : Nat := 517
def theMethod : MethodId := ⟨1, 3⟩
def args0 : Array Value := #[.int 5, .int 300, .int 1, .int 2, .int 7, .int 9]
def aboutOver (below : List Frame) : State where
  vm := { classes := classes, interned := interned.toArray }
  heap := heap
  slotsUsed := slotsUsed
  threads := #[{ frames := .invoking theMethod args0 :: below }]
def below0 : List Frame := [.native { method := ⟨0, 0⟩, args := #[] }]
def about1 : State := aboutOver below0
def p0 : Program := .bare "" "" ""
def e0 : Env := launch0.env 0 0 0
theorem w_frames : about1.frames = Frame.invoking theMethod args0 :: below0 := rfl
set_option maxRecDepth 65536 in
theorem w_args : argsFit about1.vm theMethod args0 = true := by decide +kernel
set_option maxRecDepth 65536 in
theorem w_heap : heapFits about1 = true := by decide +kernel
set_option maxRecDepth 65536 in
theorem w_runnable : about1.curStatus? = some .runnable := by decide +kernel
set_option maxRecDepth 65536 in
theorem w_alone : about1.alone = true := by decide +kernel
set_option maxRecDepth 65536 in
theorem w_named : about1.methodNamed? x = some theMethod := by decide +kernel
set_option maxRecDepth 65536 in
theorem w_hears : about1.hears theMethod below0 = true := by decide +kernel
set_option maxRecDepth 65536 in
theorem w_ripe : about1.ripe theMethod args0 below0 = true := by decide +kernel
theorem w_running : about1.status = .running := rfl
set_option maxRecDepth 65536 in
theorem w_room : about1.hasRoom e0.platform room_1 = true :=
  launch0.hasRoom_least _ room_1 (by decide +kernel) (by decide +kernel) (by decide +kernel) (by decide +kernel) (by decide +kernel) (by decide +kernel)
theorem allAtoms_all (ts : List Jvm.Cond) (a : Array Jvm.Value) (st : Jvm.State) : (allAtoms ts).before a st = ts.all (fun c => c.before a st) := by
  induction ts with
  | nil => rfl
  | cons c t ih =>
    show (Jvm.Cond.and c (allAtoms t)).before a st = _
    rw [Jvm.Cond.before_and, ih, List.all_cons]
def words1 : List Jvm.Cond := Jvm.Cond.code x code maxLocals ret :: tables_1
/-- a 'code' word, met by the world's own term for the bytes: nothing is compared byte by byte -/
theorem code_word {y : MethodName} {bytes : ByteArray} {mx : Nat} {rt : Option FieldType} {a : Array Value} {s : State} {m : MethodId} {meth : Method} {c : Code} (h1 : s.methodNamed? y = some m) (h2 : s.vm.method? m = some meth) (h3 : meth.code = some c) (h4 : c.code = bytes)
    (h5 : (c.maxLocals == mx && c.exceptionTable.isEmpty && decide (c.maxStack ≤ mostOperands) && decide (meth.sig.returnType = rt) && !meth.locks && decide (parseMethodDescriptor y.desc = some meth.sig)) = true) : (Jvm.Cond.code y bytes mx rt).before a s = true := by
  simp only [Bool.and_eq_true, beq_iff_eq, Bool.not_eq_true', decide_eq_true_eq] at h5
  obtain ⟨⟨⟨⟨⟨g1, g2⟩, g3⟩, g4⟩, g5⟩, g6⟩ := h5
  simp [Cond.before, Cond.holds, Cond.value, h1, h2, h3, h4, g1, g2, g3, g4, g5, g6]
def isCode : Jvm.Cond → Bool
  | .code _ _ _ _ => true
  | _ => false
theorem all_split {L : List Jvm.Cond} {P : Jvm.Cond → Bool} (h1 : L.all (fun c => isCode c || P c) = true) (h2 : ∀ c ∈ L.filter isCode, P c = true) : L.all P = true := by
  refine List.all_eq_true.mpr fun c hc => ?_
  have h := List.all_eq_true.mp h1 c hc
  rcases Bool.eq_false_or_eq_true (isCode c) with hi | hi
  · exact h2 c (List.mem_filter.mpr ⟨hc, hi⟩)
  · simpa [hi] using h
set_option maxRecDepth 65536 in
theorem w_c0 : (Jvm.Cond.code x code maxLocals ret).before args0 about1 = true := code_word (m := ⟨1, 3⟩) (meth := k1m3) (c := k1c3) (by decide +kernel) rfl rfl rfl (by decide +kernel)
set_option maxRecDepth 65536 in
theorem w_c1 : (Jvm.Cond.code ({ cls := "com/example/hewristic/hewristic/model/RectangleEqualsPinLaw", name := "lo", desc := "(II)I" } : Jvm.MethodName) method_2_code (2 : Nat) (Option.some Jvm.ClassFile.FieldType.int)).before args0 about1 = true := code_word (m := ⟨1, 1⟩) (meth := k1m1) (c := k1c1) (by decide +kernel) rfl rfl rfl (by decide +kernel)
set_option maxRecDepth 65536 in
theorem w_c2 : (Jvm.Cond.code ({ cls := "java/lang/Math", name := "min", desc := "(II)I" } : Jvm.MethodName) jdk_29_method_69_code (2 : Nat) (Option.some Jvm.ClassFile.FieldType.int)).before args0 about1 = true := code_word (m := ⟨2, 2⟩) (meth := k2m2) (c := k2c2) (by decide +kernel) rfl rfl rfl (by decide +kernel)
set_option maxRecDepth 65536 in
theorem w_c3 : (Jvm.Cond.code ({ cls := "com/example/hewristic/hewristic/model/RectangleEqualsPinLaw", name := "hi", desc := "(II)I" } : Jvm.MethodName) method_3_code (4 : Nat) (Option.some Jvm.ClassFile.FieldType.int)).before args0 about1 = true := code_word (m := ⟨1, 2⟩) (meth := k1m2) (c := k1c2) (by decide +kernel) rfl rfl rfl (by decide +kernel)
set_option maxRecDepth 65536 in
theorem w_c4 : (Jvm.Cond.code ({ cls := "java/lang/Math", name := "max", desc := "(II)I" } : Jvm.MethodName) jdk_29_method_65_code (2 : Nat) (Option.some Jvm.ClassFile.FieldType.int)).before args0 about1 = true := code_word (m := ⟨2, 1⟩) (meth := k2m1) (c := k2c1) (by decide +kernel) rfl rfl rfl (by decide +kernel)
set_option maxRecDepth 65536 in
theorem w_c5 : (Jvm.Cond.code ({ cls := "com/example/hewristic/hewristic/model/Rectangle", name := "<init>", desc := "(IIII)V" } : Jvm.MethodName) prog_9_method_1_code (5 : Nat) (Option.none : Option Jvm.ClassFile.FieldType)).before args0 about1 = true := code_word (m := ⟨3, 0⟩) (meth := k3m0) (c := k3c0) (by decide +kernel) rfl rfl rfl (by decide +kernel)
set_option maxRecDepth 65536 in
theorem w_c6 : (Jvm.Cond.code ({ cls := "java/lang/Object", name := "<init>", desc := "()V" } : Jvm.MethodName) object_method_1_code (1 : Nat) (Option.none : Option Jvm.ClassFile.FieldType)).before args0 about1 = true := code_word (m := ⟨0, 0⟩) (meth := k0m0) (c := k0c0) (by decide +kernel) rfl rfl rfl (by decide +kernel)
set_option maxRecDepth 65536 in
theorem w_c7 : (Jvm.Cond.code ({ cls := "com/example/hewristic/hewristic/model/Rectangle", name := "equals", desc := "(Ljava/lang/Object;)Z" } : Jvm.MethodName) prog_9_method_15_code (3 : Nat) (Option.some Jvm.ClassFile.FieldType.boolean)).before args0 about1 = true := code_word (m := ⟨3, 1⟩) (meth := k3m1) (c := k3c1) (by decide +kernel) rfl rfl rfl (by decide +kernel)
set_option maxRecDepth 65536 in
theorem w_c8 : (Jvm.Cond.code ({ cls := "java/lang/Integer", name := "valueOf", desc := "(I)Ljava/lang/Integer;" } : Jvm.MethodName) jdk_33_method_22_code (1 : Nat) (Option.some (Jvm.ClassFile.FieldType.object "java/lang/Integer"))).before args0 about1 = true := code_word (m := ⟨9, 0⟩) (meth := k9m0) (c := k9c0) (by decide +kernel) rfl rfl rfl (by decide +kernel)
set_option maxRecDepth 65536 in
theorem w_c9 : (Jvm.Cond.code ({ cls := "java/lang/Integer", name := "<init>", desc := "(I)V" } : Jvm.MethodName) jdk_33_method_23_code (2 : Nat) (Option.none : Option Jvm.ClassFile.FieldType)).before args0 about1 = true := code_word (m := ⟨9, 1⟩) (meth := k9m1) (c := k9c1) (by decide +kernel) rfl rfl rfl (by decide +kernel)
set_option maxRecDepth 65536 in
theorem w_c10 : (Jvm.Cond.code ({ cls := "java/lang/Number", name := "<init>", desc := "()V" } : Jvm.MethodName) jdk_18_method_1_code (1 : Nat) (Option.none : Option Jvm.ClassFile.FieldType)).before args0 about1 = true := code_word (m := ⟨5, 0⟩) (meth := k5m0) (c := k5c0) (by decide +kernel) rfl rfl rfl (by decide +kernel)
def codes1 : List Jvm.Cond := [Jvm.Cond.code x code maxLocals ret, Jvm.Cond.code ({ cls := "com/example/hewristic/hewristic/model/RectangleEqualsPinLaw", name := "lo", desc := "(II)I" } : Jvm.MethodName) method_2_code (2 : Nat) (Option.some Jvm.ClassFile.FieldType.int), Jvm.Cond.code ({ cls := "java/lang/Math", name := "min", desc := "(II)I" } : Jvm.MethodName) jdk_29_method_69_code (2 : Nat) (Option.some Jvm.ClassFile.FieldType.int), Jvm.Cond.code ({ cls := "com/example/hewristic/hewristic/model/RectangleEqualsPinLaw", name := "hi", desc := "(II)I" } : Jvm.MethodName) method_3_code (4 : Nat) (Option.some Jvm.ClassFile.FieldType.int), Jvm.Cond.code ({ cls := "java/lang/Math", name := "max", desc := "(II)I" } : Jvm.MethodName) jdk_29_method_65_code (2 : Nat) (Option.some Jvm.ClassFile.FieldType.int), Jvm.Cond.code ({ cls := "com/example/hewristic/hewristic/model/Rectangle", name := "<init>", desc := "(IIII)V" } : Jvm.MethodName) prog_9_method_1_code (5 : Nat) (Option.none : Option Jvm.ClassFile.FieldType), Jvm.Cond.code ({ cls := "java/lang/Object", name := "<init>", desc := "()V" } : Jvm.MethodName) object_method_1_code (1 : Nat) (Option.none : Option Jvm.ClassFile.FieldType), Jvm.Cond.code ({ cls := "com/example/hewristic/hewristic/model/Rectangle", name := "equals", desc := "(Ljava/lang/Object;)Z" } : Jvm.MethodName) prog_9_method_15_code (3 : Nat) (Option.some Jvm.ClassFile.FieldType.boolean), Jvm.Cond.code ({ cls := "java/lang/Integer", name := "valueOf", desc := "(I)Ljava/lang/Integer;" } : Jvm.MethodName) jdk_33_method_22_code (1 : Nat) (Option.some (Jvm.ClassFile.FieldType.object "java/lang/Integer")), Jvm.Cond.code ({ cls := "java/lang/Integer", name := "<init>", desc := "(I)V" } : Jvm.MethodName) jdk_33_method_23_code (2 : Nat) (Option.none : Option Jvm.ClassFile.FieldType), Jvm.Cond.code ({ cls := "java/lang/Number", name := "<init>", desc := "()V" } : Jvm.MethodName) jdk_18_method_1_code (1 : Nat) (Option.none : Option Jvm.ClassFile.FieldType)]
set_option maxRecDepth 65536 in
theorem codes_eq : words1.filter isCode = codes1 := rfl
theorem w_codes : ∀ c ∈ words1.filter isCode, c.before args0 about1 = true := by
  rw [codes_eq]
  intro c hc
  simp only [codes1, List.mem_cons, List.not_mem_nil, or_false] at hc
  rcases hc with rfl | rfl | rfl | rfl | rfl | rfl | rfl | rfl | rfl | rfl | rfl
  · exact w_c0
  · exact w_c1
  · exact w_c2
  · exact w_c3
  · exact w_c4
  · exact w_c5
  · exact w_c6
  · exact w_c7
  · exact w_c8
  · exact w_c9
  · exact w_c10
set_option maxRecDepth 65536 in
theorem w_t1 : (words1.take 24).all (fun c => isCode c || c.before args0 about1) = true := by decide +kernel
set_option maxRecDepth 65536 in
theorem w_t2 : ((words1.drop 24).take 24).all (fun c => isCode c || c.before args0 about1) = true := by decide +kernel
set_option maxRecDepth 65536 in
theorem w_t3 : ((words1.drop 24).drop 24).all (fun c => isCode c || c.before args0 about1) = true := by decide +kernel
theorem w_tables : (allAtoms (Jvm.Cond.code x code maxLocals ret :: tables_1)).before args0 about1 = true := by
  rw [allAtoms_all]
  show words1.all (fun c => c.before args0 about1) = true
  refine all_split ?_ w_codes
  rw [← List.take_append_drop 24 words1, List.all_append, w_t1, ← List.take_append_drop 24 (words1.drop 24), List.all_append, w_t2, w_t3]
  rfl
set_option maxRecDepth 65536 in
theorem w_rest : rest_1_c.before args0 about1 = true := by decide +kernel
set_option maxRecDepth 65536 in
theorem w_case : (Jvm.Cond.and given_1 narrow_1).before args0 about1 = true := by decide +kernel
theorem w_applies : (headSpec (Jvm.Cond.code x code maxLocals ret :: tables_1) room_1).applies x e0.platform about1 = true :=
  (Spec.applies_iff w_frames).mpr ⟨w_running, w_runnable, w_alone, w_named, w_hears, w_ripe, w_room, w_tables⟩
theorem atStart : AtStart classFile x code maxLocals ret World_1 tables_1 room_1 Calls_1 rest_1 Pre_1 launch0 p0 e0 about1 theMethod args0 below0 :=
  ⟨lists_1, trivial, launch0.admits_env _ _ _, launch0.least_env, fairChoices_fair.cas, fairChoices_fair.clock, w_frames, w_args, w_heap, w_applies, trivial, w_rest, w_case⟩
end start1
theorem witness_1 : WitnessClaimed_1 := ⟨start1.p0, start1.e0, start1.about1, start1.theMethod, start1.args0, start1.below0, start1.atStart⟩
end Jvm.Pilot.@@N@@
