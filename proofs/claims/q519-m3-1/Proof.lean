import JvmDerived
import JvmDerived.Pilot.@@N@@Statement
import JvmDerived.Pilot.@@N@@Code
set_option linter.unusedVariables false
set_option linter.unusedSimpArgs false
@@BLOCK:NumsL.lean.txt@@
namespace Jvm.Pilot.@@N@@
open Jvm Jvm.ClassFile Sem Op Lib Jvm.Free Jvm.Stand Jvm.LawKit Jvm.RoadKit Bundle Jvm.Pilot.@@N@@.Jvm.D
section OwnKit
variable {p : Program} {l : Launch} {e : Env} {R : Room} {s : State} {m : MethodId} {args : Array Value} {below : List Frame} {meth : Method} {c : Code} {n0 C N : Nat} {Q : Option Value → Heap → Prop} {h : Heap} {ce sl pc q : Nat} {Ls : Array Slot} {st : List Value} {Z : State} {a0 : Array Value}
/-- the walk that stands at pc, with these locals, this stack and this heap, comes to its end as Q says -/
def Go (p : Program) (l : Launch) (e : Env) (R : Room) (s : State) (m : MethodId) (args : Array Value) (below : List Frame) (meth : Method) (c : Code) (n0 C N : Nat) (Q : Option Value → Heap → Prop) (h : Heap) (ce sl pc : Nat) (Ls : Array Slot) (st : List Value) : Prop :=
  ∀ (T : State) (locs : List Loc), Stand p l e R s m args below meth c T locs ce sl → Fr n0 locs → T.heap = h →
    ∃ (s₂ : State) (v : Option Value) (L : List Loc), Steps p.tables e below (T.setTop (mkF m pc Ls st)) s₂ ∧ s₂.status = .running ∧ Ended s₂ below (.returned v) ∧ Q v s₂.heap ∧ Fr n0 L ∧ FrameEnd s (.returned v) s₂ L C N
/-- a method's contract, at given arguments and a given heap -/
abbrev Met (l : Launch) (Z : State) (y : MethodName) (bytes : ByteArray) (maxL : Nat) (rt : Option FieldType) (ws : List Cond) (rm : Room) (as : Array Value) (h0 : Heap) (n0 : Nat) (Q : Option Value → Heap → Prop) : Prop :=
  MetFree l y (head1 (Cond.code y bytes maxL rt :: ws) rm) (fun a U => a = as ∧ Z.Warmed39 U.vm ∧ U.heap = h0) (fun _ _ _ _ _ => True) (fun _ U o U' => ∃ v L, o = .returned v ∧ (Q v U'.heap ∧ Fr n0 L) ∧ FrameEnd U o U' L rm.cells rm.slots)
theorem Met.of {y : MethodName} {bytes : ByteArray} {maxL : Nat} {rt : Option FieldType} {ws : List Cond} {rm : Room} {as : Array Value} {h0 : Heap} {Ls0 : Array Slot} (hpl : plainFor y = true) (hent : argsToLocals as maxL = Ls0)
    (body : ∀ (p : Program) (e : Env) (s : State) (m : MethodId) (below : List Frame) (meth : Method) (c : Code), p.tables.exec = Jvm.exec → c.code = bytes → c.maxLocals = maxL → meth.sig.returnType = rt → meth.locks = false → s.vm.findClass y.cls = some m.cls → meth.name = y.name → Z.Warmed39 s.vm →
      Go p l e rm s m as below meth c n0 rm.cells rm.slots Q h0 0 0 0 Ls0 []) : Met l Z y bytes maxL rt ws rm as h0 n0 Q := by
  refine MetFree.of_bodySF hpl hisR ?_
  intro p e s m args below meth c s₁ Bd hml0 hP hK
  obtain ⟨rfl, hZ, hh⟩ := hP
  have e0 : s₁.heap = h0 := by rw [← hh, Bd.state]; rfl
  obtain ⟨s₂, v, L, S, r1, r2, hq, hf, fe⟩ := body p e s m below meth c Bd.exec Bd.bytes hml0 Bd.returns Bd.notSynchronized (findClass_of_methodNamed Bd.named) (name_of_methodNamed Bd.named Bd.method).1 hZ s₁ [] (Stand.of_body Bd) (Fr.nil _) e0
  have ef : entryFrame m args maxL = mkF m 0 Ls0 [] := by simp only [entryFrame, mkF, hent]
  exact ⟨s₂, _, castTop ef S, r1, r2, v, L, rfl, ⟨hq, hf⟩, fe⟩
theorem Go.mono {ce' sl' : Nat} (hc : ce ≤ ce') (hs : sl ≤ sl') (G : Go p l e R s m args below meth c n0 C N Q h ce' sl' pc Ls st) : Go p l e R s m args below meth c n0 C N Q h ce sl pc Ls st :=
  fun T locs X Nf eT => G T locs (X.more hc hs) Nf eT
theorem Go.step {q' : Nat} {Ls' : Array Slot} {st' : List Value} (H : ∀ (T : State) (locs : List Loc) (target : State), Stand p l e R s m args below meth c T locs ce sl → T.heap = h → Steps p.tables e below (T.setTop (mkF m q' Ls' st')) target → Steps p.tables e below (T.setTop (mkF m pc Ls st)) target)
    (G : Go p l e R s m args below meth c n0 C N Q h ce sl q' Ls' st') : Go p l e R s m args below meth c n0 C N Q h ce sl pc Ls st := fun T locs X Nf eT => by
  obtain ⟨s₂, v, L, S, r⟩ := G T locs X Nf eT
  exact ⟨s₂, v, L, H T locs s₂ X eT S, r⟩
theorem Go.law {ce' sl' q' : Nat} {Ls' : Array Slot} {st' : List Value} {h' : Heap} (H : ∀ (T : State) (locs : List Loc), Stand p l e R s m args below meth c T locs ce sl → T.heap = h → ∃ T', Stand p l e R s m args below meth c T' locs ce' sl' ∧ T'.heap = h' ∧ ∀ target, Steps p.tables e below (T'.setTop (mkF m q' Ls' st')) target → Steps p.tables e below (T.setTop (mkF m pc Ls st)) target)
    (G : Go p l e R s m args below meth c n0 C N Q h' ce' sl' q' Ls' st') : Go p l e R s m args below meth c n0 C N Q h ce sl pc Ls st := fun T locs X Nf eT => by
  obtain ⟨T', X', eT', hs⟩ := H T locs X eT
  obtain ⟨s₂, v, L, S, r⟩ := G T' locs X' Nf eT'
  exact ⟨s₂, v, L, hs _ S, r⟩
theorem Go.iloadN (hx : p.tables.exec = Jvm.exec) {k : Fin 4} {v : Int32} (hd : decode c.code pc = .ok (.iload_n k, 1)) (hl : Ls[k.val]? = some (.val (.int v))) (hq : q = pc + 1) (G : Go p l e R s m args below meth c n0 C N Q h ce sl q Ls (.int v :: st)) : Go p l e R s m args below meth c n0 C N Q h ce sl pc Ls (st) := by
  subst hq
  exact Go.step (fun T locs target X _ S => XS.iloadN X.here hx rfl hd hl S) G
theorem Go.iload (hx : p.tables.exec = Jvm.exec) {k : Nat} {v : Int32} (hd : decode c.code pc = .ok (.iload k, 2)) (hl : Ls[k]? = some (.val (.int v))) (hq : q = pc + 2) (G : Go p l e R s m args below meth c n0 C N Q h ce sl q Ls (.int v :: st)) : Go p l e R s m args below meth c n0 C N Q h ce sl pc Ls (st) := by
  subst hq
  exact Go.step (fun T locs target X _ S => XS.iload X.here hx rfl hd hl S) G
theorem Go.aloadN (hx : p.tables.exec = Jvm.exec) {k : Fin 4} {v : Value} (hd : decode c.code pc = .ok (.aload_n k, 1)) (hl : Ls[k.val]? = some (.val v)) (hv : v.isRef = true) (hq : q = pc + 1) (G : Go p l e R s m args below meth c n0 C N Q h ce sl q Ls (v :: st)) : Go p l e R s m args below meth c n0 C N Q h ce sl pc Ls (st) := by
  subst hq
  exact Go.step (fun T locs target X _ S => XS.aloadN X.here hx rfl hd hl hv S) G
theorem Go.aload (hx : p.tables.exec = Jvm.exec) {k : Nat} {v : Value} (hd : decode c.code pc = .ok (.aload k, 2)) (hl : Ls[k]? = some (.val v)) (hv : v.isRef = true) (hq : q = pc + 2) (G : Go p l e R s m args below meth c n0 C N Q h ce sl q Ls (v :: st)) : Go p l e R s m args below meth c n0 C N Q h ce sl pc Ls (st) := by
  subst hq
  exact Go.step (fun T locs target X _ S => XS.aload X.here hx rfl hd hl hv S) G
theorem Go.lloadN (hx : p.tables.exec = Jvm.exec) {k : Fin 4} {v : Int64} (hd : decode c.code pc = .ok (.lload_n k, 1)) (hl : Ls[k.val]? = some (.val (.long v))) (hq : q = pc + 1) (G : Go p l e R s m args below meth c n0 C N Q h ce sl q Ls (.long v :: st)) : Go p l e R s m args below meth c n0 C N Q h ce sl pc Ls (st) := by
  subst hq
  exact Go.step (fun T locs target X _ S => XT.lloadN X.here hx rfl hd hl S) G
theorem Go.lload (hx : p.tables.exec = Jvm.exec) {k : Nat} {v : Int64} (hd : decode c.code pc = .ok (.lload k, 2)) (hl : Ls[k]? = some (.val (.long v))) (hq : q = pc + 2) (G : Go p l e R s m args below meth c n0 C N Q h ce sl q Ls (.long v :: st)) : Go p l e R s m args below meth c n0 C N Q h ce sl pc Ls (st) := by
  subst hq
  exact Go.step (fun T locs target X _ S => XT.lload X.here hx rfl hd hl S) G
theorem Go.istoreN (hx : p.tables.exec = Jvm.exec) {k : Fin 4} {x : Int32} {l' : Array Slot} (hd : decode c.code pc = .ok (.istore_n k, 1)) (hl : storeLocals Ls k.val (.int x) = some l') (hq : q = pc + 1) (G : Go p l e R s m args below meth c n0 C N Q h ce sl q l' (st)) : Go p l e R s m args below meth c n0 C N Q h ce sl pc Ls (.int x :: st) := by
  subst hq
  exact Go.step (fun T locs target X _ S => XS.istoreN X.here hx rfl hd rfl hl S) G
theorem Go.istore (hx : p.tables.exec = Jvm.exec) {k : Nat} {x : Int32} {l' : Array Slot} (hd : decode c.code pc = .ok (.istore k, 2)) (hl : storeLocals Ls k (.int x) = some l') (hq : q = pc + 2) (G : Go p l e R s m args below meth c n0 C N Q h ce sl q l' (st)) : Go p l e R s m args below meth c n0 C N Q h ce sl pc Ls (.int x :: st) := by
  subst hq
  exact Go.step (fun T locs target X _ S => XS.istore X.here hx rfl hd rfl hl S) G
theorem Go.lstoreN (hx : p.tables.exec = Jvm.exec) {k : Fin 4} {x : Int64} {l' : Array Slot} (hd : decode c.code pc = .ok (.lstore_n k, 1)) (hl : storeLocals Ls k.val (.long x) = some l') (hq : q = pc + 1) (G : Go p l e R s m args below meth c n0 C N Q h ce sl q l' (st)) : Go p l e R s m args below meth c n0 C N Q h ce sl pc Ls (.long x :: st) := by
  subst hq
  exact Go.step (fun T locs target X _ S => XT.lstoreN X.here hx rfl hd rfl hl S) G
theorem Go.lstore (hx : p.tables.exec = Jvm.exec) {k : Nat} {x : Int64} {l' : Array Slot} (hd : decode c.code pc = .ok (.lstore k, 2)) (hl : storeLocals Ls k (.long x) = some l') (hq : q = pc + 2) (G : Go p l e R s m args below meth c n0 C N Q h ce sl q l' (st)) : Go p l e R s m args below meth c n0 C N Q h ce sl pc Ls (.long x :: st) := by
  subst hq
  exact Go.step (fun T locs target X _ S => XT.lstore X.here hx rfl hd rfl hl S) G
theorem Go.astoreN (hx : p.tables.exec = Jvm.exec) {k : Fin 4} {x : Value} {l' : Array Slot} (hd : decode c.code pc = .ok (.astore_n k, 1)) (hv : x.isRef = true) (hl : storeLocals Ls k.val x = some l') (hq : q = pc + 1) (G : Go p l e R s m args below meth c n0 C N Q h ce sl q l' (st)) : Go p l e R s m args below meth c n0 C N Q h ce sl pc Ls (x :: st) := by
  subst hq
  exact Go.step (fun T locs target X _ S => XS.astoreN X.here hx rfl hd rfl hv hl S) G
theorem Go.astore (hx : p.tables.exec = Jvm.exec) {k : Nat} {x : Value} {l' : Array Slot} (hd : decode c.code pc = .ok (.astore k, 2)) (hv : x.isRef = true) (hl : storeLocals Ls k x = some l') (hq : q = pc + 2) (G : Go p l e R s m args below meth c n0 C N Q h ce sl q l' (st)) : Go p l e R s m args below meth c n0 C N Q h ce sl pc Ls (x :: st) := by
  subst hq
  exact Go.step (fun T locs target X _ S => XS.astore X.here hx rfl hd rfl hv hl S) G
theorem Go.iinc (hx : p.tables.exec = Jvm.exec) {k : Nat} {cst : Int} {x : Int32} {l' : Array Slot} (hd : decode c.code pc = .ok (.iinc k cst, 3)) (hl : Ls[k]? = some (.val (.int x))) (hl' : storeLocals Ls k (.int (x + Int32.ofInt cst)) = some l') (hq : q = pc + 3) (G : Go p l e R s m args below meth c n0 C N Q h ce sl q l' (st)) : Go p l e R s m args below meth c n0 C N Q h ce sl pc Ls (st) := by
  subst hq
  exact Go.step (fun T locs target X _ S => XS.iinc X.here hx rfl hd hl hl' S) G
theorem Go.iconst (hx : p.tables.exec = Jvm.exec) {i : Int} {z : Int32} (hd : decode c.code pc = .ok (.iconst i, 1)) (hz : Int32.ofInt i = z) (hq : q = pc + 1) (G : Go p l e R s m args below meth c n0 C N Q h ce sl q Ls (.int z :: st)) : Go p l e R s m args below meth c n0 C N Q h ce sl pc Ls (st) := by
  subst hq
  exact Go.step (fun T locs target X _ S => XS.iconst X.here hx rfl hd (by rw [hz]; exact S)) G
theorem Go.bipush (hx : p.tables.exec = Jvm.exec) {i : Int} {z : Int32} (hd : decode c.code pc = .ok (.bipush i, 2)) (hz : (Int8.ofInt i).toInt32 = z) (hq : q = pc + 2) (G : Go p l e R s m args below meth c n0 C N Q h ce sl q Ls (.int z :: st)) : Go p l e R s m args below meth c n0 C N Q h ce sl pc Ls (st) := by
  subst hq
  exact Go.step (fun T locs target X _ S => XS.bipush X.here hx rfl hd (by rw [hz]; exact S)) G
theorem Go.sipush (hx : p.tables.exec = Jvm.exec) {i : Int} {z : Int32} (hd : decode c.code pc = .ok (.sipush i, 3)) (hz : (Int16.ofInt i).toInt32 = z) (hq : q = pc + 3) (G : Go p l e R s m args below meth c n0 C N Q h ce sl q Ls (.int z :: st)) : Go p l e R s m args below meth c n0 C N Q h ce sl pc Ls (st) := by
  subst hq
  exact Go.step (fun T locs target X _ S => XS.sipush X.here hx rfl hd (by rw [hz]; exact S)) G
theorem Go.aconstNull (hx : p.tables.exec = Jvm.exec)  (hd : decode c.code pc = .ok (.aconst_null, 1))  (hq : q = pc + 1) (G : Go p l e R s m args below meth c n0 C N Q h ce sl q Ls (.null :: st)) : Go p l e R s m args below meth c n0 C N Q h ce sl pc Ls (st) := by
  subst hq
  exact Go.step (fun T locs target X _ S => XS.aconstNull X.here hx rfl hd S) G
theorem Go.lconst (hx : p.tables.exec = Jvm.exec) {k : Fin 2} {z : Int64} (hd : decode c.code pc = .ok (.lconst k, 1)) (hz : Int64.ofNat k = z) (hq : q = pc + 1) (G : Go p l e R s m args below meth c n0 C N Q h ce sl q Ls (.long z :: st)) : Go p l e R s m args below meth c n0 C N Q h ce sl pc Ls (st) := by
  subst hq
  exact Go.step (fun T locs target X _ S => XT.lconst X.here hx rfl hd (by rw [hz]; exact S)) G
theorem Go.ldcInt (hx : p.tables.exec = Jvm.exec) (hZ : Z.Warmed39 s.vm) {own : String} {index : Nat} {v : Int32} (hown : s.vm.findClass own = some m.cls) (hw : (Cond.constant own index v).before a0 Z = true) (hd : decode c.code pc = .ok (.ldc index, 2)) (hq : q = pc + 2) (G : Go p l e R s m args below meth c n0 C N Q h ce sl q Ls (.int v :: st)) : Go p l e R s m args below meth c n0 C N Q h ce sl pc Ls st := by
  subst hq
  exact Go.step (fun T locs target X _ S => X.ldcInt hx hown (mvT hZ hw) (g := mkF m pc Ls st) rfl hd target S) G
theorem Go.ldc2Long (hx : p.tables.exec = Jvm.exec) (hZ : Z.Warmed39 s.vm) {own : String} {index : Nat} {v : Int64} (hown : s.vm.findClass own = some m.cls) (hw : (Cond.constantLong own index v).before a0 Z = true) (hd : decode c.code pc = .ok (.ldc2_w index, 3)) (hq : q = pc + 3) (G : Go p l e R s m args below meth c n0 C N Q h ce sl q Ls (.long v :: st)) : Go p l e R s m args below meth c n0 C N Q h ce sl pc Ls st := by
  subst hq
  exact Go.step (fun T locs target X _ S => X.ldc2Long hx hown (mvT hZ hw) (g := mkF m pc Ls st) rfl hd target S) G
theorem Go.iadd (hx : p.tables.exec = Jvm.exec) {x y : Int32} (hd : decode c.code pc = .ok (.iadd, 1))  (hq : q = pc + 1) (G : Go p l e R s m args below meth c n0 C N Q h ce sl q Ls (.int (x + y) :: st)) : Go p l e R s m args below meth c n0 C N Q h ce sl pc Ls (.int y :: .int x :: st) := by
  subst hq
  exact Go.step (fun T locs target X _ S => XS.iadd X.here hx rfl hd rfl S) G
theorem Go.isub (hx : p.tables.exec = Jvm.exec) {x y : Int32} (hd : decode c.code pc = .ok (.isub, 1))  (hq : q = pc + 1) (G : Go p l e R s m args below meth c n0 C N Q h ce sl q Ls (.int (x - y) :: st)) : Go p l e R s m args below meth c n0 C N Q h ce sl pc Ls (.int y :: .int x :: st) := by
  subst hq
  exact Go.step (fun T locs target X _ S => XS.isub X.here hx rfl hd rfl S) G
theorem Go.iand (hx : p.tables.exec = Jvm.exec) {x y : Int32} (hd : decode c.code pc = .ok (.iand, 1))  (hq : q = pc + 1) (G : Go p l e R s m args below meth c n0 C N Q h ce sl q Ls (.int (x &&& y) :: st)) : Go p l e R s m args below meth c n0 C N Q h ce sl pc Ls (.int y :: .int x :: st) := by
  subst hq
  exact Go.step (fun T locs target X _ S => XS.iand X.here hx rfl hd rfl S) G
theorem Go.imul (hx : p.tables.exec = Jvm.exec) {x y : Int32} (hd : decode c.code pc = .ok (.imul, 1))  (hq : q = pc + 1) (G : Go p l e R s m args below meth c n0 C N Q h ce sl q Ls (.int (x * y) :: st)) : Go p l e R s m args below meth c n0 C N Q h ce sl pc Ls (.int y :: .int x :: st) := by
  subst hq
  exact Go.step (fun T locs target X _ S => XS.imul X.here hx rfl hd rfl S) G
theorem Go.idiv (hx : p.tables.exec = Jvm.exec) {x y : Int32} (hd : decode c.code pc = .ok (.idiv, 1)) (hy : y ≠ 0) (hq : q = pc + 1) (G : Go p l e R s m args below meth c n0 C N Q h ce sl q Ls (.int (x / y) :: st)) : Go p l e R s m args below meth c n0 C N Q h ce sl pc Ls (.int y :: .int x :: st) := by
  subst hq
  exact Go.step (fun T locs target X _ S => XS.idiv X.here hx rfl hd rfl hy S) G
theorem Go.irem (hx : p.tables.exec = Jvm.exec) {x y : Int32} (hd : decode c.code pc = .ok (.irem, 1)) (hy : y ≠ 0) (hq : q = pc + 1) (G : Go p l e R s m args below meth c n0 C N Q h ce sl q Ls (.int (x % y) :: st)) : Go p l e R s m args below meth c n0 C N Q h ce sl pc Ls (.int y :: .int x :: st) := by
  subst hq
  exact Go.step (fun T locs target X _ S => iremM X hx rfl hd rfl hy S) G
theorem Go.ineg (hx : p.tables.exec = Jvm.exec) {x : Int32} (hd : decode c.code pc = .ok (.ineg, 1))  (hq : q = pc + 1) (G : Go p l e R s m args below meth c n0 C N Q h ce sl q Ls (.int (-x) :: st)) : Go p l e R s m args below meth c n0 C N Q h ce sl pc Ls (.int x :: st) := by
  subst hq
  exact Go.step (fun T locs target X _ S => XS.ineg X.here hx rfl hd rfl S) G
theorem Go.ixor (hx : p.tables.exec = Jvm.exec) {x y : Int32} (hd : decode c.code pc = .ok (.ixor, 1))  (hq : q = pc + 1) (G : Go p l e R s m args below meth c n0 C N Q h ce sl q Ls (.int (x ^^^ y) :: st)) : Go p l e R s m args below meth c n0 C N Q h ce sl pc Ls (.int y :: .int x :: st) := by
  subst hq
  exact Go.step (fun T locs target X _ S => XT.ixor X.here hx rfl hd rfl S) G
theorem Go.ior (hx : p.tables.exec = Jvm.exec) {x y : Int32} (hd : decode c.code pc = .ok (.ior, 1))  (hq : q = pc + 1) (G : Go p l e R s m args below meth c n0 C N Q h ce sl q Ls (.int (x ||| y) :: st)) : Go p l e R s m args below meth c n0 C N Q h ce sl pc Ls (.int y :: .int x :: st) := by
  subst hq
  exact Go.step (fun T locs target X _ S => XT.ior X.here hx rfl hd rfl S) G
theorem Go.ishl (hx : p.tables.exec = Jvm.exec) {x y : Int32} (hd : decode c.code pc = .ok (.ishl, 1))  (hq : q = pc + 1) (G : Go p l e R s m args below meth c n0 C N Q h ce sl q Ls (.int (x <<< (y &&& 31)) :: st)) : Go p l e R s m args below meth c n0 C N Q h ce sl pc Ls (.int y :: .int x :: st) := by
  subst hq
  exact Go.step (fun T locs target X _ S => XT.ishl X.here hx rfl hd rfl S) G
theorem Go.ishr (hx : p.tables.exec = Jvm.exec) {x y : Int32} (hd : decode c.code pc = .ok (.ishr, 1))  (hq : q = pc + 1) (G : Go p l e R s m args below meth c n0 C N Q h ce sl q Ls (.int (x >>> (y &&& 31)) :: st)) : Go p l e R s m args below meth c n0 C N Q h ce sl pc Ls (.int y :: .int x :: st) := by
  subst hq
  exact Go.step (fun T locs target X _ S => XT.ishr X.here hx rfl hd rfl S) G
theorem Go.iushr (hx : p.tables.exec = Jvm.exec) {x y : Int32} (hd : decode c.code pc = .ok (.iushr, 1))  (hq : q = pc + 1) (G : Go p l e R s m args below meth c n0 C N Q h ce sl q Ls (.int (XT.ushr x y) :: st)) : Go p l e R s m args below meth c n0 C N Q h ce sl pc Ls (.int y :: .int x :: st) := by
  subst hq
  exact Go.step (fun T locs target X _ S => XT.iushr X.here hx rfl hd rfl S) G
theorem Go.ladd (hx : p.tables.exec = Jvm.exec) {x y : Int64} (hd : decode c.code pc = .ok (.ladd, 1))  (hq : q = pc + 1) (G : Go p l e R s m args below meth c n0 C N Q h ce sl q Ls (.long (x + y) :: st)) : Go p l e R s m args below meth c n0 C N Q h ce sl pc Ls (.long y :: .long x :: st) := by
  subst hq
  exact Go.step (fun T locs target X _ S => XT.ladd X.here hx rfl hd rfl S) G
theorem Go.lsub (hx : p.tables.exec = Jvm.exec) {x y : Int64} (hd : decode c.code pc = .ok (.lsub, 1))  (hq : q = pc + 1) (G : Go p l e R s m args below meth c n0 C N Q h ce sl q Ls (.long (x - y) :: st)) : Go p l e R s m args below meth c n0 C N Q h ce sl pc Ls (.long y :: .long x :: st) := by
  subst hq
  exact Go.step (fun T locs target X _ S => XT.lsub X.here hx rfl hd rfl S) G
theorem Go.lmul (hx : p.tables.exec = Jvm.exec) {x y : Int64} (hd : decode c.code pc = .ok (.lmul, 1))  (hq : q = pc + 1) (G : Go p l e R s m args below meth c n0 C N Q h ce sl q Ls (.long (x * y) :: st)) : Go p l e R s m args below meth c n0 C N Q h ce sl pc Ls (.long y :: .long x :: st) := by
  subst hq
  exact Go.step (fun T locs target X _ S => XT.lmul X.here hx rfl hd rfl S) G
theorem Go.land (hx : p.tables.exec = Jvm.exec) {x y : Int64} (hd : decode c.code pc = .ok (.land, 1))  (hq : q = pc + 1) (G : Go p l e R s m args below meth c n0 C N Q h ce sl q Ls (.long (x &&& y) :: st)) : Go p l e R s m args below meth c n0 C N Q h ce sl pc Ls (.long y :: .long x :: st) := by
  subst hq
  exact Go.step (fun T locs target X _ S => XT.land X.here hx rfl hd rfl S) G
theorem Go.lor (hx : p.tables.exec = Jvm.exec) {x y : Int64} (hd : decode c.code pc = .ok (.lor, 1))  (hq : q = pc + 1) (G : Go p l e R s m args below meth c n0 C N Q h ce sl q Ls (.long (x ||| y) :: st)) : Go p l e R s m args below meth c n0 C N Q h ce sl pc Ls (.long y :: .long x :: st) := by
  subst hq
  exact Go.step (fun T locs target X _ S => XT.lor X.here hx rfl hd rfl S) G
theorem Go.lxor (hx : p.tables.exec = Jvm.exec) {x y : Int64} (hd : decode c.code pc = .ok (.lxor, 1))  (hq : q = pc + 1) (G : Go p l e R s m args below meth c n0 C N Q h ce sl q Ls (.long (x ^^^ y) :: st)) : Go p l e R s m args below meth c n0 C N Q h ce sl pc Ls (.long y :: .long x :: st) := by
  subst hq
  exact Go.step (fun T locs target X _ S => XT.lxor X.here hx rfl hd rfl S) G
theorem Go.lshl (hx : p.tables.exec = Jvm.exec) {x : Int64} {y : Int32} (hd : decode c.code pc = .ok (.lshl, 1))  (hq : q = pc + 1) (G : Go p l e R s m args below meth c n0 C N Q h ce sl q Ls (.long (x <<< (y.toInt64 &&& 63)) :: st)) : Go p l e R s m args below meth c n0 C N Q h ce sl pc Ls (.int y :: .long x :: st) := by
  subst hq
  exact Go.step (fun T locs target X _ S => XT.lshl X.here hx rfl hd rfl S) G
theorem Go.lshr (hx : p.tables.exec = Jvm.exec) {x : Int64} {y : Int32} (hd : decode c.code pc = .ok (.lshr, 1))  (hq : q = pc + 1) (G : Go p l e R s m args below meth c n0 C N Q h ce sl q Ls (.long (x >>> (y.toInt64 &&& 63)) :: st)) : Go p l e R s m args below meth c n0 C N Q h ce sl pc Ls (.int y :: .long x :: st) := by
  subst hq
  exact Go.step (fun T locs target X _ S => XT.lshr X.here hx rfl hd rfl S) G
theorem Go.lushr (hx : p.tables.exec = Jvm.exec) {x : Int64} {y : Int32} (hd : decode c.code pc = .ok (.lushr, 1))  (hq : q = pc + 1) (G : Go p l e R s m args below meth c n0 C N Q h ce sl q Ls (.long (XT.ushrL x y) :: st)) : Go p l e R s m args below meth c n0 C N Q h ce sl pc Ls (.int y :: .long x :: st) := by
  subst hq
  exact Go.step (fun T locs target X _ S => XT.lushr X.here hx rfl hd rfl S) G
theorem Go.lrem (hx : p.tables.exec = Jvm.exec) {x y : Int64} (hd : decode c.code pc = .ok (.lrem, 1)) (hy : y ≠ 0) (hq : q = pc + 1) (G : Go p l e R s m args below meth c n0 C N Q h ce sl q Ls (.long (x - (x / y) * y) :: st)) : Go p l e R s m args below meth c n0 C N Q h ce sl pc Ls (.long y :: .long x :: st) := by
  subst hq
  exact Go.step (fun T locs target X _ S => XT.lrem X.here hx rfl hd rfl hy S) G
theorem Go.ldiv (hx : p.tables.exec = Jvm.exec) {x y : Int64} (hd : decode c.code pc = .ok (.ldiv, 1)) (hy : y ≠ 0) (hq : q = pc + 1) (G : Go p l e R s m args below meth c n0 C N Q h ce sl q Ls (.long (x / y) :: st)) : Go p l e R s m args below meth c n0 C N Q h ce sl pc Ls (.long y :: .long x :: st) := by
  subst hq
  exact Go.step (fun T locs target X _ S => XT.ldiv X.here hx rfl hd rfl hy S) G
theorem Go.lneg (hx : p.tables.exec = Jvm.exec) {x : Int64} (hd : decode c.code pc = .ok (.lneg, 1))  (hq : q = pc + 1) (G : Go p l e R s m args below meth c n0 C N Q h ce sl q Ls (.long (-x) :: st)) : Go p l e R s m args below meth c n0 C N Q h ce sl pc Ls (.long x :: st) := by
  subst hq
  exact Go.step (fun T locs target X _ S => XT.lneg X.here hx rfl hd rfl S) G
theorem Go.lcmp (hx : p.tables.exec = Jvm.exec) {x y : Int64} (hd : decode c.code pc = .ok (.lcmp, 1))  (hq : q = pc + 1) (G : Go p l e R s m args below meth c n0 C N Q h ce sl q Ls (.int (XT.cmpL x y) :: st)) : Go p l e R s m args below meth c n0 C N Q h ce sl pc Ls (.long y :: .long x :: st) := by
  subst hq
  exact Go.step (fun T locs target X _ S => XT.lcmp X.here hx rfl hd rfl S) G
theorem Go.i2l (hx : p.tables.exec = Jvm.exec) {x : Int32} (hd : decode c.code pc = .ok (.i2l, 1))  (hq : q = pc + 1) (G : Go p l e R s m args below meth c n0 C N Q h ce sl q Ls (.long (x.toInt64) :: st)) : Go p l e R s m args below meth c n0 C N Q h ce sl pc Ls (.int x :: st) := by
  subst hq
  exact Go.step (fun T locs target X _ S => XT.i2l X.here hx rfl hd rfl S) G
theorem Go.l2i (hx : p.tables.exec = Jvm.exec) {x : Int64} (hd : decode c.code pc = .ok (.l2i, 1))  (hq : q = pc + 1) (G : Go p l e R s m args below meth c n0 C N Q h ce sl q Ls (.int (x.toInt32) :: st)) : Go p l e R s m args below meth c n0 C N Q h ce sl pc Ls (.long x :: st) := by
  subst hq
  exact Go.step (fun T locs target X _ S => XT.l2i X.here hx rfl hd rfl S) G
theorem Go.i2b (hx : p.tables.exec = Jvm.exec) {x : Int32} (hd : decode c.code pc = .ok (.i2b, 1))  (hq : q = pc + 1) (G : Go p l e R s m args below meth c n0 C N Q h ce sl q Ls (.int (x.toInt8.toInt32) :: st)) : Go p l e R s m args below meth c n0 C N Q h ce sl pc Ls (.int x :: st) := by
  subst hq
  exact Go.step (fun T locs target X _ S => XT.i2b X.here hx rfl hd rfl S) G
theorem Go.i2c (hx : p.tables.exec = Jvm.exec) {x : Int32} (hd : decode c.code pc = .ok (.i2c, 1))  (hq : q = pc + 1) (G : Go p l e R s m args below meth c n0 C N Q h ce sl q Ls (.int (x.toUInt32.toUInt16.toUInt32.toInt32) :: st)) : Go p l e R s m args below meth c n0 C N Q h ce sl pc Ls (.int x :: st) := by
  subst hq
  exact Go.step (fun T locs target X _ S => XT.i2c X.here hx rfl hd rfl S) G
theorem Go.i2s (hx : p.tables.exec = Jvm.exec) {x : Int32} (hd : decode c.code pc = .ok (.i2s, 1))  (hq : q = pc + 1) (G : Go p l e R s m args below meth c n0 C N Q h ce sl q Ls (.int (x.toInt16.toInt32) :: st)) : Go p l e R s m args below meth c n0 C N Q h ce sl pc Ls (.int x :: st) := by
  subst hq
  exact Go.step (fun T locs target X _ S => XT.i2s X.here hx rfl hd rfl S) G
theorem Go.dup (hx : p.tables.exec = Jvm.exec) {x : Value} (hd : decode c.code pc = .ok (.dup, 1)) (hc : x.category = 1) (hq : q = pc + 1) (G : Go p l e R s m args below meth c n0 C N Q h ce sl q Ls (x :: x :: st)) : Go p l e R s m args below meth c n0 C N Q h ce sl pc Ls (x :: st) := by
  subst hq
  exact Go.step (fun T locs target X _ S => XS.dup X.here hx rfl hd rfl hc S) G
theorem Go.pop (hx : p.tables.exec = Jvm.exec) {x : Value} (hd : decode c.code pc = .ok (.pop, 1)) (hc : x.category = 1) (hq : q = pc + 1) (G : Go p l e R s m args below meth c n0 C N Q h ce sl q Ls (st)) : Go p l e R s m args below meth c n0 C N Q h ce sl pc Ls (x :: st) := by
  subst hq
  exact Go.step (fun T locs target X _ S => XT.pop X.here hx rfl hd rfl hc S) G
theorem Go.dupX1 (hx : p.tables.exec = Jvm.exec) {x y : Value} (hd : decode c.code pc = .ok (.dup_x1, 1)) (hc : x.category = 1) (hc' : y.category = 1) (hq : q = pc + 1) (G : Go p l e R s m args below meth c n0 C N Q h ce sl q Ls (x :: y :: x :: st)) : Go p l e R s m args below meth c n0 C N Q h ce sl pc Ls (x :: y :: st) := by
  subst hq
  exact Go.step (fun T locs target X _ S => XT.dupX1 X.here hx rfl hd rfl hc hc' S) G
theorem Go.dup2 (hx : p.tables.exec = Jvm.exec) {x y : Value} (hd : decode c.code pc = .ok (.dup2, 1)) (hc : x.category = 1) (hc' : y.category = 1) (hq : q = pc + 1) (G : Go p l e R s m args below meth c n0 C N Q h ce sl q Ls (x :: y :: x :: y :: st)) : Go p l e R s m args below meth c n0 C N Q h ce sl pc Ls (x :: y :: st) := by
  subst hq
  exact Go.step (fun T locs target X _ S => XT.dup2 X.here hx rfl hd rfl hc hc' S) G
theorem Go.dup2L (hx : p.tables.exec = Jvm.exec) {x : Int64} (hd : decode c.code pc = .ok (.dup2, 1))  (hq : q = pc + 1) (G : Go p l e R s m args below meth c n0 C N Q h ce sl q Ls (.long x :: .long x :: st)) : Go p l e R s m args below meth c n0 C N Q h ce sl pc Ls (.long x :: st) := by
  subst hq
  exact Go.step (fun T locs target X _ S => XT.dup2L X.here hx rfl hd rfl S) G
theorem Go.goto (hx : p.tables.exec = Jvm.exec) {o : Int} (hd : decode c.code pc = .ok (.goto o, 3)) (ho : 0 ≤ (pc : Int) + o) (hq : ((pc : Int) + o).toNat = q) (G : Go p l e R s m args below meth c n0 C N Q h ce sl q Ls st) : Go p l e R s m args below meth c n0 C N Q h ce sl pc Ls st :=
  Go.step (fun T locs target X _ S => XS.goto X.here hx rfl rfl hd ho hq S) G
theorem Go.icmp_eq (hx : p.tables.exec = Jvm.exec) {x y : Int32} {o : Int} {t : Nat} (hd : decode c.code pc = .ok (.if_icmp .eq o, 3)) (ho : 0 ≤ (pc : Int) + o) (ht : ((pc : Int) + o).toNat = t) (hq : q = pc + 3) (Gt : x = y → Go p l e R s m args below meth c n0 C N Q h ce sl t Ls st) (Gf : ¬ x = y → Go p l e R s m args below meth c n0 C N Q h ce sl q Ls st) : Go p l e R s m args below meth c n0 C N Q h ce sl pc Ls (.int y :: .int x :: st) := by
  subst hq
  by_cases hc : x = y
  · exact Go.step (fun T locs target X _ S => XS.icmpYes X.here hx rfl rfl hd rfl (teq hc).1 ho ht S) (Gt hc)
  · exact Go.step (fun T locs target X _ S => XS.icmpNo X.here hx rfl hd rfl (feq hc).1 S) (Gf hc)
theorem Go.if_eq (hx : p.tables.exec = Jvm.exec) {x : Int32} {o : Int} {t : Nat} (hd : decode c.code pc = .ok (.ifCond .eq o, 3)) (ho : 0 ≤ (pc : Int) + o) (ht : ((pc : Int) + o).toNat = t) (hq : q = pc + 3) (Gt : x = 0 → Go p l e R s m args below meth c n0 C N Q h ce sl t Ls st) (Gf : ¬ x = 0 → Go p l e R s m args below meth c n0 C N Q h ce sl q Ls st) : Go p l e R s m args below meth c n0 C N Q h ce sl pc Ls (.int x :: st) := by
  subst hq
  by_cases hc : x = 0
  · exact Go.step (fun T locs target X _ S => XS.ifYes X.here hx rfl rfl hd rfl ((if0 _ _).trans (teq hc).1) ho ht S) (Gt hc)
  · exact Go.step (fun T locs target X _ S => XS.ifNo X.here hx rfl hd rfl ((if0 _ _).trans (feq hc).1) S) (Gf hc)
theorem Go.icmp_ne (hx : p.tables.exec = Jvm.exec) {x y : Int32} {o : Int} {t : Nat} (hd : decode c.code pc = .ok (.if_icmp .ne o, 3)) (ho : 0 ≤ (pc : Int) + o) (ht : ((pc : Int) + o).toNat = t) (hq : q = pc + 3) (Gt : ¬ x = y → Go p l e R s m args below meth c n0 C N Q h ce sl t Ls st) (Gf : x = y → Go p l e R s m args below meth c n0 C N Q h ce sl q Ls st) : Go p l e R s m args below meth c n0 C N Q h ce sl pc Ls (.int y :: .int x :: st) := by
  subst hq
  by_cases hc : x = y
  · exact Go.step (fun T locs target X _ S => XS.icmpNo X.here hx rfl hd rfl (teq hc).2 S) (Gf hc)
  · exact Go.step (fun T locs target X _ S => XS.icmpYes X.here hx rfl rfl hd rfl (feq hc).2 ho ht S) (Gt hc)
theorem Go.if_ne (hx : p.tables.exec = Jvm.exec) {x : Int32} {o : Int} {t : Nat} (hd : decode c.code pc = .ok (.ifCond .ne o, 3)) (ho : 0 ≤ (pc : Int) + o) (ht : ((pc : Int) + o).toNat = t) (hq : q = pc + 3) (Gt : ¬ x = 0 → Go p l e R s m args below meth c n0 C N Q h ce sl t Ls st) (Gf : x = 0 → Go p l e R s m args below meth c n0 C N Q h ce sl q Ls st) : Go p l e R s m args below meth c n0 C N Q h ce sl pc Ls (.int x :: st) := by
  subst hq
  by_cases hc : x = 0
  · exact Go.step (fun T locs target X _ S => XS.ifNo X.here hx rfl hd rfl ((if0 _ _).trans (teq hc).2) S) (Gf hc)
  · exact Go.step (fun T locs target X _ S => XS.ifYes X.here hx rfl rfl hd rfl ((if0 _ _).trans (feq hc).2) ho ht S) (Gt hc)
theorem Go.icmp_lt (hx : p.tables.exec = Jvm.exec) {x y : Int32} {o : Int} {t : Nat} (hd : decode c.code pc = .ok (.if_icmp .lt o, 3)) (ho : 0 ≤ (pc : Int) + o) (ht : ((pc : Int) + o).toNat = t) (hq : q = pc + 3) (Gt : x < y → Go p l e R s m args below meth c n0 C N Q h ce sl t Ls st) (Gf : ¬ x < y → Go p l e R s m args below meth c n0 C N Q h ce sl q Ls st) : Go p l e R s m args below meth c n0 C N Q h ce sl pc Ls (.int y :: .int x :: st) := by
  subst hq
  by_cases hc : x < y
  · exact Go.step (fun T locs target X _ S => XS.icmpYes X.here hx rfl rfl hd rfl (tlt hc).1 ho ht S) (Gt hc)
  · exact Go.step (fun T locs target X _ S => XS.icmpNo X.here hx rfl hd rfl (flt hc).1 S) (Gf hc)
theorem Go.if_lt (hx : p.tables.exec = Jvm.exec) {x : Int32} {o : Int} {t : Nat} (hd : decode c.code pc = .ok (.ifCond .lt o, 3)) (ho : 0 ≤ (pc : Int) + o) (ht : ((pc : Int) + o).toNat = t) (hq : q = pc + 3) (Gt : x < 0 → Go p l e R s m args below meth c n0 C N Q h ce sl t Ls st) (Gf : ¬ x < 0 → Go p l e R s m args below meth c n0 C N Q h ce sl q Ls st) : Go p l e R s m args below meth c n0 C N Q h ce sl pc Ls (.int x :: st) := by
  subst hq
  by_cases hc : x < 0
  · exact Go.step (fun T locs target X _ S => XS.ifYes X.here hx rfl rfl hd rfl ((if0 _ _).trans (tlt hc).1) ho ht S) (Gt hc)
  · exact Go.step (fun T locs target X _ S => XS.ifNo X.here hx rfl hd rfl ((if0 _ _).trans (flt hc).1) S) (Gf hc)
theorem Go.icmp_ge (hx : p.tables.exec = Jvm.exec) {x y : Int32} {o : Int} {t : Nat} (hd : decode c.code pc = .ok (.if_icmp .ge o, 3)) (ho : 0 ≤ (pc : Int) + o) (ht : ((pc : Int) + o).toNat = t) (hq : q = pc + 3) (Gt : ¬ x < y → Go p l e R s m args below meth c n0 C N Q h ce sl t Ls st) (Gf : x < y → Go p l e R s m args below meth c n0 C N Q h ce sl q Ls st) : Go p l e R s m args below meth c n0 C N Q h ce sl pc Ls (.int y :: .int x :: st) := by
  subst hq
  by_cases hc : x < y
  · exact Go.step (fun T locs target X _ S => XS.icmpNo X.here hx rfl hd rfl (tlt hc).2.1 S) (Gf hc)
  · exact Go.step (fun T locs target X _ S => XS.icmpYes X.here hx rfl rfl hd rfl (flt hc).2.1 ho ht S) (Gt hc)
theorem Go.if_ge (hx : p.tables.exec = Jvm.exec) {x : Int32} {o : Int} {t : Nat} (hd : decode c.code pc = .ok (.ifCond .ge o, 3)) (ho : 0 ≤ (pc : Int) + o) (ht : ((pc : Int) + o).toNat = t) (hq : q = pc + 3) (Gt : ¬ x < 0 → Go p l e R s m args below meth c n0 C N Q h ce sl t Ls st) (Gf : x < 0 → Go p l e R s m args below meth c n0 C N Q h ce sl q Ls st) : Go p l e R s m args below meth c n0 C N Q h ce sl pc Ls (.int x :: st) := by
  subst hq
  by_cases hc : x < 0
  · exact Go.step (fun T locs target X _ S => XS.ifNo X.here hx rfl hd rfl ((if0 _ _).trans (tlt hc).2.1) S) (Gf hc)
  · exact Go.step (fun T locs target X _ S => XS.ifYes X.here hx rfl rfl hd rfl ((if0 _ _).trans (flt hc).2.1) ho ht S) (Gt hc)
theorem Go.icmp_gt (hx : p.tables.exec = Jvm.exec) {x y : Int32} {o : Int} {t : Nat} (hd : decode c.code pc = .ok (.if_icmp .gt o, 3)) (ho : 0 ≤ (pc : Int) + o) (ht : ((pc : Int) + o).toNat = t) (hq : q = pc + 3) (Gt : y < x → Go p l e R s m args below meth c n0 C N Q h ce sl t Ls st) (Gf : ¬ y < x → Go p l e R s m args below meth c n0 C N Q h ce sl q Ls st) : Go p l e R s m args below meth c n0 C N Q h ce sl pc Ls (.int y :: .int x :: st) := by
  subst hq
  by_cases hc : y < x
  · exact Go.step (fun T locs target X _ S => XS.icmpYes X.here hx rfl rfl hd rfl (tlt hc).2.2.1 ho ht S) (Gt hc)
  · exact Go.step (fun T locs target X _ S => XS.icmpNo X.here hx rfl hd rfl (flt hc).2.2.1 S) (Gf hc)
theorem Go.if_gt (hx : p.tables.exec = Jvm.exec) {x : Int32} {o : Int} {t : Nat} (hd : decode c.code pc = .ok (.ifCond .gt o, 3)) (ho : 0 ≤ (pc : Int) + o) (ht : ((pc : Int) + o).toNat = t) (hq : q = pc + 3) (Gt : 0 < x → Go p l e R s m args below meth c n0 C N Q h ce sl t Ls st) (Gf : ¬ 0 < x → Go p l e R s m args below meth c n0 C N Q h ce sl q Ls st) : Go p l e R s m args below meth c n0 C N Q h ce sl pc Ls (.int x :: st) := by
  subst hq
  by_cases hc : 0 < x
  · exact Go.step (fun T locs target X _ S => XS.ifYes X.here hx rfl rfl hd rfl ((if0 _ _).trans (tlt hc).2.2.1) ho ht S) (Gt hc)
  · exact Go.step (fun T locs target X _ S => XS.ifNo X.here hx rfl hd rfl ((if0 _ _).trans (flt hc).2.2.1) S) (Gf hc)
theorem Go.icmp_le (hx : p.tables.exec = Jvm.exec) {x y : Int32} {o : Int} {t : Nat} (hd : decode c.code pc = .ok (.if_icmp .le o, 3)) (ho : 0 ≤ (pc : Int) + o) (ht : ((pc : Int) + o).toNat = t) (hq : q = pc + 3) (Gt : ¬ y < x → Go p l e R s m args below meth c n0 C N Q h ce sl t Ls st) (Gf : y < x → Go p l e R s m args below meth c n0 C N Q h ce sl q Ls st) : Go p l e R s m args below meth c n0 C N Q h ce sl pc Ls (.int y :: .int x :: st) := by
  subst hq
  by_cases hc : y < x
  · exact Go.step (fun T locs target X _ S => XS.icmpNo X.here hx rfl hd rfl (tlt hc).2.2.2 S) (Gf hc)
  · exact Go.step (fun T locs target X _ S => XS.icmpYes X.here hx rfl rfl hd rfl (flt hc).2.2.2 ho ht S) (Gt hc)
theorem Go.if_le (hx : p.tables.exec = Jvm.exec) {x : Int32} {o : Int} {t : Nat} (hd : decode c.code pc = .ok (.ifCond .le o, 3)) (ho : 0 ≤ (pc : Int) + o) (ht : ((pc : Int) + o).toNat = t) (hq : q = pc + 3) (Gt : ¬ 0 < x → Go p l e R s m args below meth c n0 C N Q h ce sl t Ls st) (Gf : 0 < x → Go p l e R s m args below meth c n0 C N Q h ce sl q Ls st) : Go p l e R s m args below meth c n0 C N Q h ce sl pc Ls (.int x :: st) := by
  subst hq
  by_cases hc : 0 < x
  · exact Go.step (fun T locs target X _ S => XS.ifNo X.here hx rfl hd rfl ((if0 _ _).trans (tlt hc).2.2.2) S) (Gf hc)
  · exact Go.step (fun T locs target X _ S => XS.ifYes X.here hx rfl rfl hd rfl ((if0 _ _).trans (flt hc).2.2.2) ho ht S) (Gt hc)
theorem Go.ifnullT (hx : p.tables.exec = Jvm.exec) {b : Addr} {o : Int} {t : Nat} (hd : decode c.code pc = .ok (.ifnull o, 3)) (ho : 0 ≤ (pc : Int) + o) (ht : ((pc : Int) + o).toNat = t) (G : Go p l e R s m args below meth c n0 C N Q h ce sl t Ls st) : Go p l e R s m args below meth c n0 C N Q h ce sl pc Ls (.null :: st) :=
  Go.step (fun T locs target X _ S => XS.ifnullYes X.here hx rfl rfl hd rfl ho ht S) G
theorem Go.ifnullF (hx : p.tables.exec = Jvm.exec) {b : Addr} {o : Int} (hd : decode c.code pc = .ok (.ifnull o, 3)) (hq : q = pc + 3) (G : Go p l e R s m args below meth c n0 C N Q h ce sl q Ls st) : Go p l e R s m args below meth c n0 C N Q h ce sl pc Ls (.ref b :: st) := by
  subst hq
  exact Go.step (fun T locs target X _ S => XS.ifnullNo X.here hx rfl hd rfl S) G
theorem Go.ifnonnullT (hx : p.tables.exec = Jvm.exec) {b : Addr} {o : Int} {t : Nat} (hd : decode c.code pc = .ok (.ifnonnull o, 3)) (ho : 0 ≤ (pc : Int) + o) (ht : ((pc : Int) + o).toNat = t) (G : Go p l e R s m args below meth c n0 C N Q h ce sl t Ls st) : Go p l e R s m args below meth c n0 C N Q h ce sl pc Ls (.ref b :: st) :=
  Go.step (fun T locs target X _ S => XT.ifnonnullYes X.here hx rfl rfl hd rfl ho ht S) G
theorem Go.ifnonnullF (hx : p.tables.exec = Jvm.exec) {b : Addr} {o : Int} (hd : decode c.code pc = .ok (.ifnonnull o, 3)) (hq : q = pc + 3) (G : Go p l e R s m args below meth c n0 C N Q h ce sl q Ls st) : Go p l e R s m args below meth c n0 C N Q h ce sl pc Ls (.null :: st) := by
  subst hq
  exact Go.step (fun T locs target X _ S => XT.ifnonnullNo X.here hx rfl hd rfl S) G
theorem Go.acmp_eq (hx : p.tables.exec = Jvm.exec) {x y : Value} {o : Int} {t : Nat} (hvx : x.isRef = true) (hvy : y.isRef = true) (hd : decode c.code pc = .ok (.if_acmp .eq o, 3)) (ho : 0 ≤ (pc : Int) + o) (ht : ((pc : Int) + o).toNat = t) (hq : q = pc + 3) (Gt : x = y → Go p l e R s m args below meth c n0 C N Q h ce sl t Ls st) (Gf : ¬ x = y → Go p l e R s m args below meth c n0 C N Q h ce sl q Ls st) : Go p l e R s m args below meth c n0 C N Q h ce sl pc Ls (y :: x :: st) := by
  subst hq
  by_cases hc : x = y
  · exact Go.step (fun T locs target X _ S => XT.acmpYes X.here hx rfl rfl hd rfl hvx hvy (by simp [XT.acmp, hc]) ho ht S) (Gt hc)
  · exact Go.step (fun T locs target X _ S => XT.acmpNo X.here hx rfl hd rfl hvx hvy (by simp [XT.acmp, hc]) S) (Gf hc)
theorem Go.acmp_ne (hx : p.tables.exec = Jvm.exec) {x y : Value} {o : Int} {t : Nat} (hvx : x.isRef = true) (hvy : y.isRef = true) (hd : decode c.code pc = .ok (.if_acmp .ne o, 3)) (ho : 0 ≤ (pc : Int) + o) (ht : ((pc : Int) + o).toNat = t) (hq : q = pc + 3) (Gt : ¬ x = y → Go p l e R s m args below meth c n0 C N Q h ce sl t Ls st) (Gf : x = y → Go p l e R s m args below meth c n0 C N Q h ce sl q Ls st) : Go p l e R s m args below meth c n0 C N Q h ce sl pc Ls (y :: x :: st) := by
  subst hq
  by_cases hc : x = y
  · exact Go.step (fun T locs target X _ S => XT.acmpNo X.here hx rfl hd rfl hvx hvy (by simp [XT.acmp, hc]) S) (Gf hc)
  · exact Go.step (fun T locs target X _ S => XT.acmpYes X.here hx rfl rfl hd rfl hvx hvy (by simp [XT.acmp, hc]) ho ht S) (Gt hc)
theorem Go.retV (hx : p.tables.exec = Jvm.exec) {wv : Value} {t : FieldType} {i : Instr} (hret : meth.sig.returnType = some t) (hlk : meth.locks = false) (hn : narrow t wv = wv)
    (hi : (i = .ireturn ∧ (t = .int ∨ t = .boolean ∨ t = .byte ∨ t = .char ∨ t = .short) ∧ ∃ z, wv = .int z) ∨ (i = .lreturn ∧ t = .long ∧ ∃ z, wv = .long z) ∨ (i = .dreturn ∧ t = .double ∧ ∃ z, wv = .double z) ∨ (i = .freturn ∧ t = .float ∧ ∃ z, wv = .float z) ∨ (i = .areturn ∧ t.isReference = true ∧ wv.isRef = true))
    (hd : decode c.code pc = .ok (i, 1)) (hc : ce ≤ C) (hs : sl ≤ N) (hQ : Q (some wv) h) : Go p l e R s m args below meth c n0 C N Q h ce sl pc Ls (wv :: st) := fun T locs X Nf eT => by
  obtain ⟨fs, hr, hrun, hended, hW, hsame⟩ := X.leave (v := some wv) (fun hh => by rw [hret] at hh; cases hh)
  refine ⟨_, _, _, retOut X hx hret hn hi hd hr, hrun, hended, ?_, Nf, ⟨_, rfl⟩, hW, hsame.mono hc hs⟩
  show Q _ T.heap
  rw [eT]; exact hQ
theorem Go.retI (hx : p.tables.exec = Jvm.exec) {z : Int32} (hret : meth.sig.returnType = some .int) (hlk : meth.locks = false) (hd : decode c.code pc = .ok (.ireturn, 1)) (hc : ce ≤ C) (hs : sl ≤ N) (hQ : Q (some (.int z)) h) : Go p l e R s m args below meth c n0 C N Q h ce sl pc Ls (.int z :: st) :=
  Go.retV hx hret hlk rfl (Or.inl ⟨rfl, Or.inl rfl, _, rfl⟩) hd hc hs hQ
theorem Go.retL (hx : p.tables.exec = Jvm.exec) {z : Int64} (hret : meth.sig.returnType = some .long) (hlk : meth.locks = false) (hd : decode c.code pc = .ok (.lreturn, 1)) (hc : ce ≤ C) (hs : sl ≤ N) (hQ : Q (some (.long z)) h) : Go p l e R s m args below meth c n0 C N Q h ce sl pc Ls (.long z :: st) :=
  Go.retV hx hret hlk rfl (Or.inr (Or.inl ⟨rfl, rfl, _, rfl⟩)) hd hc hs hQ
theorem Go.retA (hx : p.tables.exec = Jvm.exec) {wv : Value} {t : FieldType} (hret : meth.sig.returnType = some t) (ht : t.isReference = true) (hv : wv.isRef = true) (hlk : meth.locks = false) (hd : decode c.code pc = .ok (.areturn, 1)) (hc : ce ≤ C) (hs : sl ≤ N) (hQ : Q (some wv) h) : Go p l e R s m args below meth c n0 C N Q h ce sl pc Ls (wv :: st) :=
  Go.retV hx hret hlk (by cases wv <;> cases t <;> simp_all [Value.isRef, FieldType.isReference, narrow]) (Or.inr (Or.inr (Or.inr (Or.inr ⟨rfl, ht, hv⟩)))) hd hc hs hQ
theorem Go.retN (hx : p.tables.exec = Jvm.exec) {z : Int32} {t : FieldType} (hret : meth.sig.returnType = some t) (ht : t = .boolean ∨ t = .byte ∨ t = .char ∨ t = .short) (hlk : meth.locks = false) (hd : decode c.code pc = .ok (.ireturn, 1)) (hc : ce ≤ C) (hs : sl ≤ N) (hQ : Q (some (.int (nar t z))) h) : Go p l e R s m args below meth c n0 C N Q h ce sl pc Ls (.int z :: st) := fun T locs X Nf eT => by
  obtain ⟨fs, hr, hrun, hended, hW, hsame⟩ := X.leave (v := some (.int (nar t z))) (fun hh => by rw [hret] at hh; cases hh)
  refine ⟨_, _, _, Jvm.RoadKit.retN X hx hret ht hd hr, hrun, hended, ?_, Nf, ⟨_, rfl⟩, hW, hsame.mono hc hs⟩
  show Q _ T.heap
  rw [eT]; exact hQ
theorem Go.ret0 (hx : p.tables.exec = Jvm.exec) (hret : meth.sig.returnType = none) (hlk : meth.locks = false) (hd : decode c.code pc = .ok (.return_, 1)) (hc : ce ≤ C) (hs : sl ≤ N) (hQ : Q none h) : Go p l e R s m args below meth c n0 C N Q h ce sl pc Ls [] := fun T locs X Nf eT => by
  obtain ⟨fs, hr, hrun, hended, hW, hsame⟩ := X.leave (v := none) (fun _ => rfl)
  refine ⟨_, _, _, X.returnOut hx hret hd hr, hrun, hended, ?_, Nf, ⟨_, rfl⟩, hW, hsame.mono hc hs⟩
  show Q _ T.heap
  rw [eT]; exact hQ
theorem Go.getF (hx : p.tables.exec = Jvm.exec) (hZ : Z.Warmed39 s.vm) {own R0 O n d host : String} {index : Nat} (hown : s.vm.findClass own = some m.cls) (hw : (Cond.fieldLink own index R0 n d).before a0 Z = true ∨ (Cond.fieldLinkNest own index R0 n d host).before a0 Z = true) (via : Via Z R0 O n d) {a : Addr} {v : Value} (F : Fld Z h a O n d v) (hd : decode c.code pc = .ok (.getfield index, 3)) (hq : q = pc + 3) (G : Go p l e R s m args below meth c n0 C N Q h ce sl q Ls (v :: st)) : Go p l e R s m args below meth c n0 C N Q h ce sl pc Ls (.ref a :: st) := by
  subst hq
  exact Go.law (fun T locs X eT => Jvm.RoadKit.getF X hx hZ hown hw via eT F (g := mkF m pc Ls (.ref a :: st)) rfl rfl hd) G
theorem Go.getS (hx : p.tables.exec = Jvm.exec) (hZ : Z.Warmed39 s.vm) {own R0 O n d host : String} {index : Nat} (hown : s.vm.findClass own = some m.cls) (hw : (Cond.fieldLink own index R0 n d).before a0 Z = true ∨ (Cond.fieldLinkNest own index R0 n d host).before a0 Z = true) (via : Via Z R0 O n d) {v : Value} (F : Sta Z h O n d v) (hd : decode c.code pc = .ok (.getstatic index, 3)) (hq : q = pc + 3) (G : Go p l e R s m args below meth c n0 C N Q h ce sl q Ls (v :: st)) : Go p l e R s m args below meth c n0 C N Q h ce sl pc Ls st := by
  subst hq
  exact Go.law (fun T locs X eT => Jvm.RoadKit.getS2 (host := host) X hx hZ hown hw via eT F (g := mkF m pc Ls st) rfl hd) G
theorem Go.putF (hx : p.tables.exec = Jvm.exec) (hZ : Z.Warmed39 s.vm) {own R0 O n d host C' : String} {index kk : Nat} {ty : FieldType} (hown : s.vm.findClass own = some m.cls) (hw : (Cond.fieldLink own index R0 n d).before a0 Z = true ∨ (Cond.fieldLinkNest own index R0 n d host).before a0 Z = true) (via : Via Z R0 O n d) {a : Addr} {v old : Value} (F : Fld Z h a O n d old) (E : Exa Z h a C') (L : (Cond.lays C' O n d).before a0 Z = true ∨ ((Cond.laysFinal C' O n d).before a0 Z = true ∧ own = O ∧ meth.name = "<init>")) (wi : (Cond.instantiable C' kk).before a0 Z = true)
    (hty : parseFieldDescriptor d = some ty) (hn : narrow ty v = v) (hf : fits ty v = true) (ha : n0 ≤ a) (hd : decode c.code pc = .ok (.putfield index, 3)) (hq : q = pc + 3) (G : ∀ h', Wr h h' a (Jvm.RoadKit.slotOf Z O n d) v → Go p l e R s m args below meth c n0 C N Q h' ce sl q Ls st) : Go p l e R s m args below meth c n0 C N Q h ce sl pc Ls (v :: .ref a :: st) := fun T locs X Nf eT => by
  subst hq
  obtain ⟨T', h', X', eT', W, hs⟩ := Jvm.RoadKit.putF X hx hZ hown hw via eT F E L wi hty hn hf (g := mkF m pc Ls (v :: .ref a :: st)) rfl rfl hd
  obtain ⟨s₂, v', L', S, r⟩ := G h' W T' _ X' (Fr.snoc X' Nf ha) eT'
  exact ⟨s₂, v', L', hs _ S, r⟩
theorem Go.newO (hx : p.tables.exec = Jvm.exec) (hZ : Z.Warmed39 s.vm) {own C' : String} {index n ce' sl' : Nat} (hown : s.vm.findClass own = some m.cls) (w1 : (Cond.classLink own index C').before a0 Z = true) (wi : (Cond.instantiable C' n).before a0 Z = true) (wz : (Cond.initialized C').before a0 Z = true) (hd : decode c.code pc = .ok (.new index, 3)) (hq : q = pc + 3) (hce : ce + 1 = ce') (hsl : sl + n = sl') (hc : ce' ≤ R.cells) (hl : sl' ≤ R.slots)
    (G : ∀ (h' : Heap) (a : Addr), a = h.size → Ext h h' → Exa Z h' a C' → (∀ {O nm d : String} {ty : FieldType}, Laid Z a0 C' O nm d → parseFieldDescriptor d = some ty → Fld Z h' a O nm d (defaultValue ty)) → Go p l e R s m args below meth c n0 C N Q h' ce' sl' q Ls (.ref a :: st)) : Go p l e R s m args below meth c n0 C N Q h ce sl pc Ls st := fun T locs X Nf eT => by
  subst hq hce hsl
  obtain ⟨T', h', X', eT', E, A, D, -, hs⟩ := Jvm.RoadKit.newO X hx hZ hown w1 wi wz eT (g := mkF m pc Ls st) rfl hd hc hl
  obtain ⟨s₂, v', L', S, r⟩ := G h' _ rfl E A D T' _ X' Nf eT'
  exact ⟨s₂, v', L', hs _ S, r⟩
theorem Go.newP (hx : p.tables.exec = Jvm.exec) (hZ : Z.Warmed39 s.vm) {aty : ArrayType} {cap ce' sl' : Nat} (wa : (Cond.arrayClass (newarray.typeOf aty)).before a0 Z = true) {n : Int32} (hn : ¬ n < 0) (hcap : n.toNatClampNeg ≤ cap) (hd : decode c.code pc = .ok (.newarray aty, 2)) (hq : q = pc + 2) (hb : cap * 8 ≤ 536870912) (hce : ce + 1 = ce') (hsl : sl + cap = sl') (hc : ce' ≤ R.cells) (hl : sl' ≤ R.slots)
    (G : ∀ (h' : Heap) (a : Addr) (k : ClassId), a = h.size → Ext h h' → Arv Z h' a k (newarray.typeOf aty) n [] (defaultValue (newarray.typeOf aty)) → Go p l e R s m args below meth c n0 C N Q h' ce' sl' q Ls (.ref a :: st)) : Go p l e R s m args below meth c n0 C N Q h ce sl pc Ls (.int n :: st) := fun T locs X Nf eT => by
  subst hq hce hsl
  obtain ⟨T', h', k, X', eT', E, A, hs⟩ := Jvm.RoadKit.newP X hx hZ wa eT (g := mkF m pc Ls (.int n :: st)) rfl hd rfl hn hcap hb hc hl
  obtain ⟨s₂, v', L', S, r⟩ := G h' _ k rfl E (Arv.new A hn) T' _ X' Nf eT'
  exact ⟨s₂, v', L', hs _ S, r⟩
theorem Go.newR (hx : p.tables.exec = Jvm.exec) (hZ : Z.Warmed39 s.vm) {own C' : String} {index cap ce' sl' : Nat} (hown : s.vm.findClass own = some m.cls) (w1 : (Cond.classLink own index C').before a0 Z = true) (w2 : (Cond.arrayOver (.object C')).before a0 Z = true) {n : Int32} (hn : ¬ n < 0) (hcap : n.toNatClampNeg ≤ cap) (hd : decode c.code pc = .ok (.anewarray index, 3)) (hq : q = pc + 3) (hb : cap * 8 ≤ 536870912) (hce : ce + 1 = ce') (hsl : sl + cap = sl') (hc : ce' ≤ R.cells) (hl : sl' ≤ R.slots)
    (G : ∀ (h' : Heap) (a : Addr) (k : ClassId), a = h.size → Ext h h' → Arv Z h' a k (.object C') n [] .null → Ovr Z k C' → Go p l e R s m args below meth c n0 C N Q h' ce' sl' q Ls (.ref a :: st)) : Go p l e R s m args below meth c n0 C N Q h ce sl pc Ls (.int n :: st) := fun T locs X Nf eT => by
  subst hq hce hsl
  obtain ⟨T', h', k, X', eT', E, A, O, hs⟩ := Jvm.RoadKit.newR X hx hZ hown w1 w2 eT (g := mkF m pc Ls (.int n :: st)) rfl hd rfl hn hcap hb hc hl
  obtain ⟨s₂, v', L', S, r⟩ := G h' _ k rfl E (Arv.new A hn) O T' _ X' Nf eT'
  exact ⟨s₂, v', L', hs _ S, r⟩
theorem Go.initO (hx : p.tables.exec = Jvm.exec) (hZ : Z.Warmed39 s.vm) {own : String} {idx : Nat} (hown : s.vm.findClass own = some m.cls) (w1 : (Cond.methodLink own idx Lib.objectInit).before a0 Z = true) (w2 : (Cond.instanceMethod Lib.objectInit).before a0 Z = true) (w3 : (Cond.code Lib.objectInit ⟨#[0xb1]⟩ 1 none).before a0 Z = true) (hsize : Ls.size = c.maxLocals) {a : Addr} (hd : decode c.code pc = .ok (.invokespecial idx, 3)) (hq : q = pc + 3) (hf : 1 ≤ R.frames) (hl : (st.map fun v => v.category).sum + 12 ≤ R.locals) (G : Go p l e R s m args below meth c n0 C N Q h ce sl q Ls st) : Go p l e R s m args below meth c n0 C N Q h ce sl pc Ls (.ref a :: st) := by
  subst hq
  exact Go.law (fun T locs X eT => Jvm.RoadKit.initO X hx hZ hown w1 w2 w3 eT (g := mkF m pc Ls (.ref a :: st)) rfl hsize rfl hd hf (W := (st.map fun v => v.category).sum) (by show 2 * 0 + _ ≤ _; omega) hl) G
theorem Go.castY (hx : p.tables.exec = Jvm.exec) (hZ : Z.Warmed39 s.vm) {own K : String} {index : Nat} (hown : s.vm.findClass own = some m.cls) (w1 : (Cond.classLink own index K).before a0 Z = true) {a : Addr} (F : Ins Z h a K true) (hd : decode c.code pc = .ok (.checkcast index, 3)) (hq : q = pc + 3) (G : Go p l e R s m args below meth c n0 C N Q h ce sl q Ls (.ref a :: st)) : Go p l e R s m args below meth c n0 C N Q h ce sl pc Ls (.ref a :: st) := by
  subst hq
  exact Go.law (fun T locs X eT => Jvm.RoadKit.castY X hx hZ hown w1 eT F (g := mkF m pc Ls (.ref a :: st)) rfl rfl hd) G
theorem Go.instY (hx : p.tables.exec = Jvm.exec) (hZ : Z.Warmed39 s.vm) {own K : String} {index : Nat} (hown : s.vm.findClass own = some m.cls) (w1 : (Cond.classLink own index K).before a0 Z = true) {a : Addr} (F : Ins Z h a K true) (hd : decode c.code pc = .ok (.instanceof index, 3)) (hq : q = pc + 3) (G : Go p l e R s m args below meth c n0 C N Q h ce sl q Ls (.int 1 :: st)) : Go p l e R s m args below meth c n0 C N Q h ce sl pc Ls (.ref a :: st) := by
  subst hq
  exact Go.law (fun T locs X eT => Jvm.RoadKit.instY X hx hZ hown w1 eT F (g := mkF m pc Ls (.ref a :: st)) rfl rfl hd) G
theorem Go.alen (hx : p.tables.exec = Jvm.exec) (hZ : Z.Warmed39 s.vm) {a : Addr} {k : ClassId} {ty : FieldType} {n : Int32} {vs : List Value} {dv : Value} (A : Arv Z h a k ty n vs dv) (hd : decode c.code pc = .ok (.arraylength, 1)) (hq : q = pc + 1) (G : Go p l e R s m args below meth c n0 C N Q h ce sl q Ls (.int n :: st)) : Go p l e R s m args below meth c n0 C N Q h ce sl pc Ls (.ref a :: st) := by
  subst hq
  obtain ⟨cl, Ar, q1, S1, N1, H1, F1⟩ := A
  refine Go.step (fun T locs target X eT S => X.arraylength hx (by rw [eT]; exact Ar.1) (State.isArrayOf_alike hZ.alike Ar.2.1) (g := mkF m pc Ls (.ref a :: st)) rfl rfl hd target ?_) G
  rw [len_of S1 N1]; exact S
theorem Go.baload (hx : p.tables.exec = Jvm.exec) (hZ : Z.Warmed39 s.vm) {a : Addr} {k : ClassId} {n j : Int32} {vs : List Value} {dv v : Value} (A : Arv Z h a k .byte n vs dv) (hj : ¬ j < 0 ∧ j < n) (hv : vs.getD j.toNatClampNeg dv = v) (hd : decode c.code pc = .ok (.baload, 1)) (hq : q = pc + 1) (G : Go p l e R s m args below meth c n0 C N Q h ce sl q Ls (v :: st)) : Go p l e R s m args below meth c n0 C N Q h ce sl pc Ls (.int j :: .ref a :: st) := by
  subst hq
  obtain ⟨cl, Ar, q1, S1, N1, H1, F1⟩ := A
  exact Go.step (fun T locs target X eT S => X.baloadBytes hx (by rw [eT]; exact Ar.1) (State.isArrayOf_alike hZ.alike Ar.2.1) Ar.2.2 (inb_of S1 hj) (H1.at (inb_of S1 hj) hv) (g := mkF m pc Ls (.int j :: .ref a :: st)) rfl rfl hd target S) G
theorem Go.zaload (hx : p.tables.exec = Jvm.exec) (hZ : Z.Warmed39 s.vm) {a : Addr} {k : ClassId} {n j : Int32} {vs : List Value} {dv v : Value} (A : Arv Z h a k .boolean n vs dv) (hj : ¬ j < 0 ∧ j < n) (hv : vs.getD j.toNatClampNeg dv = v) (hd : decode c.code pc = .ok (.baload, 1)) (hq : q = pc + 1) (G : Go p l e R s m args below meth c n0 C N Q h ce sl q Ls (v :: st)) : Go p l e R s m args below meth c n0 C N Q h ce sl pc Ls (.int j :: .ref a :: st) := by
  subst hq
  obtain ⟨cl, Ar, q1, S1, N1, H1, F1⟩ := A
  exact Go.step (fun T locs target X eT S => X.baloadBooleans hx (by rw [eT]; exact Ar.1) (State.isArrayOf_alike hZ.alike Ar.2.1) Ar.2.2 (inb_of S1 hj) (H1.at (inb_of S1 hj) hv) (g := mkF m pc Ls (.int j :: .ref a :: st)) rfl rfl hd target S) G
theorem Go.caload (hx : p.tables.exec = Jvm.exec) (hZ : Z.Warmed39 s.vm) {a : Addr} {k : ClassId} {n j : Int32} {vs : List Value} {dv v : Value} (A : Arv Z h a k .char n vs dv) (hj : ¬ j < 0 ∧ j < n) (hv : vs.getD j.toNatClampNeg dv = v) (hd : decode c.code pc = .ok (.caload, 1)) (hq : q = pc + 1) (G : Go p l e R s m args below meth c n0 C N Q h ce sl q Ls (v :: st)) : Go p l e R s m args below meth c n0 C N Q h ce sl pc Ls (.int j :: .ref a :: st) := by
  subst hq
  obtain ⟨cl, Ar, q1, S1, N1, H1, F1⟩ := A
  exact Go.step (fun T locs target X eT S => X.caload hx (by rw [eT]; exact Ar.1) (State.isArrayOf_alike hZ.alike Ar.2.1) Ar.2.2 (inb_of S1 hj) (H1.at (inb_of S1 hj) hv) (g := mkF m pc Ls (.int j :: .ref a :: st)) rfl rfl hd target S) G
theorem Go.saload (hx : p.tables.exec = Jvm.exec) (hZ : Z.Warmed39 s.vm) {a : Addr} {k : ClassId} {n j : Int32} {vs : List Value} {dv v : Value} (A : Arv Z h a k .short n vs dv) (hj : ¬ j < 0 ∧ j < n) (hv : vs.getD j.toNatClampNeg dv = v) (hd : decode c.code pc = .ok (.saload, 1)) (hq : q = pc + 1) (G : Go p l e R s m args below meth c n0 C N Q h ce sl q Ls (v :: st)) : Go p l e R s m args below meth c n0 C N Q h ce sl pc Ls (.int j :: .ref a :: st) := by
  subst hq
  obtain ⟨cl, Ar, q1, S1, N1, H1, F1⟩ := A
  exact Go.step (fun T locs target X eT S => X.saload hx (by rw [eT]; exact Ar.1) (State.isArrayOf_alike hZ.alike Ar.2.1) Ar.2.2 (inb_of S1 hj) (H1.at (inb_of S1 hj) hv) (g := mkF m pc Ls (.int j :: .ref a :: st)) rfl rfl hd target S) G
theorem Go.iaload (hx : p.tables.exec = Jvm.exec) (hZ : Z.Warmed39 s.vm) {a : Addr} {k : ClassId} {n j : Int32} {vs : List Value} {dv v : Value} (A : Arv Z h a k .int n vs dv) (hj : ¬ j < 0 ∧ j < n) (hv : vs.getD j.toNatClampNeg dv = v) (hd : decode c.code pc = .ok (.iaload, 1)) (hq : q = pc + 1) (G : Go p l e R s m args below meth c n0 C N Q h ce sl q Ls (v :: st)) : Go p l e R s m args below meth c n0 C N Q h ce sl pc Ls (.int j :: .ref a :: st) := by
  subst hq
  obtain ⟨cl, Ar, q1, S1, N1, H1, F1⟩ := A
  exact Go.step (fun T locs target X eT S => X.iaload hx (by rw [eT]; exact Ar.1) (State.isArrayOf_alike hZ.alike Ar.2.1) Ar.2.2 (inb_of S1 hj) (H1.at (inb_of S1 hj) hv) (g := mkF m pc Ls (.int j :: .ref a :: st)) rfl rfl hd target S) G
theorem Go.laload (hx : p.tables.exec = Jvm.exec) (hZ : Z.Warmed39 s.vm) {a : Addr} {k : ClassId} {n j : Int32} {vs : List Value} {dv v : Value} (A : Arv Z h a k .long n vs dv) (hj : ¬ j < 0 ∧ j < n) (hv : vs.getD j.toNatClampNeg dv = v) (hd : decode c.code pc = .ok (.laload, 1)) (hq : q = pc + 1) (G : Go p l e R s m args below meth c n0 C N Q h ce sl q Ls (v :: st)) : Go p l e R s m args below meth c n0 C N Q h ce sl pc Ls (.int j :: .ref a :: st) := by
  subst hq
  obtain ⟨cl, Ar, q1, S1, N1, H1, F1⟩ := A
  exact Go.step (fun T locs target X eT S => X.laload hx (by rw [eT]; exact Ar.1) (State.isArrayOf_alike hZ.alike Ar.2.1) Ar.2.2 (inb_of S1 hj) (H1.at (inb_of S1 hj) hv) (g := mkF m pc Ls (.int j :: .ref a :: st)) rfl rfl hd target S) G
theorem Go.aaload (hx : p.tables.exec = Jvm.exec) (hZ : Z.Warmed39 s.vm) {a : Addr} {k : ClassId} {ty : FieldType} {n j : Int32} {vs : List Value} {dv v : Value} (A : Arv Z h a k ty n vs dv) (hty : ty.isReference = true) (hj : ¬ j < 0 ∧ j < n) (hv : vs.getD j.toNatClampNeg dv = v) (hd : decode c.code pc = .ok (.aaload, 1)) (hq : q = pc + 1) (G : Go p l e R s m args below meth c n0 C N Q h ce sl q Ls (v :: st)) : Go p l e R s m args below meth c n0 C N Q h ce sl pc Ls (.int j :: .ref a :: st) := by
  subst hq
  obtain ⟨cl, Ar, q1, S1, N1, H1, F1⟩ := A
  exact Go.step (fun T locs target X eT S => X.aaload hx (by rw [eT]; exact Ar.1) (State.isArrayOf_alike hZ.alike Ar.2.1) hty Ar.2.2 (inb_of S1 hj) (H1.at (inb_of S1 hj) hv) (g := mkF m pc Ls (.int j :: .ref a :: st)) rfl rfl hd target S) G
theorem Go.bastore (hx : p.tables.exec = Jvm.exec) (hZ : Z.Warmed39 s.vm) {a : Addr} {k : ClassId} {n j x : Int32} {vs : List Value} {dv : Value} (A : Arv Z h a k .byte n vs dv) (hj : ¬ j < 0 ∧ j < n) (i : Nat) (hi : j.toNatClampNeg = i) (hlen : i < vs.length) (ha : n0 ≤ a) (hd : decode c.code pc = .ok (.bastore, 1)) (hq : q = pc + 1)
    (G : ∀ h', Wr h h' a j.toNatClampNeg (.int (nar .byte x)) → Arv Z h' a k .byte n (vs.set i (.int (nar .byte x))) dv → Go p l e R s m args below meth c n0 C N Q h' ce sl q Ls st) : Go p l e R s m args below meth c n0 C N Q h ce sl pc Ls (.int x :: .int j :: .ref a :: st) := fun T locs X Nf eT => by
  subst hq
  obtain ⟨cl, Ar, q1, S1, N1, H1, F1⟩ := A
  obtain ⟨T', h', X', eT', W, hs⟩ := stB X hx hZ eT Ar (inb_of S1 hj) (g := mkF m pc Ls (.int x :: .int j :: .ref a :: st)) rfl rfl hd
  obtain ⟨s₂, v', L', S, r⟩ := G h' W (Arv.set Ar q1 S1 N1 H1 F1 (fits_nar_byte _) W i hi hlen) T' _ X' (Fr.snoc X' Nf ha) eT'
  exact ⟨s₂, v', L', hs _ S, r⟩
theorem Go.zastore (hx : p.tables.exec = Jvm.exec) (hZ : Z.Warmed39 s.vm) {a : Addr} {k : ClassId} {n j x : Int32} {vs : List Value} {dv : Value} (A : Arv Z h a k .boolean n vs dv) (hj : ¬ j < 0 ∧ j < n) (i : Nat) (hi : j.toNatClampNeg = i) (hlen : i < vs.length) (ha : n0 ≤ a) (hd : decode c.code pc = .ok (.bastore, 1)) (hq : q = pc + 1)
    (G : ∀ h', Wr h h' a j.toNatClampNeg (.int (nar .boolean x)) → Arv Z h' a k .boolean n (vs.set i (.int (nar .boolean x))) dv → Go p l e R s m args below meth c n0 C N Q h' ce sl q Ls st) : Go p l e R s m args below meth c n0 C N Q h ce sl pc Ls (.int x :: .int j :: .ref a :: st) := fun T locs X Nf eT => by
  subst hq
  obtain ⟨cl, Ar, q1, S1, N1, H1, F1⟩ := A
  obtain ⟨T', h', X', eT', W, hs⟩ := stZ X hx hZ eT Ar (inb_of S1 hj) (g := mkF m pc Ls (.int x :: .int j :: .ref a :: st)) rfl rfl hd
  obtain ⟨s₂, v', L', S, r⟩ := G h' W (Arv.set Ar q1 S1 N1 H1 F1 (fits_nar_bool _) W i hi hlen) T' _ X' (Fr.snoc X' Nf ha) eT'
  exact ⟨s₂, v', L', hs _ S, r⟩
theorem Go.castore (hx : p.tables.exec = Jvm.exec) (hZ : Z.Warmed39 s.vm) {a : Addr} {k : ClassId} {n j x : Int32} {vs : List Value} {dv : Value} (A : Arv Z h a k .char n vs dv) (hj : ¬ j < 0 ∧ j < n) (i : Nat) (hi : j.toNatClampNeg = i) (hlen : i < vs.length) (ha : n0 ≤ a) (hd : decode c.code pc = .ok (.castore, 1)) (hq : q = pc + 1)
    (G : ∀ h', Wr h h' a j.toNatClampNeg (.int (nar .char x)) → Arv Z h' a k .char n (vs.set i (.int (nar .char x))) dv → Go p l e R s m args below meth c n0 C N Q h' ce sl q Ls st) : Go p l e R s m args below meth c n0 C N Q h ce sl pc Ls (.int x :: .int j :: .ref a :: st) := fun T locs X Nf eT => by
  subst hq
  obtain ⟨cl, Ar, q1, S1, N1, H1, F1⟩ := A
  obtain ⟨T', h', X', eT', W, hs⟩ := stC X hx hZ eT Ar (inb_of S1 hj) (g := mkF m pc Ls (.int x :: .int j :: .ref a :: st)) rfl rfl hd
  obtain ⟨s₂, v', L', S, r⟩ := G h' W (Arv.set Ar q1 S1 N1 H1 F1 (fits_nar_char _) W i hi hlen) T' _ X' (Fr.snoc X' Nf ha) eT'
  exact ⟨s₂, v', L', hs _ S, r⟩
theorem Go.sastore (hx : p.tables.exec = Jvm.exec) (hZ : Z.Warmed39 s.vm) {a : Addr} {k : ClassId} {n j x : Int32} {vs : List Value} {dv : Value} (A : Arv Z h a k .short n vs dv) (hj : ¬ j < 0 ∧ j < n) (i : Nat) (hi : j.toNatClampNeg = i) (hlen : i < vs.length) (ha : n0 ≤ a) (hd : decode c.code pc = .ok (.sastore, 1)) (hq : q = pc + 1)
    (G : ∀ h', Wr h h' a j.toNatClampNeg (.int (nar .short x)) → Arv Z h' a k .short n (vs.set i (.int (nar .short x))) dv → Go p l e R s m args below meth c n0 C N Q h' ce sl q Ls st) : Go p l e R s m args below meth c n0 C N Q h ce sl pc Ls (.int x :: .int j :: .ref a :: st) := fun T locs X Nf eT => by
  subst hq
  obtain ⟨cl, Ar, q1, S1, N1, H1, F1⟩ := A
  obtain ⟨T', h', X', eT', W, hs⟩ := stS X hx hZ eT Ar (inb_of S1 hj) (g := mkF m pc Ls (.int x :: .int j :: .ref a :: st)) rfl rfl hd
  obtain ⟨s₂, v', L', S, r⟩ := G h' W (Arv.set Ar q1 S1 N1 H1 F1 (fits_nar_short _) W i hi hlen) T' _ X' (Fr.snoc X' Nf ha) eT'
  exact ⟨s₂, v', L', hs _ S, r⟩
theorem Go.iastore (hx : p.tables.exec = Jvm.exec) (hZ : Z.Warmed39 s.vm) {a : Addr} {k : ClassId} {n j x : Int32} {vs : List Value} {dv : Value} (A : Arv Z h a k .int n vs dv) (hj : ¬ j < 0 ∧ j < n) (i : Nat) (hi : j.toNatClampNeg = i) (hlen : i < vs.length) (ha : n0 ≤ a) (hd : decode c.code pc = .ok (.iastore, 1)) (hq : q = pc + 1)
    (G : ∀ h', Wr h h' a j.toNatClampNeg (.int x) → Arv Z h' a k .int n (vs.set i (.int x)) dv → Go p l e R s m args below meth c n0 C N Q h' ce sl q Ls st) : Go p l e R s m args below meth c n0 C N Q h ce sl pc Ls (.int x :: .int j :: .ref a :: st) := fun T locs X Nf eT => by
  subst hq
  obtain ⟨cl, Ar, q1, S1, N1, H1, F1⟩ := A
  obtain ⟨T', h', X', eT', W, hs⟩ := stI X hx hZ eT Ar (inb_of S1 hj) (g := mkF m pc Ls (.int x :: .int j :: .ref a :: st)) rfl rfl hd
  obtain ⟨s₂, v', L', S, r⟩ := G h' W (Arv.set Ar q1 S1 N1 H1 F1 (rfl) W i hi hlen) T' _ X' (Fr.snoc X' Nf ha) eT'
  exact ⟨s₂, v', L', hs _ S, r⟩
theorem Go.aastore (hx : p.tables.exec = Jvm.exec) (hZ : Z.Warmed39 s.vm) {a : Addr} {k : ClassId} {C' : String} {n j : Int32} {x : Value} {vs : List Value} {dv : Value} (A : Arv Z h a k (.object C') n vs dv) (F : Sto Z h a x) (hxr : x.isRef = true) (hj : ¬ j < 0 ∧ j < n) (i : Nat) (hi : j.toNatClampNeg = i) (hlen : i < vs.length) (ha : n0 ≤ a) (hd : decode c.code pc = .ok (.aastore, 1)) (hq : q = pc + 1)
    (G : ∀ h', Wr h h' a j.toNatClampNeg x → Arv Z h' a k (.object C') n (vs.set i x) dv → Go p l e R s m args below meth c n0 C N Q h' ce sl q Ls st) : Go p l e R s m args below meth c n0 C N Q h ce sl pc Ls (x :: .int j :: .ref a :: st) := fun T locs X Nf eT => by
  subst hq
  obtain ⟨cl, Ar, q1, S1, N1, H1, F1⟩ := A
  obtain ⟨T', h', X', eT', W, hs⟩ := stR X hx hZ eT Ar (inb_of S1 hj) rfl F (g := mkF m pc Ls (x :: .int j :: .ref a :: st)) rfl rfl hd
  obtain ⟨s₂, v', L', S, r⟩ := G h' W (Arv.set Ar q1 S1 N1 H1 F1 (by rcases ref_cases hxr with rfl | ⟨y, rfl⟩ <;> rfl) W i hi hlen) T' _ X' (Fr.snoc X' Nf ha) eT'
  exact ⟨s₂, v', L', hs _ S, r⟩
theorem Go.callS (hx : p.tables.exec = Jvm.exec) (hZ : Z.Warmed39 s.vm) {own : String} {index : Nat} {y : MethodName} {bytes : ByteArray} {maxL : Nat} {rt r' : Option FieldType} {ps : List FieldType} {rm : Room} {Qc : Option Value → Heap → Prop} {argsL rest : List Value} {ce' sl' : Nat} (hown : s.vm.findClass own = some m.cls) (w1 : (Cond.methodLink own index y).before a0 Z = true) (w2 : (Cond.static y).before a0 Z = true) (w3 : (Cond.initialized y.cls).before a0 Z = true) (w4 : (Cond.code y bytes maxL rt).before a0 Z = true) (hy : y.cls ≠ "java/lang/invoke/MethodHandle" ∧ y.cls ≠ "java/lang/invoke/VarHandle")
    (hM : Met l Z y bytes maxL rt [] rm argsL.toArray h n0 Qc) (hsize : Ls.size = c.maxLocals) (hpd : parseMethodDescriptor y.desc = some ⟨ps, r'⟩) (hlen : argsL.length = ps.length) (hst : st = argsL.reverse ++ rest) (hd : decode c.code pc = .ok (.invokestatic index, 3)) (hq : q = pc + 3) (hf : rm.frames + 1 ≤ R.frames) (hl : (rest.map fun v => v.category).sum + (maxL + 11) + rm.locals ≤ R.locals) (hce : ce + rm.cells = ce') (hsl : sl + rm.slots = sl') (hc : ce' ≤ R.cells) (hs : sl' ≤ R.slots)
    (G : ∀ (v : Option Value) (h' : Heap), Qc v h' → Go p l e R s m args below meth c n0 C N Q h' ce' sl' q Ls (v.toList ++ rest)) : Go p l e R s m args below meth c n0 C N Q h ce sl pc Ls st := fun T locs X Nf eT => by
  subst hq hce hsl
  obtain ⟨v, _, ⟨T', L', k', n'⟩, -, X', ⟨Lc, ⟨hQ, hF⟩, hl1, hl2, hl3⟩, hst'⟩ := Jvm.LawKit.callS X hx hown (mvT hZ w1) (mvT hZ w2) (mvT hZ w3) (mvT hZ w4) hy (backOf (W := (rest.map fun v => v.category).sum) (Q := fun v h' L => Qc v h' ∧ Fr n0 L) hM hZ w4 w3 hf hl) (g := mkF m pc Ls st) rfl hsize (argsL := argsL) (rest := rest) (lenOf hpd hlen) hst (by show 2 * 0 + _ ≤ _; omega) hd (fun _ _ => ⟨rfl, eT, hc, hs⟩)
  dsimp only [Pt.U, Pt.locs, Pt.cells, Pt.slots] at X' hl1 hl2 hl3 hst' hQ
  subst hl1 hl2 hl3
  obtain ⟨s₂, v', L'', S, r⟩ := G v _ hQ T' _ X' (Fr.app Nf hF) rfl
  exact ⟨s₂, v', L'', hst' _ S, r⟩
theorem Go.callI (hx : p.tables.exec = Jvm.exec) (hZ : Z.Warmed39 s.vm) {own : String} {index : Nat} {y : MethodName} {bytes : ByteArray} {maxL : Nat} {r' : Option FieldType} {ps : List FieldType} {rm : Room} {Qc : Option Value → Heap → Prop} {a : Addr} {argsL rest : List Value} {ce' sl' : Nat} (hown : s.vm.findClass own = some m.cls) (hnm : y.name = "<init>") (w1 : (Cond.methodLink own index y).before a0 Z = true) (w2 : (Cond.instanceMethod y).before a0 Z = true) (w3 : (Cond.initialized y.cls).before a0 Z = true) (w4 : (Cond.code y bytes maxL none).before a0 Z = true) (hy : y.cls ≠ "java/lang/invoke/MethodHandle" ∧ y.cls ≠ "java/lang/invoke/VarHandle")
    (hM : Met l Z y bytes maxL none [] rm (.ref a :: argsL).toArray h n0 Qc) (hsize : Ls.size = c.maxLocals) (hpd : parseMethodDescriptor y.desc = some ⟨ps, r'⟩) (hlen : argsL.length = ps.length) (hst : st = argsL.reverse ++ .ref a :: rest) (hd : decode c.code pc = .ok (.invokespecial index, 3)) (hq : q = pc + 3) (hf : rm.frames + 1 ≤ R.frames) (hl : (rest.map fun v => v.category).sum + (maxL + 11) + rm.locals ≤ R.locals) (hce : ce + rm.cells = ce') (hsl : sl + rm.slots = sl') (hc : ce' ≤ R.cells) (hs : sl' ≤ R.slots)
    (G : ∀ (v : Option Value) (h' : Heap), Qc v h' → Go p l e R s m args below meth c n0 C N Q h' ce' sl' q Ls (v.toList ++ rest)) : Go p l e R s m args below meth c n0 C N Q h ce sl pc Ls st := fun T locs X Nf eT => by
  subst hq hce hsl
  obtain ⟨v, _, ⟨T', L', k', n'⟩, -, X', ⟨Lc, ⟨hQ, hF⟩, hl1, hl2, hl3⟩, hst'⟩ := X.specialBack hx hnm hown (mvT hZ w1) (mvT hZ w2) (mvT hZ w4) hy (backOf (W := (rest.map fun v => v.category).sum) (Q := fun v h' L => Qc v h' ∧ Fr n0 L) hM hZ w4 w3 hf hl) (g := mkF m pc Ls st) rfl hsize (Steps.refl _) (a := a) (argsL := argsL) (rest := rest) (lenOf hpd hlen) hst (by show 2 * 0 + _ ≤ _; omega) hd (fun _ _ => ⟨rfl, eT, hc, hs⟩)
  dsimp only [Pt.U, Pt.locs, Pt.cells, Pt.slots] at X' hl1 hl2 hl3 hst' hQ
  subst hl1 hl2 hl3
  obtain ⟨s₂, v', L'', S, r⟩ := G v _ hQ T' _ X' (Fr.app Nf hF) rfl
  exact ⟨s₂, v', L'', hst'.trans S, r⟩
theorem Go.callV (hx : p.tables.exec = Jvm.exec) (hZ : Z.Warmed39 s.vm) {own C' : String} {index : Nat} {y z : MethodName} {bytes : ByteArray} {maxL : Nat} {rt r' : Option FieldType} {ps : List FieldType} {rm : Room} {Qc : Option Value → Heap → Prop} {a : Addr} {argsL rest : List Value} {ce' sl' : Nat} (hown : s.vm.findClass own = some m.cls) (w1 : (Cond.methodLink own index y).before a0 Z = true) (w2 : (Cond.declares y).before a0 Z = true) (hnf : NotFace s y) (w5 : (Cond.selects C' y z).before a0 Z = true) (w6 : (Cond.instanceMethod z).before a0 Z = true) (w3 : (Cond.initialized z.cls).before a0 Z = true) (w4 : (Cond.code z bytes maxL rt).before a0 Z = true) (hy : y.cls ≠ "java/lang/invoke/MethodHandle" ∧ y.cls ≠ "java/lang/invoke/VarHandle")
    (E : Exa Z h a C') (hM : Met l Z z bytes maxL rt [] rm (.ref a :: argsL).toArray h n0 Qc) (hsize : Ls.size = c.maxLocals) (hpd : parseMethodDescriptor y.desc = some ⟨ps, r'⟩) (hlen : argsL.length = ps.length) (hst : st = argsL.reverse ++ .ref a :: rest) (hd : decode c.code pc = .ok (.invokevirtual index, 3)) (hq : q = pc + 3) (hf : rm.frames + 1 ≤ R.frames) (hl : (rest.map fun v => v.category).sum + (maxL + 11) + rm.locals ≤ R.locals) (hce : ce + rm.cells = ce') (hsl : sl + rm.slots = sl') (hc : ce' ≤ R.cells) (hs : sl' ≤ R.slots)
    (G : ∀ (v : Option Value) (h' : Heap), Qc v h' → Go p l e R s m args below meth c n0 C N Q h' ce' sl' q Ls (v.toList ++ rest)) : Go p l e R s m args below meth c n0 C N Q h ce sl pc Ls st := fun T locs X Nf eT => by
  subst hq hce hsl
  obtain ⟨cB, kB, qa, qb, qc⟩ := isOf hZ eT E
  obtain ⟨v, _, ⟨T', L', k', n'⟩, -, X', ⟨Lc, ⟨hQ, hF⟩, hl1, hl2, hl3⟩, hst'⟩ := X.virtualBack hx hown (mvT hZ w1) (mvT hZ w2) hnf (mvT hZ w5) (mvT hZ w6) hy (backOf (W := (rest.map fun v => v.category).sum) (Q := fun v h' L => Qc v h' ∧ Fr n0 L) hM hZ w4 w3 hf hl) qa qc (g := mkF m pc Ls st) rfl hsize (Steps.refl _) (argsL := argsL) (rest := rest) (lenOf hpd hlen) hst (by show 2 * 0 + _ ≤ _; omega) hd (fun _ _ => ⟨rfl, eT, hc, hs⟩)
  dsimp only [Pt.U, Pt.locs, Pt.cells, Pt.slots] at X' hl1 hl2 hl3 hst' hQ
  subst hl1 hl2 hl3
  obtain ⟨s₂, v', L'', S, r⟩ := G v _ hQ T' _ X' (Fr.app Nf hF) rfl
  exact ⟨s₂, v', L'', hst'.trans S, r⟩
theorem Go.instNull (hx : p.tables.exec = Jvm.exec) {index : Nat} (hd : decode c.code pc = .ok (.instanceof index, 3)) (hq : q = pc + 3) (G : Go p l e R s m args below meth c n0 C N Q h ce sl q Ls (.int 0 :: st)) : Go p l e R s m args below meth c n0 C N Q h ce sl pc Ls (.null :: st) := by
  subst hq
  exact Go.step (fun T locs target X eT S => X.instanceofNull hx (g := mkF m pc Ls (.null :: st)) rfl rfl hd target S) G
theorem Go.castNull (hx : p.tables.exec = Jvm.exec) {index : Nat} (hd : decode c.code pc = .ok (.checkcast index, 3)) (hq : q = pc + 3) (G : Go p l e R s m args below meth c n0 C N Q h ce sl q Ls (.null :: st)) : Go p l e R s m args below meth c n0 C N Q h ce sl pc Ls (.null :: st) := by
  subst hq
  exact Go.step (fun T locs target X eT S => X.checkcastNull hx (g := mkF m pc Ls (.null :: st)) rfl rfl hd target S) G
theorem Go.instNo (hx : p.tables.exec = Jvm.exec) (hZ : Z.Warmed39 s.vm) {own K C' : String} {index : Nat} (hown : s.vm.findClass own = some m.cls) (w1 : (Cond.classLink own index K).before a0 Z = true) {a : Addr} (E : Exa Z h a C') (F : ∃ c t, Z.vm.findClass C' = some c ∧ Z.vm.findClass K = some t ∧ Z.vm.assignable c t = false) (hd : decode c.code pc = .ok (.instanceof index, 3)) (hq : q = pc + 3) (G : Go p l e R s m args below meth c n0 C N Q h ce sl q Ls (.int 0 :: st)) : Go p l e R s m args below meth c n0 C N Q h ce sl pc Ls (.ref a :: st) := by
  subst hq
  exact Go.law (fun T locs X eT => Jvm.RoadKit.instNo X hx hZ hown w1 eT E F (g := mkF m pc Ls (.ref a :: st)) rfl rfl hd) G
theorem Go.aaloadC (hx : p.tables.exec = Jvm.exec) (hZ : Z.Warmed39 s.vm) {a : Addr} {cl : Cell} {ty : FieldType} {j : Int32} {v : Value} (A : Arr Z h a cl ty) (hty : ty.isReference = true) (hj : ¬ (j < 0 ∨ cl.slots.size ≤ j.toNatClampNeg)) (hv : cl.slots[j.toNatClampNeg]? = some v) (hd : decode c.code pc = .ok (.aaload, 1)) (hq : q = pc + 1) (G : Go p l e R s m args below meth c n0 C N Q h ce sl q Ls (v :: st)) : Go p l e R s m args below meth c n0 C N Q h ce sl pc Ls (.int j :: .ref a :: st) := by
  subst hq
  exact Go.step (fun T locs target X eT S => X.aaload hx (by rw [eT]; exact A.1) (State.isArrayOf_alike hZ.alike A.2.1) hty A.2.2 hj hv (g := mkF m pc Ls (.int j :: .ref a :: st)) rfl rfl hd target S) G
theorem cat_ref {v : Value} (hv : v.isRef = true) : v.category = 1 := by rcases ref_cases hv with rfl | ⟨x, rfl⟩ <;> rfl
theorem nar_ref {v : Value} {t : FieldType} (hv : v.isRef = true) (ht : t.isReference = true) : narrow t v = v := by rcases ref_cases hv with rfl | ⟨x, rfl⟩ <;> cases t <;> rfl
theorem fits_of_ref {v : Value} {t : FieldType} (hv : v.isRef = true) (ht : t.isReference = true) : fits t v = true := by rcases ref_cases hv with rfl | ⟨x, rfl⟩ <;> cases t <;> first | rfl | cases ht
theorem cmpL_gt (x y : Int64) : (0 : Int32) < XT.cmpL x y ↔ y < x := by
  unfold XT.cmpL; split <;> (try split) <;> simp_all <;> decide
theorem cmpL_lt (x y : Int64) : XT.cmpL x y < (0 : Int32) ↔ x < y := by
  unfold XT.cmpL; split <;> (try split) <;> simp_all [Int64.lt_iff_toInt_lt, ← Int64.toInt_inj, Int32.lt_iff_toInt_lt] <;> omega
theorem cmpL_eq (x y : Int64) : XT.cmpL x y = (0 : Int32) ↔ x = y := by
  unfold XT.cmpL; split <;> (try split) <;> simp_all [Int64.lt_iff_toInt_lt, ← Int64.toInt_inj] <;> omega
theorem ns_root {K O : String} {kn : Nat} (w1 : (Cond.noSuperclass O).before a0 Z = true) (wk : (Cond.instantiable K kn).before a0 Z = true) (hn : O ≠ K) : NS Z O K := by
  obtain ⟨c, k, h1, h2, h3, -, -⟩ := Cond.noSuperclass_spec w1
  obtain ⟨t, kt, g1, -⟩ := Cond.instantiable_spec wk
  have ne := ids_ne h1 g1 hn
  refine ⟨c, t, h1, g1, fun fuel => ?_⟩
  cases fuel with
  | zero => rfl
  | succ f => simp [Vm.isSubclassAux, ne, h2, h3]
theorem ns_no {C' S K : String} {kn : Nat} (w1 : (Cond.superclass C' S).before a0 Z = true) (wk : (Cond.instantiable K kn).before a0 Z = true) (nn : NS Z C' K) (hn : C' ≠ K) : ∃ c t, Z.vm.findClass C' = some c ∧ Z.vm.findClass K = some t ∧ Z.vm.assignable c t = false := by
  obtain ⟨c, t, h0, g0, n3⟩ := nn
  obtain ⟨p, k, kp, h1, h2, h3, h4, h5, -, h7⟩ := Cond.superclass_spec h0 w1
  obtain ⟨t', kt, g1, g2, g5, g7, -⟩ := Cond.instantiable_spec wk
  cases g0.symm.trans g1
  have g8 : kt.isInterface = false := by rw [Bool.or_eq_false_iff] at g7; exact g7.1
  have ne := ids_ne h0 g0 hn
  refine ⟨c, t, h0, g0, ?_⟩
  show Z.vm.assignableAux (255 + 1) c t = false
  simp [Vm.assignableAux, ne, h2, g2, h5, g5, g8, Vm.isSubclass, n3]
end OwnKit
def imin (x y : Int32) : Int32 := if y < x then y else x
def imax (x y : Int32) : Int32 := if x < y then y else x
def lmin (x y : Int64) : Int64 := if y < x then y else x
theorem imin_toInt (x y : Int32) : (imin x y).toInt = if y.toInt < x.toInt then y.toInt else x.toInt := by
  unfold imin; by_cases h : y < x
  · rw [if_pos h, if_pos (Int32.lt_iff_toInt_lt.mp h)]
  · rw [if_neg h, if_neg (fun q => h (Int32.lt_iff_toInt_lt.mpr q))]
theorem imax_toInt (x y : Int32) : (imax x y).toInt = if x.toInt < y.toInt then y.toInt else x.toInt := by
  unfold imax; by_cases h : x < y
  · rw [if_pos h, if_pos (Int32.lt_iff_toInt_lt.mp h)]
  · rw [if_neg h, if_neg (fun q => h (Int32.lt_iff_toInt_lt.mpr q))]
theorem sub64 (x y : Int32) : (x.toInt64 - y.toInt64).toInt = x.toInt - y.toInt := by
  have a := x.toInt_lt; have b := x.le_toInt; have c := y.toInt_lt; have d := y.le_toInt
  rw [Jvm.Kit.i64_sub (by rw [Jvm.Kit.i64_of_i32, Jvm.Kit.i64_of_i32]; omega) (by rw [Jvm.Kit.i64_of_i32, Jvm.Kit.i64_of_i32]; omega), Jvm.Kit.i64_of_i32, Jvm.Kit.i64_of_i32]
theorem big64 : (2147483647 : Int64).toInt = 2147483647 := rfl
/-- a rectangle's sides are right -/
def Okr (l t r b : Int32) : Prop := l.toInt ≤ r.toInt ∧ t.toInt ≤ b.toInt ∧ r.toInt - l.toInt ≤ 2147483647 ∧ b.toInt - t.toInt ≤ 2147483647
def eqv (l1 t1 r1 b1 l2 t2 r2 b2 : Int32) : Int32 := if l1 = l2 then (if t1 = t2 then (if r1 = r2 then (if b1 = b2 then 1 else 0) else 0) else 0) else 0
def lo (p : Int64) : Int32 := imin p.toInt32 (XT.ushrL p (32 : Int32)).toInt32
def hi (p : Int64) : Int32 := (lmin (imax p.toInt32 (XT.ushrL p (32 : Int32)).toInt32).toInt64 ((imin p.toInt32 (XT.ushrL p (32 : Int32)).toInt32).toInt64 + (2147483647 : Int64))).toInt32
theorem hi_toInt (x y : Int32) : ((lmin (imax x y).toInt64 ((imin x y).toInt64 + (2147483647 : Int64))).toInt32).toInt = if (imin x y).toInt + 2147483647 < (imax x y).toInt then (imin x y).toInt + 2147483647 else (imax x y).toInt := by
  have e1 := imin_toInt x y; have e2 := imax_toInt x y
  have a := x.toInt_lt; have b := x.le_toInt; have c := y.toInt_lt; have d := y.le_toInt
  have r1 := (imin x y).toInt_lt; have r2 := (imin x y).le_toInt; have r3 := (imax x y).toInt_lt; have r4 := (imax x y).le_toInt
  have s1 : ((imin x y).toInt64 + (2147483647 : Int64)).toInt = (imin x y).toInt + 2147483647 := by
    rw [Jvm.Kit.i64_add (by rw [Jvm.Kit.i64_of_i32, big64]; omega) (by rw [Jvm.Kit.i64_of_i32, big64]; omega), Jvm.Kit.i64_of_i32, big64]
  have s2 := Jvm.Kit.i64_of_i32 (imax x y)
  have hord : (imin x y).toInt ≤ (imax x y).toInt := by rw [e1, e2]; split <;> split <;> omega
  unfold lmin
  by_cases h : (imin x y).toInt64 + (2147483647 : Int64) < (imax x y).toInt64
  · rw [if_pos h]
    rw [Int64.lt_iff_toInt_lt, s1, s2] at h
    rw [if_pos h, Jvm.Kit.i32_of_i64 (by omega) (by omega), s1]
  · rw [if_neg h]
    rw [Int64.lt_iff_toInt_lt, s1, s2] at h
    rw [if_neg h, Jvm.Kit.i32_of_i64 (by omega) (by omega), s2]
theorem lohi (p : Int64) : (lo p).toInt ≤ (hi p).toInt ∧ (hi p).toInt - (lo p).toInt ≤ 2147483647 := by
  have e := hi_toInt p.toInt32 (XT.ushrL p (32 : Int32)).toInt32
  have e1 := imin_toInt p.toInt32 (XT.ushrL p (32 : Int32)).toInt32; have e2 := imax_toInt p.toInt32 (XT.ushrL p (32 : Int32)).toInt32
  have hord : (imin p.toInt32 (XT.ushrL p (32 : Int32)).toInt32).toInt ≤ (imax p.toInt32 (XT.ushrL p (32 : Int32)).toInt32).toInt := by rw [e1, e2]; split <;> split <;> omega
  unfold lo hi
  rw [e]
  split <;> omega
theorem okr (p q : Int64) : Okr (lo p) (lo q) (hi p) (hi q) := ⟨(lohi p).1, (lohi q).1, (lohi p).2, (lohi q).2⟩
def cont (l1 t1 r1 b1 l2 t2 r2 b2 : Int32) : Int32 := if l2 < l1 then 0 else if t2 < t1 then 0 else if r1 < r2 then 0 else if b1 < b2 then 0 else 1
theorem cont_zero {l1 t1 r1 b1 l2 t2 r2 b2 : Int32} (ok : Okr l1 t1 r1 b1) (h : 2147483647 < (imax r1 r2).toInt - (imin l1 l2).toInt ∨ 2147483647 < (imax b1 b2).toInt - (imin t1 t2).toInt) : cont l1 t1 r1 b1 l2 t2 r2 b2 = 0 := by
  obtain ⟨o1, o2, o3, o4⟩ := ok
  unfold cont
  simp only [Int32.lt_iff_toInt_lt]
  rw [imax_toInt, imin_toInt, imax_toInt, imin_toInt] at h
  split
  · rfl
  · split
    · rfl
    · split
      · rfl
      · split
        · rfl
        · exfalso; revert h; repeat' split
          all_goals omega
theorem okr_union {l1 t1 r1 b1 l2 t2 r2 b2 : Int32} (ok : Okr l1 t1 r1 b1) (h1 : ¬ 2147483647 < (imax r1 r2).toInt - (imin l1 l2).toInt) (h2 : ¬ 2147483647 < (imax b1 b2).toInt - (imin t1 t2).toInt) : Okr (imin l1 l2) (imin t1 t2) (imax r1 r2) (imax b1 b2) := by
  obtain ⟨o1, o2, o3, o4⟩ := ok
  refine ⟨?_, ?_, by omega, by omega⟩
  · rw [imin_toInt, imax_toInt]; split <;> split <;> omega
  · rw [imin_toInt, imax_toInt]; split <;> split <;> omega
theorem imin_eq (x y : Int32) : imin x y = x ↔ ¬ y < x := by
  unfold imin
  by_cases h : y < x
  · rw [if_pos h]
    refine ⟨fun e => ?_, fun e => absurd h e⟩
    rw [e] at h; exact absurd h (by rw [Int32.lt_iff_toInt_lt]; omega)
  · simp [h]
theorem imax_eq (x y : Int32) : imax x y = x ↔ ¬ x < y := by
  unfold imax
  by_cases h : x < y
  · rw [if_pos h]
    refine ⟨fun e => ?_, fun e => absurd h e⟩
    rw [e] at h; exact absurd h (by rw [Int32.lt_iff_toInt_lt]; omega)
  · simp [h]
theorem cont_eq (l1 t1 r1 b1 l2 t2 r2 b2 : Int32) : cont l1 t1 r1 b1 l2 t2 r2 b2 = eqv (imin l1 l2) (imin t1 t2) (imax r1 r2) (imax b1 b2) l1 t1 r1 b1 := by
  unfold cont eqv
  simp only [imin_eq, imax_eq]
  by_cases c1 : l2 < l1
  · simp only [c1, if_true, if_false, not_true_eq_false]
  · by_cases c2 : t2 < t1
    · simp only [c1, c2, if_true, if_false, not_true_eq_false, not_false_eq_true]
    · by_cases c3 : r1 < r2
      · simp only [c1, c2, c3, if_true, if_false, not_true_eq_false, not_false_eq_true]
      · by_cases c4 : b1 < b2
        · simp only [c1, c2, c3, c4, if_true, if_false, not_true_eq_false, not_false_eq_true]
        · simp only [c1, c2, c3, c4, if_true, if_false, not_true_eq_false, not_false_eq_true]
theorem d1_0 : decode jdk_29_method_69_code 0 = .ok (.iload_n 0, 1) := by decide +kernel
theorem d1_1 : decode jdk_29_method_69_code 1 = .ok (.iload_n 1, 1) := by decide +kernel
theorem d1_2 : decode jdk_29_method_69_code 2 = .ok (.if_icmp .gt 7, 3) := by decide +kernel
theorem d1_5 : decode jdk_29_method_69_code 5 = .ok (.iload_n 0, 1) := by decide +kernel
theorem d1_6 : decode jdk_29_method_69_code 6 = .ok (.goto 4, 3) := by decide +kernel
theorem d1_9 : decode jdk_29_method_69_code 9 = .ok (.iload_n 1, 1) := by decide +kernel
theorem d1_10 : decode jdk_29_method_69_code 10 = .ok (.ireturn, 1) := by decide +kernel
theorem pl_0 : plainFor (⟨"java/lang/Math", "min", "(II)I"⟩ : MethodName) = true := by decide +kernel
set_option maxRecDepth 65536 in
set_option maxHeartbeats 40000000 in
theorem rmMin (l : Launch) (Z : State) (a0 : Array Value) (hw : ∀ d ∈ tables_1, d.before a0 Z = true) (x y : Int32) (h0 : Heap) (n0 : Nat) (Z0 : n0 ≤ h0.size)  :
    Met l Z (⟨"java/lang/Math", "min", "(II)I"⟩ : MethodName) jdk_29_method_69_code 2 (Option.some FieldType.int) [] ({ frames := 0, cells := 0, slots := 0, locals := 0 } : Room) #[(.int x), (.int y)] h0 n0 (fun v h => v = some (.int (imin x y)) ∧ h0 = h) := by
  refine Met.of (Ls0 := #[.val (.int x), .val (.int y)]) pl_0 (by first | (simp [argsToLocals, Value.category]; done) | rfl) ?_
  intro p e s m below meth c hx hby hml hret hlk hown hnm hZ
  refine Go.iloadN (q := 1) hx (hb hby d1_0) rfl rfl ?_
  refine Go.iloadN (q := 2) hx (hb hby d1_1) rfl rfl ?_
  refine Go.icmp_gt (q := 5) (t := 9) hx (hb hby d1_2) (by decide) rfl rfl (fun hc2 => ?_) (fun hc2 => ?_)
  · skip
    refine Go.iloadN (q := 10) hx (hb hby d1_9) rfl rfl ?_
    refine Go.retI hx hret hlk (hb hby d1_10) (by decide) (by decide) ?_
    exact ⟨by simp [imin, nar, hc2], rfl⟩
  · skip
    refine Go.iloadN (q := 6) hx (hb hby d1_5) rfl rfl ?_
    refine Go.goto (q := 10) hx (hb hby d1_6) (by decide) rfl ?_
    refine Go.retI hx hret hlk (hb hby d1_10) (by decide) (by decide) ?_
    exact ⟨by simp [imin, nar, hc2], rfl⟩
theorem d3_0 : decode jdk_29_method_65_code 0 = .ok (.iload_n 0, 1) := by decide +kernel
theorem d3_1 : decode jdk_29_method_65_code 1 = .ok (.iload_n 1, 1) := by decide +kernel
theorem d3_2 : decode jdk_29_method_65_code 2 = .ok (.if_icmp .lt 7, 3) := by decide +kernel
theorem d3_5 : decode jdk_29_method_65_code 5 = .ok (.iload_n 0, 1) := by decide +kernel
theorem d3_6 : decode jdk_29_method_65_code 6 = .ok (.goto 4, 3) := by decide +kernel
theorem d3_9 : decode jdk_29_method_65_code 9 = .ok (.iload_n 1, 1) := by decide +kernel
theorem d3_10 : decode jdk_29_method_65_code 10 = .ok (.ireturn, 1) := by decide +kernel
theorem pl_1 : plainFor (⟨"java/lang/Math", "max", "(II)I"⟩ : MethodName) = true := by decide +kernel
set_option maxRecDepth 65536 in
set_option maxHeartbeats 40000000 in
theorem rmMax (l : Launch) (Z : State) (a0 : Array Value) (hw : ∀ d ∈ tables_1, d.before a0 Z = true) (x y : Int32) (h0 : Heap) (n0 : Nat) (Z0 : n0 ≤ h0.size)  :
    Met l Z (⟨"java/lang/Math", "max", "(II)I"⟩ : MethodName) jdk_29_method_65_code 2 (Option.some FieldType.int) [] ({ frames := 0, cells := 0, slots := 0, locals := 0 } : Room) #[(.int x), (.int y)] h0 n0 (fun v h => v = some (.int (imax x y)) ∧ h0 = h) := by
  refine Met.of (Ls0 := #[.val (.int x), .val (.int y)]) pl_1 (by first | (simp [argsToLocals, Value.category]; done) | rfl) ?_
  intro p e s m below meth c hx hby hml hret hlk hown hnm hZ
  refine Go.iloadN (q := 1) hx (hb hby d3_0) rfl rfl ?_
  refine Go.iloadN (q := 2) hx (hb hby d3_1) rfl rfl ?_
  refine Go.icmp_lt (q := 5) (t := 9) hx (hb hby d3_2) (by decide) rfl rfl (fun hc2 => ?_) (fun hc2 => ?_)
  · skip
    refine Go.iloadN (q := 10) hx (hb hby d3_9) rfl rfl ?_
    refine Go.retI hx hret hlk (hb hby d3_10) (by decide) (by decide) ?_
    exact ⟨by simp [imax, nar, hc2], rfl⟩
  · skip
    refine Go.iloadN (q := 6) hx (hb hby d3_5) rfl rfl ?_
    refine Go.goto (q := 10) hx (hb hby d3_6) (by decide) rfl ?_
    refine Go.retI hx hret hlk (hb hby d3_10) (by decide) (by decide) ?_
    exact ⟨by simp [imax, nar, hc2], rfl⟩
theorem d4_0 : decode jdk_29_method_70_code 0 = .ok (.lload_n 0, 1) := by decide +kernel
theorem d4_1 : decode jdk_29_method_70_code 1 = .ok (.lload_n 2, 1) := by decide +kernel
theorem d4_2 : decode jdk_29_method_70_code 2 = .ok (.lcmp, 1) := by decide +kernel
theorem d4_3 : decode jdk_29_method_70_code 3 = .ok (.ifCond .gt 7, 3) := by decide +kernel
theorem d4_6 : decode jdk_29_method_70_code 6 = .ok (.lload_n 0, 1) := by decide +kernel
theorem d4_7 : decode jdk_29_method_70_code 7 = .ok (.goto 4, 3) := by decide +kernel
theorem d4_10 : decode jdk_29_method_70_code 10 = .ok (.lload_n 2, 1) := by decide +kernel
theorem d4_11 : decode jdk_29_method_70_code 11 = .ok (.lreturn, 1) := by decide +kernel
theorem pl_2 : plainFor (⟨"java/lang/Math", "min", "(JJ)J"⟩ : MethodName) = true := by decide +kernel
set_option maxRecDepth 65536 in
set_option maxHeartbeats 40000000 in
theorem rmMinL (l : Launch) (Z : State) (a0 : Array Value) (hw : ∀ d ∈ tables_1, d.before a0 Z = true) (x y : Int64) (h0 : Heap) (n0 : Nat) (Z0 : n0 ≤ h0.size)  :
    Met l Z (⟨"java/lang/Math", "min", "(JJ)J"⟩ : MethodName) jdk_29_method_70_code 4 (Option.some FieldType.long) [] ({ frames := 0, cells := 0, slots := 0, locals := 0 } : Room) #[(.long x), (.long y)] h0 n0 (fun v h => v = some (.long (lmin x y)) ∧ h0 = h) := by
  refine Met.of (Ls0 := #[.val (.long x), .second, .val (.long y), .second]) pl_2 (by first | (simp [argsToLocals, Value.category]; done) | rfl) ?_
  intro p e s m below meth c hx hby hml hret hlk hown hnm hZ
  refine Go.lloadN (q := 1) hx (hb hby d4_0) rfl rfl ?_
  refine Go.lloadN (q := 2) hx (hb hby d4_1) rfl rfl ?_
  refine Go.lcmp (q := 3) hx (hb hby d4_2) rfl ?_
  refine Go.if_gt (q := 6) (t := 10) hx (hb hby d4_3) (by decide) rfl rfl (fun hc3 => ?_) (fun hc3 => ?_)
  · skip
    refine Go.lloadN (q := 11) hx (hb hby d4_10) rfl rfl ?_
    refine Go.retL hx hret hlk (hb hby d4_11) (by decide) (by decide) ?_
    exact ⟨by rw [cmpL_gt] at hc3; simp [lmin, hc3], rfl⟩
  · skip
    refine Go.lloadN (q := 7) hx (hb hby d4_6) rfl rfl ?_
    refine Go.goto (q := 11) hx (hb hby d4_7) (by decide) rfl ?_
    refine Go.retL hx hret hlk (hb hby d4_11) (by decide) (by decide) ?_
    exact ⟨by rw [cmpL_gt] at hc3; simp [lmin, hc3], rfl⟩
theorem d0_0 : decode method_2_code 0 = .ok (.lload_n 0, 1) := by decide +kernel
theorem d0_1 : decode method_2_code 1 = .ok (.l2i, 1) := by decide +kernel
theorem d0_2 : decode method_2_code 2 = .ok (.istore_n 2, 1) := by decide +kernel
theorem d0_3 : decode method_2_code 3 = .ok (.lload_n 0, 1) := by decide +kernel
theorem d0_4 : decode method_2_code 4 = .ok (.bipush 32, 2) := by decide +kernel
theorem d0_6 : decode method_2_code 6 = .ok (.lushr, 1) := by decide +kernel
theorem d0_7 : decode method_2_code 7 = .ok (.l2i, 1) := by decide +kernel
theorem d0_8 : decode method_2_code 8 = .ok (.istore_n 3, 1) := by decide +kernel
theorem d0_9 : decode method_2_code 9 = .ok (.iload_n 2, 1) := by decide +kernel
theorem d0_10 : decode method_2_code 10 = .ok (.iload_n 3, 1) := by decide +kernel
theorem d0_11 : decode method_2_code 11 = .ok (.invokestatic 7, 3) := by decide +kernel
theorem d0_14 : decode method_2_code 14 = .ok (.ireturn, 1) := by decide +kernel
theorem pl_3 : plainFor (⟨"com/example/hewristic/hewristic/model/RectangleContainsPinLaw", "lo", "(J)I"⟩ : MethodName) = true := plainFor_of_name (by first | (simp [plainName, overriddenIn]; done) | decide +kernel)
theorem pd_0 : parseMethodDescriptor "(II)I" = some ⟨[.int, .int], some .int⟩ := by decide +kernel
set_option maxRecDepth 65536 in
set_option maxHeartbeats 40000000 in
theorem rmLo (l : Launch) (Z : State) (a0 : Array Value) (hw : ∀ d ∈ tables_1, d.before a0 Z = true) (k : Int64) (h0 : Heap) (n0 : Nat) (Z0 : n0 ≤ h0.size)  :
    Met l Z (⟨"com/example/hewristic/hewristic/model/RectangleContainsPinLaw", "lo", "(J)I"⟩ : MethodName) method_2_code 4 (Option.some FieldType.int) [] ({ frames := 1, cells := 0, slots := 0, locals := 13 } : Room) #[(.long k)] h0 n0 (fun v h => v = some (.int (lo k)) ∧ h0 = h) := by
  refine Met.of (Ls0 := #[.val (.long k), .second, .unset, .unset]) pl_3 (by first | (simp [argsToLocals, Value.category]; done) | rfl) ?_
  intro p e s m below meth c hx hby hml hret hlk hown hnm hZ
  refine Go.lloadN (q := 1) hx (hb hby d0_0) rfl rfl ?_
  refine Go.l2i (q := 2) hx (hb hby d0_1) rfl ?_
  refine Go.istoreN (q := 3) (l' := #[.val (.long k), .second, .val (.int k.toInt32), .unset]) hx (hb hby d0_2) rfl rfl ?_
  refine Go.lloadN (q := 4) hx (hb hby d0_3) rfl rfl ?_
  refine Go.bipush (q := 6) (z := (32 : Int32)) hx (hb hby d0_4) rfl rfl ?_
  refine Go.lushr (q := 7) hx (hb hby d0_6) rfl ?_
  refine Go.l2i (q := 8) hx (hb hby d0_7) rfl ?_
  refine Go.istoreN (q := 9) (l' := #[.val (.long k), .second, .val (.int k.toInt32), .val (.int ((XT.ushrL k (32 : Int32)).toInt32))]) hx (hb hby d0_8) rfl rfl ?_
  refine Go.iloadN (q := 10) hx (hb hby d0_9) rfl rfl ?_
  refine Go.iloadN (q := 11) hx (hb hby d0_10) rfl rfl ?_
  refine Go.callS (q := 14) hx hZ (argsL := [(.int k.toInt32), (.int ((XT.ushrL k (32 : Int32)).toInt32))]) (rest := []) hown (hw _ (List.mem_of_getElem? (i := 4) rfl)) (hw _ (List.mem_of_getElem? (i := 5) rfl)) (hw _ (List.mem_of_getElem? (i := 6) rfl)) (hw _ (List.mem_of_getElem? (i := 7) rfl)) (by decide) (rmMin l Z a0 hw k.toInt32 ((XT.ushrL k (32 : Int32)).toInt32) h0 n0 Z0) (by rw [hml]; rfl) pd_0 rfl rfl (hb hby d0_11) rfl (by decide) (Nat.le_of_ble_eq_true rfl) (ce' := 0) (sl' := 0) rfl rfl (by decide) (by decide) (fun v1 h2 hQ3 => ?_)
  obtain ⟨rfl, rfl⟩ := hQ3
  show Go _ _ _ _ _ _ _ _ _ _ _ _ _ _ _ 0 0 14 #[.val (.long k), .second, .val (.int k.toInt32), .val (.int ((XT.ushrL k (32 : Int32)).toInt32))] [(.int (imin k.toInt32 ((XT.ushrL k (32 : Int32)).toInt32)))]
  refine Go.retI hx hret hlk (hb hby d0_14) (by decide) (by decide) ?_
  exact ⟨rfl, rfl⟩
theorem d2_0 : decode method_3_code 0 = .ok (.lload_n 0, 1) := by decide +kernel
theorem d2_1 : decode method_3_code 1 = .ok (.l2i, 1) := by decide +kernel
theorem d2_2 : decode method_3_code 2 = .ok (.istore_n 2, 1) := by decide +kernel
theorem d2_3 : decode method_3_code 3 = .ok (.lload_n 0, 1) := by decide +kernel
theorem d2_4 : decode method_3_code 4 = .ok (.bipush 32, 2) := by decide +kernel
theorem d2_6 : decode method_3_code 6 = .ok (.lushr, 1) := by decide +kernel
theorem d2_7 : decode method_3_code 7 = .ok (.l2i, 1) := by decide +kernel
theorem d2_8 : decode method_3_code 8 = .ok (.istore_n 3, 1) := by decide +kernel
theorem d2_9 : decode method_3_code 9 = .ok (.iload_n 2, 1) := by decide +kernel
theorem d2_10 : decode method_3_code 10 = .ok (.iload_n 3, 1) := by decide +kernel
theorem d2_11 : decode method_3_code 11 = .ok (.invokestatic 7, 3) := by decide +kernel
theorem d2_14 : decode method_3_code 14 = .ok (.istore 4, 2) := by decide +kernel
theorem d2_16 : decode method_3_code 16 = .ok (.iload_n 2, 1) := by decide +kernel
theorem d2_17 : decode method_3_code 17 = .ok (.iload_n 3, 1) := by decide +kernel
theorem d2_18 : decode method_3_code 18 = .ok (.invokestatic 13, 3) := by decide +kernel
theorem d2_21 : decode method_3_code 21 = .ok (.istore 5, 2) := by decide +kernel
theorem d2_23 : decode method_3_code 23 = .ok (.iload 5, 2) := by decide +kernel
theorem d2_25 : decode method_3_code 25 = .ok (.i2l, 1) := by decide +kernel
theorem d2_26 : decode method_3_code 26 = .ok (.iload 4, 2) := by decide +kernel
theorem d2_28 : decode method_3_code 28 = .ok (.i2l, 1) := by decide +kernel
theorem d2_29 : decode method_3_code 29 = .ok (.ldc2_w 18, 3) := by decide +kernel
theorem d2_32 : decode method_3_code 32 = .ok (.ladd, 1) := by decide +kernel
theorem d2_33 : decode method_3_code 33 = .ok (.invokestatic 20, 3) := by decide +kernel
theorem d2_36 : decode method_3_code 36 = .ok (.l2i, 1) := by decide +kernel
theorem d2_37 : decode method_3_code 37 = .ok (.ireturn, 1) := by decide +kernel
theorem pl_4 : plainFor (⟨"com/example/hewristic/hewristic/model/RectangleContainsPinLaw", "hi", "(J)I"⟩ : MethodName) = true := plainFor_of_name (by first | (simp [plainName, overriddenIn]; done) | decide +kernel)
theorem pd_1 : parseMethodDescriptor "(JJ)J" = some ⟨[.long, .long], some .long⟩ := by decide +kernel
set_option maxRecDepth 65536 in
set_option maxHeartbeats 40000000 in
theorem rmHi (l : Launch) (Z : State) (a0 : Array Value) (hw : ∀ d ∈ tables_1, d.before a0 Z = true) (k : Int64) (h0 : Heap) (n0 : Nat) (Z0 : n0 ≤ h0.size)  :
    Met l Z (⟨"com/example/hewristic/hewristic/model/RectangleContainsPinLaw", "hi", "(J)I"⟩ : MethodName) method_3_code 6 (Option.some FieldType.int) [] ({ frames := 1, cells := 0, slots := 0, locals := 15 } : Room) #[(.long k)] h0 n0 (fun v h => v = some (.int (hi k)) ∧ h0 = h) := by
  refine Met.of (Ls0 := #[.val (.long k), .second, .unset, .unset, .unset, .unset]) pl_4 (by first | (simp [argsToLocals, Value.category]; done) | rfl) ?_
  intro p e s m below meth c hx hby hml hret hlk hown hnm hZ
  refine Go.lloadN (q := 1) hx (hb hby d2_0) rfl rfl ?_
  refine Go.l2i (q := 2) hx (hb hby d2_1) rfl ?_
  refine Go.istoreN (q := 3) (l' := #[.val (.long k), .second, .val (.int k.toInt32), .unset, .unset, .unset]) hx (hb hby d2_2) rfl rfl ?_
  refine Go.lloadN (q := 4) hx (hb hby d2_3) rfl rfl ?_
  refine Go.bipush (q := 6) (z := (32 : Int32)) hx (hb hby d2_4) rfl rfl ?_
  refine Go.lushr (q := 7) hx (hb hby d2_6) rfl ?_
  refine Go.l2i (q := 8) hx (hb hby d2_7) rfl ?_
  refine Go.istoreN (q := 9) (l' := #[.val (.long k), .second, .val (.int k.toInt32), .val (.int ((XT.ushrL k (32 : Int32)).toInt32)), .unset, .unset]) hx (hb hby d2_8) rfl rfl ?_
  refine Go.iloadN (q := 10) hx (hb hby d2_9) rfl rfl ?_
  refine Go.iloadN (q := 11) hx (hb hby d2_10) rfl rfl ?_
  refine Go.callS (q := 14) hx hZ (argsL := [(.int k.toInt32), (.int ((XT.ushrL k (32 : Int32)).toInt32))]) (rest := []) hown (hw _ (List.mem_of_getElem? (i := 4) rfl)) (hw _ (List.mem_of_getElem? (i := 5) rfl)) (hw _ (List.mem_of_getElem? (i := 6) rfl)) (hw _ (List.mem_of_getElem? (i := 7) rfl)) (by decide) (rmMin l Z a0 hw k.toInt32 ((XT.ushrL k (32 : Int32)).toInt32) h0 n0 Z0) (by rw [hml]; rfl) pd_0 rfl rfl (hb hby d2_11) rfl (by decide) (Nat.le_of_ble_eq_true rfl) (ce' := 0) (sl' := 0) rfl rfl (by decide) (by decide) (fun v4 h5 hQ6 => ?_)
  obtain ⟨rfl, rfl⟩ := hQ6
  show Go _ _ _ _ _ _ _ _ _ _ _ _ _ _ _ 0 0 14 #[.val (.long k), .second, .val (.int k.toInt32), .val (.int ((XT.ushrL k (32 : Int32)).toInt32)), .unset, .unset] [(.int (imin k.toInt32 ((XT.ushrL k (32 : Int32)).toInt32)))]
  refine Go.istore (q := 16) (l' := #[.val (.long k), .second, .val (.int k.toInt32), .val (.int ((XT.ushrL k (32 : Int32)).toInt32)), .val (.int (imin k.toInt32 ((XT.ushrL k (32 : Int32)).toInt32))), .unset]) hx (hb hby d2_14) rfl rfl ?_
  refine Go.iloadN (q := 17) hx (hb hby d2_16) rfl rfl ?_
  refine Go.iloadN (q := 18) hx (hb hby d2_17) rfl rfl ?_
  refine Go.callS (q := 21) hx hZ (argsL := [(.int k.toInt32), (.int ((XT.ushrL k (32 : Int32)).toInt32))]) (rest := []) hown (hw _ (List.mem_of_getElem? (i := 11) rfl)) (hw _ (List.mem_of_getElem? (i := 12) rfl)) (hw _ (List.mem_of_getElem? (i := 6) rfl)) (hw _ (List.mem_of_getElem? (i := 13) rfl)) (by decide) (rmMax l Z a0 hw k.toInt32 ((XT.ushrL k (32 : Int32)).toInt32) h0 n0 Z0) (by rw [hml]; rfl) pd_0 rfl rfl (hb hby d2_18) rfl (by decide) (Nat.le_of_ble_eq_true rfl) (ce' := 0) (sl' := 0) rfl rfl (by decide) (by decide) (fun v7 h8 hQ9 => ?_)
  obtain ⟨rfl, rfl⟩ := hQ9
  show Go _ _ _ _ _ _ _ _ _ _ _ _ _ _ _ 0 0 21 #[.val (.long k), .second, .val (.int k.toInt32), .val (.int ((XT.ushrL k (32 : Int32)).toInt32)), .val (.int (imin k.toInt32 ((XT.ushrL k (32 : Int32)).toInt32))), .unset] [(.int (imax k.toInt32 ((XT.ushrL k (32 : Int32)).toInt32)))]
  refine Go.istore (q := 23) (l' := #[.val (.long k), .second, .val (.int k.toInt32), .val (.int ((XT.ushrL k (32 : Int32)).toInt32)), .val (.int (imin k.toInt32 ((XT.ushrL k (32 : Int32)).toInt32))), .val (.int (imax k.toInt32 ((XT.ushrL k (32 : Int32)).toInt32)))]) hx (hb hby d2_21) rfl rfl ?_
  refine Go.iload (q := 25) hx (hb hby d2_23) rfl rfl ?_
  refine Go.i2l (q := 26) hx (hb hby d2_25) rfl ?_
  refine Go.iload (q := 28) hx (hb hby d2_26) rfl rfl ?_
  refine Go.i2l (q := 29) hx (hb hby d2_28) rfl ?_
  refine Go.ldc2Long (q := 32) hx hZ hown (hw _ (List.mem_of_getElem? (i := 14) rfl)) (hb hby d2_29) rfl ?_
  refine Go.ladd (q := 33) hx (hb hby d2_32) rfl ?_
  refine Go.callS (q := 36) hx hZ (argsL := [(.long ((imax k.toInt32 ((XT.ushrL k (32 : Int32)).toInt32)).toInt64)), (.long (((imin k.toInt32 ((XT.ushrL k (32 : Int32)).toInt32)).toInt64) + (2147483647 : Int64)))]) (rest := []) hown (hw _ (List.mem_of_getElem? (i := 15) rfl)) (hw _ (List.mem_of_getElem? (i := 16) rfl)) (hw _ (List.mem_of_getElem? (i := 6) rfl)) (hw _ (List.mem_of_getElem? (i := 17) rfl)) (by decide) (rmMinL l Z a0 hw ((imax k.toInt32 ((XT.ushrL k (32 : Int32)).toInt32)).toInt64) (((imin k.toInt32 ((XT.ushrL k (32 : Int32)).toInt32)).toInt64) + (2147483647 : Int64)) h0 n0 Z0) (by rw [hml]; rfl) pd_1 rfl rfl (hb hby d2_33) rfl (by decide) (Nat.le_of_ble_eq_true rfl) (ce' := 0) (sl' := 0) rfl rfl (by decide) (by decide) (fun v10 h11 hQ12 => ?_)
  obtain ⟨rfl, rfl⟩ := hQ12
  show Go _ _ _ _ _ _ _ _ _ _ _ _ _ _ _ 0 0 36 #[.val (.long k), .second, .val (.int k.toInt32), .val (.int ((XT.ushrL k (32 : Int32)).toInt32)), .val (.int (imin k.toInt32 ((XT.ushrL k (32 : Int32)).toInt32))), .val (.int (imax k.toInt32 ((XT.ushrL k (32 : Int32)).toInt32)))] [(.long (lmin ((imax k.toInt32 ((XT.ushrL k (32 : Int32)).toInt32)).toInt64) (((imin k.toInt32 ((XT.ushrL k (32 : Int32)).toInt32)).toInt64) + (2147483647 : Int64))))]
  refine Go.l2i (q := 37) hx (hb hby d2_36) rfl ?_
  refine Go.retI hx hret hlk (hb hby d2_37) (by decide) (by decide) ?_
  exact ⟨rfl, rfl⟩
theorem d5_0 : decode prog_9_method_1_code 0 = .ok (.aload_n 0, 1) := by decide +kernel
theorem d5_1 : decode prog_9_method_1_code 1 = .ok (.invokespecial 1, 3) := by decide +kernel
theorem d5_4 : decode prog_9_method_1_code 4 = .ok (.iload_n 3, 1) := by decide +kernel
theorem d5_5 : decode prog_9_method_1_code 5 = .ok (.iload_n 1, 1) := by decide +kernel
theorem d5_6 : decode prog_9_method_1_code 6 = .ok (.if_icmp .lt 9, 3) := by decide +kernel
theorem d5_9 : decode prog_9_method_1_code 9 = .ok (.iload 4, 2) := by decide +kernel
theorem d5_11 : decode prog_9_method_1_code 11 = .ok (.iload_n 2, 1) := by decide +kernel
theorem d5_12 : decode prog_9_method_1_code 12 = .ok (.if_icmp .ge 14, 3) := by decide +kernel
theorem d5_15 : decode prog_9_method_1_code 15 = .ok (.iload_n 1, 1) := by decide +kernel
theorem d5_16 : decode prog_9_method_1_code 16 = .ok (.iload_n 2, 1) := by decide +kernel
theorem d5_17 : decode prog_9_method_1_code 17 = .ok (.iload_n 3, 1) := by decide +kernel
theorem d5_18 : decode prog_9_method_1_code 18 = .ok (.iload 4, 2) := by decide +kernel
theorem d5_20 : decode prog_9_method_1_code 20 = .ok (.ldc 7, 2) := by decide +kernel
theorem d5_22 : decode prog_9_method_1_code 22 = .ok (.invokestatic 9, 3) := by decide +kernel
theorem d5_25 : decode prog_9_method_1_code 25 = .ok (.athrow, 1) := by decide +kernel
theorem d5_26 : decode prog_9_method_1_code 26 = .ok (.iload_n 3, 1) := by decide +kernel
theorem d5_27 : decode prog_9_method_1_code 27 = .ok (.i2l, 1) := by decide +kernel
theorem d5_28 : decode prog_9_method_1_code 28 = .ok (.iload_n 1, 1) := by decide +kernel
theorem d5_29 : decode prog_9_method_1_code 29 = .ok (.i2l, 1) := by decide +kernel
theorem d5_30 : decode prog_9_method_1_code 30 = .ok (.lsub, 1) := by decide +kernel
theorem d5_31 : decode prog_9_method_1_code 31 = .ok (.ldc2_w 17, 3) := by decide +kernel
theorem d5_34 : decode prog_9_method_1_code 34 = .ok (.lcmp, 1) := by decide +kernel
theorem d5_35 : decode prog_9_method_1_code 35 = .ok (.ifCond .gt 16, 3) := by decide +kernel
theorem d5_38 : decode prog_9_method_1_code 38 = .ok (.iload 4, 2) := by decide +kernel
theorem d5_40 : decode prog_9_method_1_code 40 = .ok (.i2l, 1) := by decide +kernel
theorem d5_41 : decode prog_9_method_1_code 41 = .ok (.iload_n 2, 1) := by decide +kernel
theorem d5_42 : decode prog_9_method_1_code 42 = .ok (.i2l, 1) := by decide +kernel
theorem d5_43 : decode prog_9_method_1_code 43 = .ok (.lsub, 1) := by decide +kernel
theorem d5_44 : decode prog_9_method_1_code 44 = .ok (.ldc2_w 17, 3) := by decide +kernel
theorem d5_47 : decode prog_9_method_1_code 47 = .ok (.lcmp, 1) := by decide +kernel
theorem d5_48 : decode prog_9_method_1_code 48 = .ok (.ifCond .le 14, 3) := by decide +kernel
theorem d5_51 : decode prog_9_method_1_code 51 = .ok (.iload_n 1, 1) := by decide +kernel
theorem d5_52 : decode prog_9_method_1_code 52 = .ok (.iload_n 2, 1) := by decide +kernel
theorem d5_53 : decode prog_9_method_1_code 53 = .ok (.iload_n 3, 1) := by decide +kernel
theorem d5_54 : decode prog_9_method_1_code 54 = .ok (.iload 4, 2) := by decide +kernel
theorem d5_56 : decode prog_9_method_1_code 56 = .ok (.ldc 19, 2) := by decide +kernel
theorem d5_58 : decode prog_9_method_1_code 58 = .ok (.invokestatic 9, 3) := by decide +kernel
theorem d5_61 : decode prog_9_method_1_code 61 = .ok (.athrow, 1) := by decide +kernel
theorem d5_62 : decode prog_9_method_1_code 62 = .ok (.aload_n 0, 1) := by decide +kernel
theorem d5_63 : decode prog_9_method_1_code 63 = .ok (.iload_n 1, 1) := by decide +kernel
theorem d5_64 : decode prog_9_method_1_code 64 = .ok (.putfield 21, 3) := by decide +kernel
theorem d5_67 : decode prog_9_method_1_code 67 = .ok (.aload_n 0, 1) := by decide +kernel
theorem d5_68 : decode prog_9_method_1_code 68 = .ok (.iload_n 2, 1) := by decide +kernel
theorem d5_69 : decode prog_9_method_1_code 69 = .ok (.putfield 25, 3) := by decide +kernel
theorem d5_72 : decode prog_9_method_1_code 72 = .ok (.aload_n 0, 1) := by decide +kernel
theorem d5_73 : decode prog_9_method_1_code 73 = .ok (.iload_n 3, 1) := by decide +kernel
theorem d5_74 : decode prog_9_method_1_code 74 = .ok (.putfield 28, 3) := by decide +kernel
theorem d5_77 : decode prog_9_method_1_code 77 = .ok (.aload_n 0, 1) := by decide +kernel
theorem d5_78 : decode prog_9_method_1_code 78 = .ok (.iload 4, 2) := by decide +kernel
theorem d5_80 : decode prog_9_method_1_code 80 = .ok (.putfield 31, 3) := by decide +kernel
theorem d5_83 : decode prog_9_method_1_code 83 = .ok (.return_, 1) := by decide +kernel
theorem pl_5 : plainFor (⟨"com/example/hewristic/hewristic/model/Rectangle", "<init>", "(IIII)V"⟩ : MethodName) = true := plainFor_of_name (by first | (simp [plainName, overriddenIn]; done) | decide +kernel)
theorem pd_2 : parseMethodDescriptor "()V" = some ⟨[], none⟩ := by decide +kernel
set_option maxRecDepth 65536 in
set_option maxHeartbeats 40000000 in
theorem rmInit (l : Launch) (Z : State) (a0 : Array Value) (hw : ∀ d ∈ tables_1, d.before a0 Z = true) (a : Addr) (x1 x2 x3 x4 : Int32) (h0 : Heap) (n0 : Nat) (Z0 : n0 ≤ h0.size) (ok : Okr x1 x2 x3 x4) (ga : n0 ≤ a) (E : Exa Z h0 a "com/example/hewristic/hewristic/model/Rectangle") (F0 : Fld Z h0 a "com/example/hewristic/hewristic/model/Rectangle" "left" "I" (.int 0)) (F1 : Fld Z h0 a "com/example/hewristic/hewristic/model/Rectangle" "top" "I" (.int 0)) (F2 : Fld Z h0 a "com/example/hewristic/hewristic/model/Rectangle" "right" "I" (.int 0)) (F3 : Fld Z h0 a "com/example/hewristic/hewristic/model/Rectangle" "bottom" "I" (.int 0)) :
    Met l Z (⟨"com/example/hewristic/hewristic/model/Rectangle", "<init>", "(IIII)V"⟩ : MethodName) prog_9_method_1_code 5 (Option.none : Option FieldType) [] ({ frames := 1, cells := 0, slots := 0, locals := 12 } : Room) #[(.ref a), (.int x1), (.int x2), (.int x3), (.int x4)] h0 n0 (fun v h => v = none ∧ Keep h0 h [a] ∧ Fld Z h a "com/example/hewristic/hewristic/model/Rectangle" "left" "I" (.int x1) ∧ Fld Z h a "com/example/hewristic/hewristic/model/Rectangle" "top" "I" (.int x2) ∧ Fld Z h a "com/example/hewristic/hewristic/model/Rectangle" "right" "I" (.int x3) ∧ Fld Z h a "com/example/hewristic/hewristic/model/Rectangle" "bottom" "I" (.int x4)) := by
  refine Met.of (Ls0 := #[.val (.ref a), .val (.int x1), .val (.int x2), .val (.int x3), .val (.int x4)]) pl_5 (by first | (simp [argsToLocals, Value.category]; done) | rfl) ?_
  intro p e s m below meth c hx hby hml hret hlk hown hnm hZ
  obtain ⟨o1, o2, o3, o4⟩ := ok
  refine Go.aloadN (q := 1) hx (hb hby d5_0) rfl (by rfl) rfl ?_
  refine Go.initO (q := 4) hx hZ hown (hw _ (List.mem_of_getElem? (i := 24) rfl)) (hw _ (List.mem_of_getElem? (i := 25) rfl)) (hw _ (List.mem_of_getElem? (i := 26) rfl)) (by rw [hml]; rfl) (hb hby d5_1) rfl (by decide) (Nat.le_of_ble_eq_true rfl) ?_
  refine Go.iloadN (q := 5) hx (hb hby d5_4) rfl rfl ?_
  refine Go.iloadN (q := 6) hx (hb hby d5_5) rfl rfl ?_
  refine Go.icmp_lt (q := 9) (t := 15) hx (hb hby d5_6) (by decide) rfl rfl (fun hc6 => absurd hc6 (by rw [Int32.lt_iff_toInt_lt]; omega)) (fun hc6 => ?_)
  refine Go.iload (q := 11) hx (hb hby d5_9) rfl rfl ?_
  refine Go.iloadN (q := 12) hx (hb hby d5_11) rfl rfl ?_
  refine Go.icmp_ge (q := 15) (t := 26) hx (hb hby d5_12) (by decide) rfl rfl (fun hc12 => ?_) (fun hc12 => absurd hc12 (by rw [Int32.lt_iff_toInt_lt]; omega))
  refine Go.iloadN (q := 27) hx (hb hby d5_26) rfl rfl ?_
  refine Go.i2l (q := 28) hx (hb hby d5_27) rfl ?_
  refine Go.iloadN (q := 29) hx (hb hby d5_28) rfl rfl ?_
  refine Go.i2l (q := 30) hx (hb hby d5_29) rfl ?_
  refine Go.lsub (q := 31) hx (hb hby d5_30) rfl ?_
  refine Go.ldc2Long (q := 34) hx hZ hown (hw _ (List.mem_of_getElem? (i := 27) rfl)) (hb hby d5_31) rfl ?_
  refine Go.lcmp (q := 35) hx (hb hby d5_34) rfl ?_
  refine Go.if_gt (q := 38) (t := 51) hx (hb hby d5_35) (by decide) rfl rfl (fun hc35 => absurd hc35 (by rw [cmpL_gt, Int64.lt_iff_toInt_lt, sub64, big64]; omega)) (fun hc35 => ?_)
  refine Go.iload (q := 40) hx (hb hby d5_38) rfl rfl ?_
  refine Go.i2l (q := 41) hx (hb hby d5_40) rfl ?_
  refine Go.iloadN (q := 42) hx (hb hby d5_41) rfl rfl ?_
  refine Go.i2l (q := 43) hx (hb hby d5_42) rfl ?_
  refine Go.lsub (q := 44) hx (hb hby d5_43) rfl ?_
  refine Go.ldc2Long (q := 47) hx hZ hown (hw _ (List.mem_of_getElem? (i := 27) rfl)) (hb hby d5_44) rfl ?_
  refine Go.lcmp (q := 48) hx (hb hby d5_47) rfl ?_
  refine Go.if_le (q := 51) (t := 62) hx (hb hby d5_48) (by decide) rfl rfl (fun hc48 => ?_) (fun hc48 => absurd hc48 (by rw [cmpL_gt, Int64.lt_iff_toInt_lt, sub64, big64]; omega))
  refine Go.aloadN (q := 63) hx (hb hby d5_62) rfl (by rfl) rfl ?_
  refine Go.iloadN (q := 64) hx (hb hby d5_63) rfl rfl ?_
  refine Go.putF (q := 67) hx hZ hown (host := "") (Or.inl (hw _ (List.mem_of_getElem? (i := 28) rfl))) Via.refl F0 E (Or.inr ⟨(hw _ (List.mem_of_getElem? (i := 29) rfl)), rfl, hnm⟩) (hw _ (List.mem_of_getElem? (i := 19) rfl)) (ty := .int) (by decide) rfl rfl ga (hb hby d5_64) rfl (fun h13 W14 => ?_)
  refine Go.aloadN (q := 68) hx (hb hby d5_67) rfl (by rfl) rfl ?_
  refine Go.iloadN (q := 69) hx (hb hby d5_68) rfl rfl ?_
  refine Go.putF (q := 72) hx hZ hown (host := "") (Or.inl (hw _ (List.mem_of_getElem? (i := 30) rfl))) Via.refl (Fld.other W14 F1 (Or.inr (slot_ne (C := "com/example/hewristic/hewristic/model/Rectangle") (Or.inr (hw _ (List.mem_of_getElem? (i := 31) rfl))) (Or.inr (hw _ (List.mem_of_getElem? (i := 29) rfl))) (by decide) (by decide : _ = some .int) (by decide : _ = some .int)))) (Exa.wr W14 E) (Or.inr ⟨(hw _ (List.mem_of_getElem? (i := 31) rfl)), rfl, hnm⟩) (hw _ (List.mem_of_getElem? (i := 19) rfl)) (ty := .int) (by decide) rfl rfl ga (hb hby d5_69) rfl (fun h15 W16 => ?_)
  refine Go.aloadN (q := 73) hx (hb hby d5_72) rfl (by rfl) rfl ?_
  refine Go.iloadN (q := 74) hx (hb hby d5_73) rfl rfl ?_
  refine Go.putF (q := 77) hx hZ hown (host := "") (Or.inl (hw _ (List.mem_of_getElem? (i := 32) rfl))) Via.refl (Fld.other W16 (Fld.other W14 F2 (Or.inr (slot_ne (C := "com/example/hewristic/hewristic/model/Rectangle") (Or.inr (hw _ (List.mem_of_getElem? (i := 33) rfl))) (Or.inr (hw _ (List.mem_of_getElem? (i := 29) rfl))) (by decide) (by decide : _ = some .int) (by decide : _ = some .int)))) (Or.inr (slot_ne (C := "com/example/hewristic/hewristic/model/Rectangle") (Or.inr (hw _ (List.mem_of_getElem? (i := 33) rfl))) (Or.inr (hw _ (List.mem_of_getElem? (i := 31) rfl))) (by decide) (by decide : _ = some .int) (by decide : _ = some .int)))) (Exa.wr W16 (Exa.wr W14 E)) (Or.inr ⟨(hw _ (List.mem_of_getElem? (i := 33) rfl)), rfl, hnm⟩) (hw _ (List.mem_of_getElem? (i := 19) rfl)) (ty := .int) (by decide) rfl rfl ga (hb hby d5_74) rfl (fun h17 W18 => ?_)
  refine Go.aloadN (q := 78) hx (hb hby d5_77) rfl (by rfl) rfl ?_
  refine Go.iload (q := 80) hx (hb hby d5_78) rfl rfl ?_
  refine Go.putF (q := 83) hx hZ hown (host := "") (Or.inl (hw _ (List.mem_of_getElem? (i := 34) rfl))) Via.refl (Fld.other W18 (Fld.other W16 (Fld.other W14 F3 (Or.inr (slot_ne (C := "com/example/hewristic/hewristic/model/Rectangle") (Or.inr (hw _ (List.mem_of_getElem? (i := 35) rfl))) (Or.inr (hw _ (List.mem_of_getElem? (i := 29) rfl))) (by decide) (by decide : _ = some .int) (by decide : _ = some .int)))) (Or.inr (slot_ne (C := "com/example/hewristic/hewristic/model/Rectangle") (Or.inr (hw _ (List.mem_of_getElem? (i := 35) rfl))) (Or.inr (hw _ (List.mem_of_getElem? (i := 31) rfl))) (by decide) (by decide : _ = some .int) (by decide : _ = some .int)))) (Or.inr (slot_ne (C := "com/example/hewristic/hewristic/model/Rectangle") (Or.inr (hw _ (List.mem_of_getElem? (i := 35) rfl))) (Or.inr (hw _ (List.mem_of_getElem? (i := 33) rfl))) (by decide) (by decide : _ = some .int) (by decide : _ = some .int)))) (Exa.wr W18 (Exa.wr W16 (Exa.wr W14 E))) (Or.inr ⟨(hw _ (List.mem_of_getElem? (i := 35) rfl)), rfl, hnm⟩) (hw _ (List.mem_of_getElem? (i := 19) rfl)) (ty := .int) (by decide) rfl rfl ga (hb hby d5_80) rfl (fun h19 W20 => ?_)
  refine Go.ret0 hx hret hlk (hb hby d5_83) (by decide) (by decide) ?_
  exact ⟨rfl, (((((Keep.refl h0 [a]).wr W14 (Or.inl (by simp))).wr W16 (Or.inl (by simp))).wr W18 (Or.inl (by simp))).wr W20 (Or.inl (by simp))), (Fld.other W20 (Fld.other W18 (Fld.other W16 (Fld.same W14 F0) (Or.inr (slot_ne (C := "com/example/hewristic/hewristic/model/Rectangle") (Or.inr (hw _ (List.mem_of_getElem? (i := 29) rfl))) (Or.inr (hw _ (List.mem_of_getElem? (i := 31) rfl))) (by decide) (by decide : _ = some .int) (by decide : _ = some .int)))) (Or.inr (slot_ne (C := "com/example/hewristic/hewristic/model/Rectangle") (Or.inr (hw _ (List.mem_of_getElem? (i := 29) rfl))) (Or.inr (hw _ (List.mem_of_getElem? (i := 33) rfl))) (by decide) (by decide : _ = some .int) (by decide : _ = some .int)))) (Or.inr (slot_ne (C := "com/example/hewristic/hewristic/model/Rectangle") (Or.inr (hw _ (List.mem_of_getElem? (i := 29) rfl))) (Or.inr (hw _ (List.mem_of_getElem? (i := 35) rfl))) (by decide) (by decide : _ = some .int) (by decide : _ = some .int)))), (Fld.other W20 (Fld.other W18 (Fld.same W16 (Fld.other W14 F1 (Or.inr (slot_ne (C := "com/example/hewristic/hewristic/model/Rectangle") (Or.inr (hw _ (List.mem_of_getElem? (i := 31) rfl))) (Or.inr (hw _ (List.mem_of_getElem? (i := 29) rfl))) (by decide) (by decide : _ = some .int) (by decide : _ = some .int))))) (Or.inr (slot_ne (C := "com/example/hewristic/hewristic/model/Rectangle") (Or.inr (hw _ (List.mem_of_getElem? (i := 31) rfl))) (Or.inr (hw _ (List.mem_of_getElem? (i := 33) rfl))) (by decide) (by decide : _ = some .int) (by decide : _ = some .int)))) (Or.inr (slot_ne (C := "com/example/hewristic/hewristic/model/Rectangle") (Or.inr (hw _ (List.mem_of_getElem? (i := 31) rfl))) (Or.inr (hw _ (List.mem_of_getElem? (i := 35) rfl))) (by decide) (by decide : _ = some .int) (by decide : _ = some .int)))), (Fld.other W20 (Fld.same W18 (Fld.other W16 (Fld.other W14 F2 (Or.inr (slot_ne (C := "com/example/hewristic/hewristic/model/Rectangle") (Or.inr (hw _ (List.mem_of_getElem? (i := 33) rfl))) (Or.inr (hw _ (List.mem_of_getElem? (i := 29) rfl))) (by decide) (by decide : _ = some .int) (by decide : _ = some .int)))) (Or.inr (slot_ne (C := "com/example/hewristic/hewristic/model/Rectangle") (Or.inr (hw _ (List.mem_of_getElem? (i := 33) rfl))) (Or.inr (hw _ (List.mem_of_getElem? (i := 31) rfl))) (by decide) (by decide : _ = some .int) (by decide : _ = some .int))))) (Or.inr (slot_ne (C := "com/example/hewristic/hewristic/model/Rectangle") (Or.inr (hw _ (List.mem_of_getElem? (i := 33) rfl))) (Or.inr (hw _ (List.mem_of_getElem? (i := 35) rfl))) (by decide) (by decide : _ = some .int) (by decide : _ = some .int)))), (Fld.same W20 (Fld.other W18 (Fld.other W16 (Fld.other W14 F3 (Or.inr (slot_ne (C := "com/example/hewristic/hewristic/model/Rectangle") (Or.inr (hw _ (List.mem_of_getElem? (i := 35) rfl))) (Or.inr (hw _ (List.mem_of_getElem? (i := 29) rfl))) (by decide) (by decide : _ = some .int) (by decide : _ = some .int)))) (Or.inr (slot_ne (C := "com/example/hewristic/hewristic/model/Rectangle") (Or.inr (hw _ (List.mem_of_getElem? (i := 35) rfl))) (Or.inr (hw _ (List.mem_of_getElem? (i := 31) rfl))) (by decide) (by decide : _ = some .int) (by decide : _ = some .int)))) (Or.inr (slot_ne (C := "com/example/hewristic/hewristic/model/Rectangle") (Or.inr (hw _ (List.mem_of_getElem? (i := 35) rfl))) (Or.inr (hw _ (List.mem_of_getElem? (i := 33) rfl))) (by decide) (by decide : _ = some .int) (by decide : _ = some .int)))))⟩
theorem d9_0 : decode prog_9_method_15_code 0 = .ok (.aload_n 1, 1) := by decide +kernel
theorem d9_1 : decode prog_9_method_15_code 1 = .ok (.instanceof 10, 3) := by decide +kernel
theorem d9_4 : decode prog_9_method_15_code 4 = .ok (.ifCond .ne 5, 3) := by decide +kernel
theorem d9_7 : decode prog_9_method_15_code 7 = .ok (.iconst 0, 1) := by decide +kernel
theorem d9_8 : decode prog_9_method_15_code 8 = .ok (.ireturn, 1) := by decide +kernel
theorem d9_9 : decode prog_9_method_15_code 9 = .ok (.aload_n 1, 1) := by decide +kernel
theorem d9_10 : decode prog_9_method_15_code 10 = .ok (.checkcast 10, 3) := by decide +kernel
theorem d9_13 : decode prog_9_method_15_code 13 = .ok (.astore_n 2, 1) := by decide +kernel
theorem d9_14 : decode prog_9_method_15_code 14 = .ok (.aload_n 0, 1) := by decide +kernel
theorem d9_15 : decode prog_9_method_15_code 15 = .ok (.getfield 21, 3) := by decide +kernel
theorem d9_18 : decode prog_9_method_15_code 18 = .ok (.aload_n 2, 1) := by decide +kernel
theorem d9_19 : decode prog_9_method_15_code 19 = .ok (.getfield 21, 3) := by decide +kernel
theorem d9_22 : decode prog_9_method_15_code 22 = .ok (.if_icmp .ne 40, 3) := by decide +kernel
theorem d9_25 : decode prog_9_method_15_code 25 = .ok (.aload_n 0, 1) := by decide +kernel
theorem d9_26 : decode prog_9_method_15_code 26 = .ok (.getfield 25, 3) := by decide +kernel
theorem d9_29 : decode prog_9_method_15_code 29 = .ok (.aload_n 2, 1) := by decide +kernel
theorem d9_30 : decode prog_9_method_15_code 30 = .ok (.getfield 25, 3) := by decide +kernel
theorem d9_33 : decode prog_9_method_15_code 33 = .ok (.if_icmp .ne 29, 3) := by decide +kernel
theorem d9_36 : decode prog_9_method_15_code 36 = .ok (.aload_n 0, 1) := by decide +kernel
theorem d9_37 : decode prog_9_method_15_code 37 = .ok (.getfield 28, 3) := by decide +kernel
theorem d9_40 : decode prog_9_method_15_code 40 = .ok (.aload_n 2, 1) := by decide +kernel
theorem d9_41 : decode prog_9_method_15_code 41 = .ok (.getfield 28, 3) := by decide +kernel
theorem d9_44 : decode prog_9_method_15_code 44 = .ok (.if_icmp .ne 18, 3) := by decide +kernel
theorem d9_47 : decode prog_9_method_15_code 47 = .ok (.aload_n 0, 1) := by decide +kernel
theorem d9_48 : decode prog_9_method_15_code 48 = .ok (.getfield 31, 3) := by decide +kernel
theorem d9_51 : decode prog_9_method_15_code 51 = .ok (.aload_n 2, 1) := by decide +kernel
theorem d9_52 : decode prog_9_method_15_code 52 = .ok (.getfield 31, 3) := by decide +kernel
theorem d9_55 : decode prog_9_method_15_code 55 = .ok (.if_icmp .ne 7, 3) := by decide +kernel
theorem d9_58 : decode prog_9_method_15_code 58 = .ok (.iconst 1, 1) := by decide +kernel
theorem d9_59 : decode prog_9_method_15_code 59 = .ok (.goto 4, 3) := by decide +kernel
theorem d9_62 : decode prog_9_method_15_code 62 = .ok (.iconst 0, 1) := by decide +kernel
theorem d9_63 : decode prog_9_method_15_code 63 = .ok (.ireturn, 1) := by decide +kernel
theorem pl_6 : plainFor (⟨"com/example/hewristic/hewristic/model/Rectangle", "equals", "(Ljava/lang/Object;)Z"⟩ : MethodName) = true := plainFor_of_name (by first | (simp [plainName, overriddenIn]; done) | decide +kernel)
set_option maxRecDepth 65536 in
set_option maxHeartbeats 40000000 in
theorem rmEq (l : Launch) (Z : State) (a0 : Array Value) (hw : ∀ d ∈ tables_1, d.before a0 Z = true) (a b : Addr) (x1 x2 x3 x4 y1 y2 y3 y4 : Int32) (h0 : Heap) (n0 : Nat) (Z0 : n0 ≤ h0.size) (E : Exa Z h0 b "com/example/hewristic/hewristic/model/Rectangle") (F1 : Fld Z h0 a "com/example/hewristic/hewristic/model/Rectangle" "left" "I" (.int x1)) (G1 : Fld Z h0 b "com/example/hewristic/hewristic/model/Rectangle" "left" "I" (.int y1)) (F2 : Fld Z h0 a "com/example/hewristic/hewristic/model/Rectangle" "top" "I" (.int x2)) (G2 : Fld Z h0 b "com/example/hewristic/hewristic/model/Rectangle" "top" "I" (.int y2)) (F3 : Fld Z h0 a "com/example/hewristic/hewristic/model/Rectangle" "right" "I" (.int x3)) (G3 : Fld Z h0 b "com/example/hewristic/hewristic/model/Rectangle" "right" "I" (.int y3)) (F4 : Fld Z h0 a "com/example/hewristic/hewristic/model/Rectangle" "bottom" "I" (.int x4)) (G4 : Fld Z h0 b "com/example/hewristic/hewristic/model/Rectangle" "bottom" "I" (.int y4)) :
    Met l Z (⟨"com/example/hewristic/hewristic/model/Rectangle", "equals", "(Ljava/lang/Object;)Z"⟩ : MethodName) prog_9_method_15_code 3 (Option.some FieldType.boolean) [] ({ frames := 0, cells := 0, slots := 0, locals := 0 } : Room) #[(.ref a), (.ref b)] h0 n0 (fun v h => v = some (.int (eqv x1 x2 x3 x4 y1 y2 y3 y4)) ∧ h0 = h) := by
  refine Met.of (Ls0 := #[.val (.ref a), .val (.ref b), .unset]) pl_6 (by first | (simp [argsToLocals, Value.category]; done) | rfl) ?_
  intro p e s m below meth c hx hby hml hret hlk hown hnm hZ
  refine Go.aloadN (q := 1) hx (hb hby d9_0) rfl (by rfl) rfl ?_
  refine Go.instY (q := 4) hx hZ hown (hw _ (List.mem_of_getElem? (i := 46) rfl)) (Ins.self E) (hb hby d9_1) rfl ?_
  refine Go.if_ne (q := 7) (t := 9) hx (hb hby d9_4) (by decide) rfl rfl (fun hc4 => ?_) (fun hc4 => absurd hc4 (by decide))
  refine Go.aloadN (q := 10) hx (hb hby d9_9) rfl (by rfl) rfl ?_
  refine Go.castY (q := 13) hx hZ hown (hw _ (List.mem_of_getElem? (i := 46) rfl)) (Ins.self E) (hb hby d9_10) rfl ?_
  refine Go.astoreN (q := 14) (l' := #[.val (.ref a), .val (.ref b), .val (.ref b)]) hx (hb hby d9_13) (by rfl) rfl rfl ?_
  refine Go.aloadN (q := 15) hx (hb hby d9_14) rfl (by rfl) rfl ?_
  refine Go.getF (q := 18) hx hZ hown (host := "") (Or.inl (hw _ (List.mem_of_getElem? (i := 28) rfl))) Via.refl F1 (hb hby d9_15) rfl ?_
  refine Go.aloadN (q := 19) hx (hb hby d9_18) rfl (by rfl) rfl ?_
  refine Go.getF (q := 22) hx hZ hown (host := "") (Or.inl (hw _ (List.mem_of_getElem? (i := 28) rfl))) Via.refl G1 (hb hby d9_19) rfl ?_
  refine Go.icmp_ne (q := 25) (t := 62) hx (hb hby d9_22) (by decide) rfl rfl (fun hc22 => ?_) (fun hc22 => ?_)
  · skip
    refine Go.iconst (q := 63) (z := (0 : Int32)) hx (hb hby d9_62) rfl rfl ?_
    refine Go.retN hx (t := .boolean) hret (by simp) hlk (hb hby d9_63) (by decide) (by decide) ?_
    exact ⟨by simp [eqv, nar, hc22], rfl⟩
  · skip
    refine Go.aloadN (q := 26) hx (hb hby d9_25) rfl (by rfl) rfl ?_
    refine Go.getF (q := 29) hx hZ hown (host := "") (Or.inl (hw _ (List.mem_of_getElem? (i := 30) rfl))) Via.refl F2 (hb hby d9_26) rfl ?_
    refine Go.aloadN (q := 30) hx (hb hby d9_29) rfl (by rfl) rfl ?_
    refine Go.getF (q := 33) hx hZ hown (host := "") (Or.inl (hw _ (List.mem_of_getElem? (i := 30) rfl))) Via.refl G2 (hb hby d9_30) rfl ?_
    refine Go.icmp_ne (q := 36) (t := 62) hx (hb hby d9_33) (by decide) rfl rfl (fun hc33 => ?_) (fun hc33 => ?_)
    · skip
      refine Go.iconst (q := 63) (z := (0 : Int32)) hx (hb hby d9_62) rfl rfl ?_
      refine Go.retN hx (t := .boolean) hret (by simp) hlk (hb hby d9_63) (by decide) (by decide) ?_
      exact ⟨by simp [eqv, nar, hc22, hc33], rfl⟩
    · skip
      refine Go.aloadN (q := 37) hx (hb hby d9_36) rfl (by rfl) rfl ?_
      refine Go.getF (q := 40) hx hZ hown (host := "") (Or.inl (hw _ (List.mem_of_getElem? (i := 32) rfl))) Via.refl F3 (hb hby d9_37) rfl ?_
      refine Go.aloadN (q := 41) hx (hb hby d9_40) rfl (by rfl) rfl ?_
      refine Go.getF (q := 44) hx hZ hown (host := "") (Or.inl (hw _ (List.mem_of_getElem? (i := 32) rfl))) Via.refl G3 (hb hby d9_41) rfl ?_
      refine Go.icmp_ne (q := 47) (t := 62) hx (hb hby d9_44) (by decide) rfl rfl (fun hc44 => ?_) (fun hc44 => ?_)
      · skip
        refine Go.iconst (q := 63) (z := (0 : Int32)) hx (hb hby d9_62) rfl rfl ?_
        refine Go.retN hx (t := .boolean) hret (by simp) hlk (hb hby d9_63) (by decide) (by decide) ?_
        exact ⟨by simp [eqv, nar, hc22, hc33, hc44], rfl⟩
      · skip
        refine Go.aloadN (q := 48) hx (hb hby d9_47) rfl (by rfl) rfl ?_
        refine Go.getF (q := 51) hx hZ hown (host := "") (Or.inl (hw _ (List.mem_of_getElem? (i := 34) rfl))) Via.refl F4 (hb hby d9_48) rfl ?_
        refine Go.aloadN (q := 52) hx (hb hby d9_51) rfl (by rfl) rfl ?_
        refine Go.getF (q := 55) hx hZ hown (host := "") (Or.inl (hw _ (List.mem_of_getElem? (i := 34) rfl))) Via.refl G4 (hb hby d9_52) rfl ?_
        refine Go.icmp_ne (q := 58) (t := 62) hx (hb hby d9_55) (by decide) rfl rfl (fun hc55 => ?_) (fun hc55 => ?_)
        · skip
          refine Go.iconst (q := 63) (z := (0 : Int32)) hx (hb hby d9_62) rfl rfl ?_
          refine Go.retN hx (t := .boolean) hret (by simp) hlk (hb hby d9_63) (by decide) (by decide) ?_
          exact ⟨by simp [eqv, nar, hc22, hc33, hc44, hc55], rfl⟩
        · skip
          refine Go.iconst (q := 59) (z := (1 : Int32)) hx (hb hby d9_58) rfl rfl ?_
          refine Go.goto (q := 63) hx (hb hby d9_59) (by decide) rfl ?_
          refine Go.retN hx (t := .boolean) hret (by simp) hlk (hb hby d9_63) (by decide) (by decide) ?_
          exact ⟨by simp [eqv, nar, hc22, hc33, hc44, hc55], rfl⟩
theorem d7_0 : decode prog_9_method_13_code 0 = .ok (.aload_n 0, 1) := by decide +kernel
theorem d7_1 : decode prog_9_method_13_code 1 = .ok (.getfield 21, 3) := by decide +kernel
theorem d7_4 : decode prog_9_method_13_code 4 = .ok (.aload_n 1, 1) := by decide +kernel
theorem d7_5 : decode prog_9_method_13_code 5 = .ok (.getfield 21, 3) := by decide +kernel
theorem d7_8 : decode prog_9_method_13_code 8 = .ok (.if_icmp .gt 40, 3) := by decide +kernel
theorem d7_11 : decode prog_9_method_13_code 11 = .ok (.aload_n 0, 1) := by decide +kernel
theorem d7_12 : decode prog_9_method_13_code 12 = .ok (.getfield 25, 3) := by decide +kernel
theorem d7_15 : decode prog_9_method_13_code 15 = .ok (.aload_n 1, 1) := by decide +kernel
theorem d7_16 : decode prog_9_method_13_code 16 = .ok (.getfield 25, 3) := by decide +kernel
theorem d7_19 : decode prog_9_method_13_code 19 = .ok (.if_icmp .gt 29, 3) := by decide +kernel
theorem d7_22 : decode prog_9_method_13_code 22 = .ok (.aload_n 1, 1) := by decide +kernel
theorem d7_23 : decode prog_9_method_13_code 23 = .ok (.getfield 28, 3) := by decide +kernel
theorem d7_26 : decode prog_9_method_13_code 26 = .ok (.aload_n 0, 1) := by decide +kernel
theorem d7_27 : decode prog_9_method_13_code 27 = .ok (.getfield 28, 3) := by decide +kernel
theorem d7_30 : decode prog_9_method_13_code 30 = .ok (.if_icmp .gt 18, 3) := by decide +kernel
theorem d7_33 : decode prog_9_method_13_code 33 = .ok (.aload_n 1, 1) := by decide +kernel
theorem d7_34 : decode prog_9_method_13_code 34 = .ok (.getfield 31, 3) := by decide +kernel
theorem d7_37 : decode prog_9_method_13_code 37 = .ok (.aload_n 0, 1) := by decide +kernel
theorem d7_38 : decode prog_9_method_13_code 38 = .ok (.getfield 31, 3) := by decide +kernel
theorem d7_41 : decode prog_9_method_13_code 41 = .ok (.if_icmp .gt 7, 3) := by decide +kernel
theorem d7_44 : decode prog_9_method_13_code 44 = .ok (.iconst 1, 1) := by decide +kernel
theorem d7_45 : decode prog_9_method_13_code 45 = .ok (.goto 4, 3) := by decide +kernel
theorem d7_48 : decode prog_9_method_13_code 48 = .ok (.iconst 0, 1) := by decide +kernel
theorem d7_49 : decode prog_9_method_13_code 49 = .ok (.ireturn, 1) := by decide +kernel
theorem pl_7 : plainFor (⟨"com/example/hewristic/hewristic/model/Rectangle", "contains", "(Lcom/example/hewristic/hewristic/model/Rectangle;)Z"⟩ : MethodName) = true := plainFor_of_name (by first | (simp [plainName, overriddenIn]; done) | decide +kernel)
set_option maxRecDepth 65536 in
set_option maxHeartbeats 40000000 in
theorem rmCont (l : Launch) (Z : State) (a0 : Array Value) (hw : ∀ d ∈ tables_1, d.before a0 Z = true) (a b : Addr) (x1 x2 x3 x4 y1 y2 y3 y4 : Int32) (h0 : Heap) (n0 : Nat) (Z0 : n0 ≤ h0.size) (F1 : Fld Z h0 a "com/example/hewristic/hewristic/model/Rectangle" "left" "I" (.int x1)) (G1 : Fld Z h0 b "com/example/hewristic/hewristic/model/Rectangle" "left" "I" (.int y1)) (F2 : Fld Z h0 a "com/example/hewristic/hewristic/model/Rectangle" "top" "I" (.int x2)) (G2 : Fld Z h0 b "com/example/hewristic/hewristic/model/Rectangle" "top" "I" (.int y2)) (F3 : Fld Z h0 a "com/example/hewristic/hewristic/model/Rectangle" "right" "I" (.int x3)) (G3 : Fld Z h0 b "com/example/hewristic/hewristic/model/Rectangle" "right" "I" (.int y3)) (F4 : Fld Z h0 a "com/example/hewristic/hewristic/model/Rectangle" "bottom" "I" (.int x4)) (G4 : Fld Z h0 b "com/example/hewristic/hewristic/model/Rectangle" "bottom" "I" (.int y4)) :
    Met l Z (⟨"com/example/hewristic/hewristic/model/Rectangle", "contains", "(Lcom/example/hewristic/hewristic/model/Rectangle;)Z"⟩ : MethodName) prog_9_method_13_code 2 (Option.some FieldType.boolean) [] ({ frames := 0, cells := 0, slots := 0, locals := 0 } : Room) #[(.ref a), (.ref b)] h0 n0 (fun v h => v = some (.int (cont x1 x2 x3 x4 y1 y2 y3 y4)) ∧ h0 = h) := by
  refine Met.of (Ls0 := #[.val (.ref a), .val (.ref b)]) pl_7 (by first | (simp [argsToLocals, Value.category]; done) | rfl) ?_
  intro p e s m below meth c hx hby hml hret hlk hown hnm hZ
  refine Go.aloadN (q := 1) hx (hb hby d7_0) rfl (by rfl) rfl ?_
  refine Go.getF (q := 4) hx hZ hown (host := "") (Or.inl (hw _ (List.mem_of_getElem? (i := 28) rfl))) Via.refl F1 (hb hby d7_1) rfl ?_
  refine Go.aloadN (q := 5) hx (hb hby d7_4) rfl (by rfl) rfl ?_
  refine Go.getF (q := 8) hx hZ hown (host := "") (Or.inl (hw _ (List.mem_of_getElem? (i := 28) rfl))) Via.refl G1 (hb hby d7_5) rfl ?_
  refine Go.icmp_gt (q := 11) (t := 48) hx (hb hby d7_8) (by decide) rfl rfl (fun hc8 => ?_) (fun hc8 => ?_)
  · skip
    refine Go.iconst (q := 49) (z := (0 : Int32)) hx (hb hby d7_48) rfl rfl ?_
    refine Go.retN hx (t := .boolean) hret (by simp) hlk (hb hby d7_49) (by decide) (by decide) ?_
    exact ⟨by simp [cont, nar, hc8], rfl⟩
  · skip
    refine Go.aloadN (q := 12) hx (hb hby d7_11) rfl (by rfl) rfl ?_
    refine Go.getF (q := 15) hx hZ hown (host := "") (Or.inl (hw _ (List.mem_of_getElem? (i := 30) rfl))) Via.refl F2 (hb hby d7_12) rfl ?_
    refine Go.aloadN (q := 16) hx (hb hby d7_15) rfl (by rfl) rfl ?_
    refine Go.getF (q := 19) hx hZ hown (host := "") (Or.inl (hw _ (List.mem_of_getElem? (i := 30) rfl))) Via.refl G2 (hb hby d7_16) rfl ?_
    refine Go.icmp_gt (q := 22) (t := 48) hx (hb hby d7_19) (by decide) rfl rfl (fun hc19 => ?_) (fun hc19 => ?_)
    · skip
      refine Go.iconst (q := 49) (z := (0 : Int32)) hx (hb hby d7_48) rfl rfl ?_
      refine Go.retN hx (t := .boolean) hret (by simp) hlk (hb hby d7_49) (by decide) (by decide) ?_
      exact ⟨by simp [cont, nar, hc8, hc19], rfl⟩
    · skip
      refine Go.aloadN (q := 23) hx (hb hby d7_22) rfl (by rfl) rfl ?_
      refine Go.getF (q := 26) hx hZ hown (host := "") (Or.inl (hw _ (List.mem_of_getElem? (i := 32) rfl))) Via.refl G3 (hb hby d7_23) rfl ?_
      refine Go.aloadN (q := 27) hx (hb hby d7_26) rfl (by rfl) rfl ?_
      refine Go.getF (q := 30) hx hZ hown (host := "") (Or.inl (hw _ (List.mem_of_getElem? (i := 32) rfl))) Via.refl F3 (hb hby d7_27) rfl ?_
      refine Go.icmp_gt (q := 33) (t := 48) hx (hb hby d7_30) (by decide) rfl rfl (fun hc30 => ?_) (fun hc30 => ?_)
      · skip
        refine Go.iconst (q := 49) (z := (0 : Int32)) hx (hb hby d7_48) rfl rfl ?_
        refine Go.retN hx (t := .boolean) hret (by simp) hlk (hb hby d7_49) (by decide) (by decide) ?_
        exact ⟨by simp [cont, nar, hc8, hc19, hc30], rfl⟩
      · skip
        refine Go.aloadN (q := 34) hx (hb hby d7_33) rfl (by rfl) rfl ?_
        refine Go.getF (q := 37) hx hZ hown (host := "") (Or.inl (hw _ (List.mem_of_getElem? (i := 34) rfl))) Via.refl G4 (hb hby d7_34) rfl ?_
        refine Go.aloadN (q := 38) hx (hb hby d7_37) rfl (by rfl) rfl ?_
        refine Go.getF (q := 41) hx hZ hown (host := "") (Or.inl (hw _ (List.mem_of_getElem? (i := 34) rfl))) Via.refl F4 (hb hby d7_38) rfl ?_
        refine Go.icmp_gt (q := 44) (t := 48) hx (hb hby d7_41) (by decide) rfl rfl (fun hc41 => ?_) (fun hc41 => ?_)
        · skip
          refine Go.iconst (q := 49) (z := (0 : Int32)) hx (hb hby d7_48) rfl rfl ?_
          refine Go.retN hx (t := .boolean) hret (by simp) hlk (hb hby d7_49) (by decide) (by decide) ?_
          exact ⟨by simp [cont, nar, hc8, hc19, hc30, hc41], rfl⟩
        · skip
          refine Go.iconst (q := 45) (z := (1 : Int32)) hx (hb hby d7_44) rfl rfl ?_
          refine Go.goto (q := 49) hx (hb hby d7_45) (by decide) rfl ?_
          refine Go.retN hx (t := .boolean) hret (by simp) hlk (hb hby d7_49) (by decide) (by decide) ?_
          exact ⟨by simp [cont, nar, hc8, hc19, hc30, hc41], rfl⟩
theorem d8_0 : decode prog_9_method_14_code 0 = .ok (.new 10, 3) := by decide +kernel
theorem d8_3 : decode prog_9_method_14_code 3 = .ok (.dup, 1) := by decide +kernel
theorem d8_4 : decode prog_9_method_14_code 4 = .ok (.aload_n 0, 1) := by decide +kernel
theorem d8_5 : decode prog_9_method_14_code 5 = .ok (.getfield 21, 3) := by decide +kernel
theorem d8_8 : decode prog_9_method_14_code 8 = .ok (.aload_n 1, 1) := by decide +kernel
theorem d8_9 : decode prog_9_method_14_code 9 = .ok (.getfield 21, 3) := by decide +kernel
theorem d8_12 : decode prog_9_method_14_code 12 = .ok (.invokestatic 41, 3) := by decide +kernel
theorem d8_15 : decode prog_9_method_14_code 15 = .ok (.aload_n 0, 1) := by decide +kernel
theorem d8_16 : decode prog_9_method_14_code 16 = .ok (.getfield 25, 3) := by decide +kernel
theorem d8_19 : decode prog_9_method_14_code 19 = .ok (.aload_n 1, 1) := by decide +kernel
theorem d8_20 : decode prog_9_method_14_code 20 = .ok (.getfield 25, 3) := by decide +kernel
theorem d8_23 : decode prog_9_method_14_code 23 = .ok (.invokestatic 41, 3) := by decide +kernel
theorem d8_26 : decode prog_9_method_14_code 26 = .ok (.aload_n 0, 1) := by decide +kernel
theorem d8_27 : decode prog_9_method_14_code 27 = .ok (.getfield 28, 3) := by decide +kernel
theorem d8_30 : decode prog_9_method_14_code 30 = .ok (.aload_n 1, 1) := by decide +kernel
theorem d8_31 : decode prog_9_method_14_code 31 = .ok (.getfield 28, 3) := by decide +kernel
theorem d8_34 : decode prog_9_method_14_code 34 = .ok (.invokestatic 47, 3) := by decide +kernel
theorem d8_37 : decode prog_9_method_14_code 37 = .ok (.aload_n 0, 1) := by decide +kernel
theorem d8_38 : decode prog_9_method_14_code 38 = .ok (.getfield 31, 3) := by decide +kernel
theorem d8_41 : decode prog_9_method_14_code 41 = .ok (.aload_n 1, 1) := by decide +kernel
theorem d8_42 : decode prog_9_method_14_code 42 = .ok (.getfield 31, 3) := by decide +kernel
theorem d8_45 : decode prog_9_method_14_code 45 = .ok (.invokestatic 47, 3) := by decide +kernel
theorem d8_48 : decode prog_9_method_14_code 48 = .ok (.invokespecial 57, 3) := by decide +kernel
theorem d8_51 : decode prog_9_method_14_code 51 = .ok (.areturn, 1) := by decide +kernel
theorem pl_8 : plainFor (⟨"com/example/hewristic/hewristic/model/Rectangle", "union", "(Lcom/example/hewristic/hewristic/model/Rectangle;)Lcom/example/hewristic/hewristic/model/Rectangle;"⟩ : MethodName) = true := plainFor_of_name (by first | (simp [plainName, overriddenIn]; done) | decide +kernel)
theorem pd_3 : parseMethodDescriptor "(IIII)V" = some ⟨[.int, .int, .int, .int], none⟩ := by decide +kernel
set_option maxRecDepth 65536 in
set_option maxHeartbeats 40000000 in
theorem rmUn (l : Launch) (Z : State) (a0 : Array Value) (hw : ∀ d ∈ tables_1, d.before a0 Z = true) (a b : Addr) (x1 x2 x3 x4 y1 y2 y3 y4 : Int32) (h0 : Heap) (n0 : Nat) (Z0 : n0 ≤ h0.size) (F1 : Fld Z h0 a "com/example/hewristic/hewristic/model/Rectangle" "left" "I" (.int x1)) (G1 : Fld Z h0 b "com/example/hewristic/hewristic/model/Rectangle" "left" "I" (.int y1)) (F2 : Fld Z h0 a "com/example/hewristic/hewristic/model/Rectangle" "top" "I" (.int x2)) (G2 : Fld Z h0 b "com/example/hewristic/hewristic/model/Rectangle" "top" "I" (.int y2)) (F3 : Fld Z h0 a "com/example/hewristic/hewristic/model/Rectangle" "right" "I" (.int x3)) (G3 : Fld Z h0 b "com/example/hewristic/hewristic/model/Rectangle" "right" "I" (.int y3)) (F4 : Fld Z h0 a "com/example/hewristic/hewristic/model/Rectangle" "bottom" "I" (.int x4)) (G4 : Fld Z h0 b "com/example/hewristic/hewristic/model/Rectangle" "bottom" "I" (.int y4)) (ok : Okr (imin x1 y1) (imin x2 y2) (imax x3 y3) (imax x4 y4)) :
    Met l Z (⟨"com/example/hewristic/hewristic/model/Rectangle", "union", "(Lcom/example/hewristic/hewristic/model/Rectangle;)Lcom/example/hewristic/hewristic/model/Rectangle;"⟩ : MethodName) prog_9_method_14_code 2 (Option.some (FieldType.object "com/example/hewristic/hewristic/model/Rectangle")) [] ({ frames := 2, cells := 1, slots := 4, locals := 32 } : Room) #[(.ref a), (.ref b)] h0 n0 (fun v h => ∃ c, v = some (.ref c) ∧ h0.size ≤ c ∧ Keep h0 h [] ∧ Exa Z h c "com/example/hewristic/hewristic/model/Rectangle" ∧ Fld Z h c "com/example/hewristic/hewristic/model/Rectangle" "left" "I" (.int (imin x1 y1)) ∧ Fld Z h c "com/example/hewristic/hewristic/model/Rectangle" "top" "I" (.int (imin x2 y2)) ∧ Fld Z h c "com/example/hewristic/hewristic/model/Rectangle" "right" "I" (.int (imax x3 y3)) ∧ Fld Z h c "com/example/hewristic/hewristic/model/Rectangle" "bottom" "I" (.int (imax x4 y4))) := by
  refine Met.of (Ls0 := #[.val (.ref a), .val (.ref b)]) pl_8 (by first | (simp [argsToLocals, Value.category]; done) | rfl) ?_
  intro p e s m below meth c hx hby hml hret hlk hown hnm hZ
  refine Go.newO (q := 3) hx hZ hown (hw _ (List.mem_of_getElem? (i := 46) rfl)) (hw _ (List.mem_of_getElem? (i := 19) rfl)) (hw _ (List.mem_of_getElem? (i := 20) rfl)) (hb hby d8_0) rfl (ce' := 1) (sl' := 4) rfl rfl (by decide) (by decide) (fun h21 a22 g23 E24 A25 D26 => ?_)
  have ne27 : a ≠ a22 := by rw [g23]; exact Nat.ne_of_lt (F1).lt
  have ne28 : b ≠ a22 := by rw [g23]; exact Nat.ne_of_lt (G1).lt
  have gz29 : n0 ≤ a22 := by rw [g23]; exact Z0
  have gk30 : h0.size ≤ a22 := by rw [g23]; exact (Keep.refl h0 []).1
  refine Go.dup (q := 4) hx (hb hby d8_3) rfl rfl ?_
  refine Go.aloadN (q := 5) hx (hb hby d8_4) rfl (by rfl) rfl ?_
  refine Go.getF (q := 8) hx hZ hown (host := "") (Or.inl (hw _ (List.mem_of_getElem? (i := 28) rfl))) Via.refl (Fld.ext E24 F1) (hb hby d8_5) rfl ?_
  refine Go.aloadN (q := 9) hx (hb hby d8_8) rfl (by rfl) rfl ?_
  refine Go.getF (q := 12) hx hZ hown (host := "") (Or.inl (hw _ (List.mem_of_getElem? (i := 28) rfl))) Via.refl (Fld.ext E24 G1) (hb hby d8_9) rfl ?_
  refine Go.callS (q := 15) hx hZ (argsL := [(.int x1), (.int y1)]) (rest := [(.ref a22), (.ref a22)]) hown (hw _ (List.mem_of_getElem? (i := 47) rfl)) (hw _ (List.mem_of_getElem? (i := 5) rfl)) (hw _ (List.mem_of_getElem? (i := 6) rfl)) (hw _ (List.mem_of_getElem? (i := 7) rfl)) (by decide) (rmMin l Z a0 hw x1 y1 h21 n0 (Nat.le_trans Z0 E24.1)) (by rw [hml]; rfl) pd_0 rfl rfl (hb hby d8_12) rfl (by decide) (Nat.le_of_ble_eq_true rfl) (ce' := 1) (sl' := 4) rfl rfl (by decide) (by decide) (fun v31 h32 hQ33 => ?_)
  obtain ⟨rfl, rfl⟩ := hQ33
  show Go _ _ _ _ _ _ _ _ _ _ _ _ _ _ _ 1 4 15 #[.val (.ref a), .val (.ref b)] [(.int (imin x1 y1)), (.ref a22), (.ref a22)]
  refine Go.aloadN (q := 16) hx (hb hby d8_15) rfl (by rfl) rfl ?_
  refine Go.getF (q := 19) hx hZ hown (host := "") (Or.inl (hw _ (List.mem_of_getElem? (i := 30) rfl))) Via.refl (Fld.ext E24 F2) (hb hby d8_16) rfl ?_
  refine Go.aloadN (q := 20) hx (hb hby d8_19) rfl (by rfl) rfl ?_
  refine Go.getF (q := 23) hx hZ hown (host := "") (Or.inl (hw _ (List.mem_of_getElem? (i := 30) rfl))) Via.refl (Fld.ext E24 G2) (hb hby d8_20) rfl ?_
  refine Go.callS (q := 26) hx hZ (argsL := [(.int x2), (.int y2)]) (rest := [(.int (imin x1 y1)), (.ref a22), (.ref a22)]) hown (hw _ (List.mem_of_getElem? (i := 47) rfl)) (hw _ (List.mem_of_getElem? (i := 5) rfl)) (hw _ (List.mem_of_getElem? (i := 6) rfl)) (hw _ (List.mem_of_getElem? (i := 7) rfl)) (by decide) (rmMin l Z a0 hw x2 y2 h21 n0 (Nat.le_trans Z0 E24.1)) (by rw [hml]; rfl) pd_0 rfl rfl (hb hby d8_23) rfl (by decide) (Nat.le_of_ble_eq_true rfl) (ce' := 1) (sl' := 4) rfl rfl (by decide) (by decide) (fun v34 h35 hQ36 => ?_)
  obtain ⟨rfl, rfl⟩ := hQ36
  show Go _ _ _ _ _ _ _ _ _ _ _ _ _ _ _ 1 4 26 #[.val (.ref a), .val (.ref b)] [(.int (imin x2 y2)), (.int (imin x1 y1)), (.ref a22), (.ref a22)]
  refine Go.aloadN (q := 27) hx (hb hby d8_26) rfl (by rfl) rfl ?_
  refine Go.getF (q := 30) hx hZ hown (host := "") (Or.inl (hw _ (List.mem_of_getElem? (i := 32) rfl))) Via.refl (Fld.ext E24 F3) (hb hby d8_27) rfl ?_
  refine Go.aloadN (q := 31) hx (hb hby d8_30) rfl (by rfl) rfl ?_
  refine Go.getF (q := 34) hx hZ hown (host := "") (Or.inl (hw _ (List.mem_of_getElem? (i := 32) rfl))) Via.refl (Fld.ext E24 G3) (hb hby d8_31) rfl ?_
  refine Go.callS (q := 37) hx hZ (argsL := [(.int x3), (.int y3)]) (rest := [(.int (imin x2 y2)), (.int (imin x1 y1)), (.ref a22), (.ref a22)]) hown (hw _ (List.mem_of_getElem? (i := 48) rfl)) (hw _ (List.mem_of_getElem? (i := 12) rfl)) (hw _ (List.mem_of_getElem? (i := 6) rfl)) (hw _ (List.mem_of_getElem? (i := 13) rfl)) (by decide) (rmMax l Z a0 hw x3 y3 h21 n0 (Nat.le_trans Z0 E24.1)) (by rw [hml]; rfl) pd_0 rfl rfl (hb hby d8_34) rfl (by decide) (Nat.le_of_ble_eq_true rfl) (ce' := 1) (sl' := 4) rfl rfl (by decide) (by decide) (fun v37 h38 hQ39 => ?_)
  obtain ⟨rfl, rfl⟩ := hQ39
  show Go _ _ _ _ _ _ _ _ _ _ _ _ _ _ _ 1 4 37 #[.val (.ref a), .val (.ref b)] [(.int (imax x3 y3)), (.int (imin x2 y2)), (.int (imin x1 y1)), (.ref a22), (.ref a22)]
  refine Go.aloadN (q := 38) hx (hb hby d8_37) rfl (by rfl) rfl ?_
  refine Go.getF (q := 41) hx hZ hown (host := "") (Or.inl (hw _ (List.mem_of_getElem? (i := 34) rfl))) Via.refl (Fld.ext E24 F4) (hb hby d8_38) rfl ?_
  refine Go.aloadN (q := 42) hx (hb hby d8_41) rfl (by rfl) rfl ?_
  refine Go.getF (q := 45) hx hZ hown (host := "") (Or.inl (hw _ (List.mem_of_getElem? (i := 34) rfl))) Via.refl (Fld.ext E24 G4) (hb hby d8_42) rfl ?_
  refine Go.callS (q := 48) hx hZ (argsL := [(.int x4), (.int y4)]) (rest := [(.int (imax x3 y3)), (.int (imin x2 y2)), (.int (imin x1 y1)), (.ref a22), (.ref a22)]) hown (hw _ (List.mem_of_getElem? (i := 48) rfl)) (hw _ (List.mem_of_getElem? (i := 12) rfl)) (hw _ (List.mem_of_getElem? (i := 6) rfl)) (hw _ (List.mem_of_getElem? (i := 13) rfl)) (by decide) (rmMax l Z a0 hw x4 y4 h21 n0 (Nat.le_trans Z0 E24.1)) (by rw [hml]; rfl) pd_0 rfl rfl (hb hby d8_45) rfl (by decide) (Nat.le_of_ble_eq_true rfl) (ce' := 1) (sl' := 4) rfl rfl (by decide) (by decide) (fun v40 h41 hQ42 => ?_)
  obtain ⟨rfl, rfl⟩ := hQ42
  show Go _ _ _ _ _ _ _ _ _ _ _ _ _ _ _ 1 4 48 #[.val (.ref a), .val (.ref b)] [(.int (imax x4 y4)), (.int (imax x3 y3)), (.int (imin x2 y2)), (.int (imin x1 y1)), (.ref a22), (.ref a22)]
  refine Go.callI (q := 51) hx hZ (a := a22) (argsL := [(.int (imin x1 y1)), (.int (imin x2 y2)), (.int (imax x3 y3)), (.int (imax x4 y4))]) (rest := [(.ref a22)]) hown rfl (hw _ (List.mem_of_getElem? (i := 49) rfl)) (hw _ (List.mem_of_getElem? (i := 22) rfl)) (hw _ (List.mem_of_getElem? (i := 20) rfl)) (hw _ (List.mem_of_getElem? (i := 23) rfl)) (by decide) (rmInit l Z a0 hw a22 (imin x1 y1) (imin x2 y2) (imax x3 y3) (imax x4 y4) h21 n0 (Nat.le_trans Z0 E24.1) ok gz29 A25 (D26 (Or.inr (hw _ (List.mem_of_getElem? (i := 29) rfl))) (ty := .int) (by decide)) (D26 (Or.inr (hw _ (List.mem_of_getElem? (i := 31) rfl))) (ty := .int) (by decide)) (D26 (Or.inr (hw _ (List.mem_of_getElem? (i := 33) rfl))) (ty := .int) (by decide)) (D26 (Or.inr (hw _ (List.mem_of_getElem? (i := 35) rfl))) (ty := .int) (by decide))) (by rw [hml]; rfl) pd_3 rfl rfl (hb hby d8_48) rfl (by decide) (Nat.le_of_ble_eq_true rfl) (ce' := 1) (sl' := 4) rfl rfl (by decide) (by decide) (fun v43 h44 hQ45 => ?_)
  obtain ⟨rfl, K46, F47, F48, F49, F50⟩ := hQ45
  show Go _ _ _ _ _ _ _ _ _ _ _ _ _ _ _ 1 4 51 #[.val (.ref a), .val (.ref b)] [(.ref a22)]
  refine Go.retA hx hret rfl (by rfl) hlk (hb hby d8_51) (by decide) (by decide) ?_
  exact ⟨a22, rfl, gk30, (Keep.trans ((Keep.refl h0 []).ext E24) K46 (allS (Or.inr gk30) all0)), (A25.keep K46), F47, F48, F49, F50⟩
theorem pl_9 : plainFor (⟨"com/example/hewristic/hewristic/model/RectangleContainsPinLaw", "law", "(JJJJ)Z"⟩ : MethodName) = true := plainFor_of_name (by first | (simp [plainName, overriddenIn]; done) | decide +kernel)
theorem pd_4 : parseMethodDescriptor "(J)I" = some ⟨[.long], some .int⟩ := by decide +kernel
theorem pd_5 : parseMethodDescriptor "(Lcom/example/hewristic/hewristic/model/Rectangle;)Z" = some ⟨[(.object "com/example/hewristic/hewristic/model/Rectangle")], some .boolean⟩ := by decide +kernel
theorem pd_6 : parseMethodDescriptor "(Lcom/example/hewristic/hewristic/model/Rectangle;)Lcom/example/hewristic/hewristic/model/Rectangle;" = some ⟨[(.object "com/example/hewristic/hewristic/model/Rectangle")], some (.object "com/example/hewristic/hewristic/model/Rectangle")⟩ := by decide +kernel
theorem pd_7 : parseMethodDescriptor "(Ljava/lang/Object;)Z" = some ⟨[(.object "java/lang/Object")], some .boolean⟩ := by decide +kernel
set_option maxRecDepth 65536 in
set_option maxHeartbeats 40000000 in
theorem rm0 (l : Launch) (Z : State) (a0 : Array Value) (hw : ∀ d ∈ tables_1, d.before a0 Z = true) (px py pu pv : Int64) (h0 : Heap) (n0 : Nat) (Z0 : n0 ≤ h0.size)  :
    Met l Z x code maxLocals ret tables_1 room_1 #[(.long px), (.long py), (.long pu), (.long pv)] h0 n0 (fun v h => v = some (.int 1)) := by
  refine Met.of (Ls0 := #[.val (.long px), .second, .val (.long py), .second, .val (.long pu), .second, .val (.long pv), .second, .unset, .unset, .unset, .unset, .unset, .unset, .unset, .unset, .unset, .unset, .unset, .unset, .unset, .unset, .unset, .unset]) pl_9 (by first | (simp [argsToLocals, Value.category, maxLocals]; done) | rfl) ?_
  intro p e s m below meth c hx hby hml hret hlk hown hnm hZ
  refine Go.lloadN (q := 1) hx (hb hby at_0) rfl rfl ?_
  refine Go.callS (q := 4) hx hZ (argsL := [(.long px)]) (rest := []) hown (hw _ (List.mem_of_getElem? (i := 0) rfl)) (hw _ (List.mem_of_getElem? (i := 1) rfl)) (hw _ (List.mem_of_getElem? (i := 2) rfl)) (hw _ (List.mem_of_getElem? (i := 3) rfl)) (by decide) (rmLo l Z a0 hw px h0 n0 Z0) (by rw [hml]; rfl) pd_4 rfl rfl (hb hby at_1) rfl (by decide) (Nat.le_of_ble_eq_true rfl) (ce' := 0) (sl' := 0) rfl rfl (by decide) (by decide) (fun v51 h52 hQ53 => ?_)
  obtain ⟨rfl, rfl⟩ := hQ53
  show Go _ _ _ _ _ _ _ _ _ _ _ _ _ _ _ 0 0 4 #[.val (.long px), .second, .val (.long py), .second, .val (.long pu), .second, .val (.long pv), .second, .unset, .unset, .unset, .unset, .unset, .unset, .unset, .unset, .unset, .unset, .unset, .unset, .unset, .unset, .unset, .unset] [(.int (lo px))]
  refine Go.istore (q := 6) (l' := #[.val (.long px), .second, .val (.long py), .second, .val (.long pu), .second, .val (.long pv), .second, .val (.int (lo px)), .unset, .unset, .unset, .unset, .unset, .unset, .unset, .unset, .unset, .unset, .unset, .unset, .unset, .unset, .unset]) hx (hb hby at_4) rfl rfl ?_
  refine Go.lloadN (q := 7) hx (hb hby at_6) rfl rfl ?_
  refine Go.callS (q := 10) hx hZ (argsL := [(.long px)]) (rest := []) hown (hw _ (List.mem_of_getElem? (i := 8) rfl)) (hw _ (List.mem_of_getElem? (i := 9) rfl)) (hw _ (List.mem_of_getElem? (i := 2) rfl)) (hw _ (List.mem_of_getElem? (i := 10) rfl)) (by decide) (rmHi l Z a0 hw px h0 n0 Z0) (by rw [hml]; rfl) pd_4 rfl rfl (hb hby at_7) rfl (by decide) (Nat.le_of_ble_eq_true rfl) (ce' := 0) (sl' := 0) rfl rfl (by decide) (by decide) (fun v54 h55 hQ56 => ?_)
  obtain ⟨rfl, rfl⟩ := hQ56
  show Go _ _ _ _ _ _ _ _ _ _ _ _ _ _ _ 0 0 10 #[.val (.long px), .second, .val (.long py), .second, .val (.long pu), .second, .val (.long pv), .second, .val (.int (lo px)), .unset, .unset, .unset, .unset, .unset, .unset, .unset, .unset, .unset, .unset, .unset, .unset, .unset, .unset, .unset] [(.int (hi px))]
  refine Go.istore (q := 12) (l' := #[.val (.long px), .second, .val (.long py), .second, .val (.long pu), .second, .val (.long pv), .second, .val (.int (lo px)), .val (.int (hi px)), .unset, .unset, .unset, .unset, .unset, .unset, .unset, .unset, .unset, .unset, .unset, .unset, .unset, .unset]) hx (hb hby at_10) rfl rfl ?_
  refine Go.lloadN (q := 13) hx (hb hby at_12) rfl rfl ?_
  refine Go.callS (q := 16) hx hZ (argsL := [(.long py)]) (rest := []) hown (hw _ (List.mem_of_getElem? (i := 0) rfl)) (hw _ (List.mem_of_getElem? (i := 1) rfl)) (hw _ (List.mem_of_getElem? (i := 2) rfl)) (hw _ (List.mem_of_getElem? (i := 3) rfl)) (by decide) (rmLo l Z a0 hw py h0 n0 Z0) (by rw [hml]; rfl) pd_4 rfl rfl (hb hby at_13) rfl (by decide) (Nat.le_of_ble_eq_true rfl) (ce' := 0) (sl' := 0) rfl rfl (by decide) (by decide) (fun v57 h58 hQ59 => ?_)
  obtain ⟨rfl, rfl⟩ := hQ59
  show Go _ _ _ _ _ _ _ _ _ _ _ _ _ _ _ 0 0 16 #[.val (.long px), .second, .val (.long py), .second, .val (.long pu), .second, .val (.long pv), .second, .val (.int (lo px)), .val (.int (hi px)), .unset, .unset, .unset, .unset, .unset, .unset, .unset, .unset, .unset, .unset, .unset, .unset, .unset, .unset] [(.int (lo py))]
  refine Go.istore (q := 18) (l' := #[.val (.long px), .second, .val (.long py), .second, .val (.long pu), .second, .val (.long pv), .second, .val (.int (lo px)), .val (.int (hi px)), .val (.int (lo py)), .unset, .unset, .unset, .unset, .unset, .unset, .unset, .unset, .unset, .unset, .unset, .unset, .unset]) hx (hb hby at_16) rfl rfl ?_
  refine Go.lloadN (q := 19) hx (hb hby at_18) rfl rfl ?_
  refine Go.callS (q := 22) hx hZ (argsL := [(.long py)]) (rest := []) hown (hw _ (List.mem_of_getElem? (i := 8) rfl)) (hw _ (List.mem_of_getElem? (i := 9) rfl)) (hw _ (List.mem_of_getElem? (i := 2) rfl)) (hw _ (List.mem_of_getElem? (i := 10) rfl)) (by decide) (rmHi l Z a0 hw py h0 n0 Z0) (by rw [hml]; rfl) pd_4 rfl rfl (hb hby at_19) rfl (by decide) (Nat.le_of_ble_eq_true rfl) (ce' := 0) (sl' := 0) rfl rfl (by decide) (by decide) (fun v60 h61 hQ62 => ?_)
  obtain ⟨rfl, rfl⟩ := hQ62
  show Go _ _ _ _ _ _ _ _ _ _ _ _ _ _ _ 0 0 22 #[.val (.long px), .second, .val (.long py), .second, .val (.long pu), .second, .val (.long pv), .second, .val (.int (lo px)), .val (.int (hi px)), .val (.int (lo py)), .unset, .unset, .unset, .unset, .unset, .unset, .unset, .unset, .unset, .unset, .unset, .unset, .unset] [(.int (hi py))]
  refine Go.istore (q := 24) (l' := #[.val (.long px), .second, .val (.long py), .second, .val (.long pu), .second, .val (.long pv), .second, .val (.int (lo px)), .val (.int (hi px)), .val (.int (lo py)), .val (.int (hi py)), .unset, .unset, .unset, .unset, .unset, .unset, .unset, .unset, .unset, .unset, .unset, .unset]) hx (hb hby at_22) rfl rfl ?_
  refine Go.lload (q := 26) hx (hb hby at_24) rfl rfl ?_
  refine Go.callS (q := 29) hx hZ (argsL := [(.long pu)]) (rest := []) hown (hw _ (List.mem_of_getElem? (i := 0) rfl)) (hw _ (List.mem_of_getElem? (i := 1) rfl)) (hw _ (List.mem_of_getElem? (i := 2) rfl)) (hw _ (List.mem_of_getElem? (i := 3) rfl)) (by decide) (rmLo l Z a0 hw pu h0 n0 Z0) (by rw [hml]; rfl) pd_4 rfl rfl (hb hby at_26) rfl (by decide) (Nat.le_of_ble_eq_true rfl) (ce' := 0) (sl' := 0) rfl rfl (by decide) (by decide) (fun v63 h64 hQ65 => ?_)
  obtain ⟨rfl, rfl⟩ := hQ65
  show Go _ _ _ _ _ _ _ _ _ _ _ _ _ _ _ 0 0 29 #[.val (.long px), .second, .val (.long py), .second, .val (.long pu), .second, .val (.long pv), .second, .val (.int (lo px)), .val (.int (hi px)), .val (.int (lo py)), .val (.int (hi py)), .unset, .unset, .unset, .unset, .unset, .unset, .unset, .unset, .unset, .unset, .unset, .unset] [(.int (lo pu))]
  refine Go.istore (q := 31) (l' := #[.val (.long px), .second, .val (.long py), .second, .val (.long pu), .second, .val (.long pv), .second, .val (.int (lo px)), .val (.int (hi px)), .val (.int (lo py)), .val (.int (hi py)), .val (.int (lo pu)), .unset, .unset, .unset, .unset, .unset, .unset, .unset, .unset, .unset, .unset, .unset]) hx (hb hby at_29) rfl rfl ?_
  refine Go.lload (q := 33) hx (hb hby at_31) rfl rfl ?_
  refine Go.callS (q := 36) hx hZ (argsL := [(.long pu)]) (rest := []) hown (hw _ (List.mem_of_getElem? (i := 8) rfl)) (hw _ (List.mem_of_getElem? (i := 9) rfl)) (hw _ (List.mem_of_getElem? (i := 2) rfl)) (hw _ (List.mem_of_getElem? (i := 10) rfl)) (by decide) (rmHi l Z a0 hw pu h0 n0 Z0) (by rw [hml]; rfl) pd_4 rfl rfl (hb hby at_33) rfl (by decide) (Nat.le_of_ble_eq_true rfl) (ce' := 0) (sl' := 0) rfl rfl (by decide) (by decide) (fun v66 h67 hQ68 => ?_)
  obtain ⟨rfl, rfl⟩ := hQ68
  show Go _ _ _ _ _ _ _ _ _ _ _ _ _ _ _ 0 0 36 #[.val (.long px), .second, .val (.long py), .second, .val (.long pu), .second, .val (.long pv), .second, .val (.int (lo px)), .val (.int (hi px)), .val (.int (lo py)), .val (.int (hi py)), .val (.int (lo pu)), .unset, .unset, .unset, .unset, .unset, .unset, .unset, .unset, .unset, .unset, .unset] [(.int (hi pu))]
  refine Go.istore (q := 38) (l' := #[.val (.long px), .second, .val (.long py), .second, .val (.long pu), .second, .val (.long pv), .second, .val (.int (lo px)), .val (.int (hi px)), .val (.int (lo py)), .val (.int (hi py)), .val (.int (lo pu)), .val (.int (hi pu)), .unset, .unset, .unset, .unset, .unset, .unset, .unset, .unset, .unset, .unset]) hx (hb hby at_36) rfl rfl ?_
  refine Go.lload (q := 40) hx (hb hby at_38) rfl rfl ?_
  refine Go.callS (q := 43) hx hZ (argsL := [(.long pv)]) (rest := []) hown (hw _ (List.mem_of_getElem? (i := 0) rfl)) (hw _ (List.mem_of_getElem? (i := 1) rfl)) (hw _ (List.mem_of_getElem? (i := 2) rfl)) (hw _ (List.mem_of_getElem? (i := 3) rfl)) (by decide) (rmLo l Z a0 hw pv h0 n0 Z0) (by rw [hml]; rfl) pd_4 rfl rfl (hb hby at_40) rfl (by decide) (Nat.le_of_ble_eq_true rfl) (ce' := 0) (sl' := 0) rfl rfl (by decide) (by decide) (fun v69 h70 hQ71 => ?_)
  obtain ⟨rfl, rfl⟩ := hQ71
  show Go _ _ _ _ _ _ _ _ _ _ _ _ _ _ _ 0 0 43 #[.val (.long px), .second, .val (.long py), .second, .val (.long pu), .second, .val (.long pv), .second, .val (.int (lo px)), .val (.int (hi px)), .val (.int (lo py)), .val (.int (hi py)), .val (.int (lo pu)), .val (.int (hi pu)), .unset, .unset, .unset, .unset, .unset, .unset, .unset, .unset, .unset, .unset] [(.int (lo pv))]
  refine Go.istore (q := 45) (l' := #[.val (.long px), .second, .val (.long py), .second, .val (.long pu), .second, .val (.long pv), .second, .val (.int (lo px)), .val (.int (hi px)), .val (.int (lo py)), .val (.int (hi py)), .val (.int (lo pu)), .val (.int (hi pu)), .val (.int (lo pv)), .unset, .unset, .unset, .unset, .unset, .unset, .unset, .unset, .unset]) hx (hb hby at_43) rfl rfl ?_
  refine Go.lload (q := 47) hx (hb hby at_45) rfl rfl ?_
  refine Go.callS (q := 50) hx hZ (argsL := [(.long pv)]) (rest := []) hown (hw _ (List.mem_of_getElem? (i := 8) rfl)) (hw _ (List.mem_of_getElem? (i := 9) rfl)) (hw _ (List.mem_of_getElem? (i := 2) rfl)) (hw _ (List.mem_of_getElem? (i := 10) rfl)) (by decide) (rmHi l Z a0 hw pv h0 n0 Z0) (by rw [hml]; rfl) pd_4 rfl rfl (hb hby at_47) rfl (by decide) (Nat.le_of_ble_eq_true rfl) (ce' := 0) (sl' := 0) rfl rfl (by decide) (by decide) (fun v72 h73 hQ74 => ?_)
  obtain ⟨rfl, rfl⟩ := hQ74
  show Go _ _ _ _ _ _ _ _ _ _ _ _ _ _ _ 0 0 50 #[.val (.long px), .second, .val (.long py), .second, .val (.long pu), .second, .val (.long pv), .second, .val (.int (lo px)), .val (.int (hi px)), .val (.int (lo py)), .val (.int (hi py)), .val (.int (lo pu)), .val (.int (hi pu)), .val (.int (lo pv)), .unset, .unset, .unset, .unset, .unset, .unset, .unset, .unset, .unset] [(.int (hi pv))]
  refine Go.istore (q := 52) (l' := #[.val (.long px), .second, .val (.long py), .second, .val (.long pu), .second, .val (.long pv), .second, .val (.int (lo px)), .val (.int (hi px)), .val (.int (lo py)), .val (.int (hi py)), .val (.int (lo pu)), .val (.int (hi pu)), .val (.int (lo pv)), .val (.int (hi pv)), .unset, .unset, .unset, .unset, .unset, .unset, .unset, .unset]) hx (hb hby at_50) rfl rfl ?_
  refine Go.newO (q := 55) hx hZ hown (hw _ (List.mem_of_getElem? (i := 18) rfl)) (hw _ (List.mem_of_getElem? (i := 19) rfl)) (hw _ (List.mem_of_getElem? (i := 20) rfl)) (hb hby at_52) rfl (ce' := 1) (sl' := 4) rfl rfl (by decide) (by decide) (fun h75 a76 g77 E78 A79 D80 => ?_)
  have gz81 : n0 ≤ a76 := by rw [g77]; exact Z0
  refine Go.dup (q := 56) hx (hb hby at_55) rfl rfl ?_
  refine Go.iload (q := 58) hx (hb hby at_56) rfl rfl ?_
  refine Go.iload (q := 60) hx (hb hby at_58) rfl rfl ?_
  refine Go.iload (q := 62) hx (hb hby at_60) rfl rfl ?_
  refine Go.iload (q := 64) hx (hb hby at_62) rfl rfl ?_
  refine Go.callI (q := 67) hx hZ (a := a76) (argsL := [(.int (lo px)), (.int (lo py)), (.int (hi px)), (.int (hi py))]) (rest := [(.ref a76)]) hown rfl (hw _ (List.mem_of_getElem? (i := 21) rfl)) (hw _ (List.mem_of_getElem? (i := 22) rfl)) (hw _ (List.mem_of_getElem? (i := 20) rfl)) (hw _ (List.mem_of_getElem? (i := 23) rfl)) (by decide) (rmInit l Z a0 hw a76 (lo px) (lo py) (hi px) (hi py) h75 n0 (Nat.le_trans Z0 E78.1) (okr _ _) gz81 A79 (D80 (Or.inr (hw _ (List.mem_of_getElem? (i := 29) rfl))) (ty := .int) (by decide)) (D80 (Or.inr (hw _ (List.mem_of_getElem? (i := 31) rfl))) (ty := .int) (by decide)) (D80 (Or.inr (hw _ (List.mem_of_getElem? (i := 33) rfl))) (ty := .int) (by decide)) (D80 (Or.inr (hw _ (List.mem_of_getElem? (i := 35) rfl))) (ty := .int) (by decide))) (by rw [hml]; rfl) pd_3 rfl rfl (hb hby at_64) rfl (by decide) (Nat.le_of_ble_eq_true rfl) (ce' := 1) (sl' := 4) rfl rfl (by decide) (by decide) (fun v82 h83 hQ84 => ?_)
  obtain ⟨rfl, K85, F86, F87, F88, F89⟩ := hQ84
  show Go _ _ _ _ _ _ _ _ _ _ _ _ _ _ _ 1 4 67 #[.val (.long px), .second, .val (.long py), .second, .val (.long pu), .second, .val (.long pv), .second, .val (.int (lo px)), .val (.int (hi px)), .val (.int (lo py)), .val (.int (hi py)), .val (.int (lo pu)), .val (.int (hi pu)), .val (.int (lo pv)), .val (.int (hi pv)), .unset, .unset, .unset, .unset, .unset, .unset, .unset, .unset] [(.ref a76)]
  refine Go.astore (q := 69) (l' := #[.val (.long px), .second, .val (.long py), .second, .val (.long pu), .second, .val (.long pv), .second, .val (.int (lo px)), .val (.int (hi px)), .val (.int (lo py)), .val (.int (hi py)), .val (.int (lo pu)), .val (.int (hi pu)), .val (.int (lo pv)), .val (.int (hi pv)), .val (.ref a76), .unset, .unset, .unset, .unset, .unset, .unset, .unset]) hx (hb hby at_67) (by rfl) rfl rfl ?_
  refine Go.newO (q := 72) hx hZ hown (hw _ (List.mem_of_getElem? (i := 18) rfl)) (hw _ (List.mem_of_getElem? (i := 19) rfl)) (hw _ (List.mem_of_getElem? (i := 20) rfl)) (hb hby at_69) rfl (ce' := 2) (sl' := 8) rfl rfl (by decide) (by decide) (fun h90 a91 g92 E93 A94 D95 => ?_)
  have ne96 : a76 ≠ a91 := by rw [g92]; exact Nat.ne_of_lt ((A79.keep K85)).lt
  have gz97 : n0 ≤ a91 := by rw [g92]; exact (Nat.le_trans (Nat.le_trans Z0 E78.1) K85.1)
  refine Go.dup (q := 73) hx (hb hby at_72) rfl rfl ?_
  refine Go.iload (q := 75) hx (hb hby at_73) rfl rfl ?_
  refine Go.iload (q := 77) hx (hb hby at_75) rfl rfl ?_
  refine Go.iload (q := 79) hx (hb hby at_77) rfl rfl ?_
  refine Go.iload (q := 81) hx (hb hby at_79) rfl rfl ?_
  refine Go.callI (q := 84) hx hZ (a := a91) (argsL := [(.int (lo pu)), (.int (lo pv)), (.int (hi pu)), (.int (hi pv))]) (rest := [(.ref a91)]) hown rfl (hw _ (List.mem_of_getElem? (i := 21) rfl)) (hw _ (List.mem_of_getElem? (i := 22) rfl)) (hw _ (List.mem_of_getElem? (i := 20) rfl)) (hw _ (List.mem_of_getElem? (i := 23) rfl)) (by decide) (rmInit l Z a0 hw a91 (lo pu) (lo pv) (hi pu) (hi pv) h90 n0 (Nat.le_trans (Nat.le_trans (Nat.le_trans Z0 E78.1) K85.1) E93.1) (okr _ _) gz97 A94 (D95 (Or.inr (hw _ (List.mem_of_getElem? (i := 29) rfl))) (ty := .int) (by decide)) (D95 (Or.inr (hw _ (List.mem_of_getElem? (i := 31) rfl))) (ty := .int) (by decide)) (D95 (Or.inr (hw _ (List.mem_of_getElem? (i := 33) rfl))) (ty := .int) (by decide)) (D95 (Or.inr (hw _ (List.mem_of_getElem? (i := 35) rfl))) (ty := .int) (by decide))) (by rw [hml]; rfl) pd_3 rfl rfl (hb hby at_81) rfl (by decide) (Nat.le_of_ble_eq_true rfl) (ce' := 2) (sl' := 8) rfl rfl (by decide) (by decide) (fun v98 h99 hQ100 => ?_)
  obtain ⟨rfl, K101, F102, F103, F104, F105⟩ := hQ100
  show Go _ _ _ _ _ _ _ _ _ _ _ _ _ _ _ 2 8 84 #[.val (.long px), .second, .val (.long py), .second, .val (.long pu), .second, .val (.long pv), .second, .val (.int (lo px)), .val (.int (hi px)), .val (.int (lo py)), .val (.int (hi py)), .val (.int (lo pu)), .val (.int (hi pu)), .val (.int (lo pv)), .val (.int (hi pv)), .val (.ref a76), .unset, .unset, .unset, .unset, .unset, .unset, .unset] [(.ref a91)]
  refine Go.astore (q := 86) (l' := #[.val (.long px), .second, .val (.long py), .second, .val (.long pu), .second, .val (.long pv), .second, .val (.int (lo px)), .val (.int (hi px)), .val (.int (lo py)), .val (.int (hi py)), .val (.int (lo pu)), .val (.int (hi pu)), .val (.int (lo pv)), .val (.int (hi pv)), .val (.ref a76), .val (.ref a91), .unset, .unset, .unset, .unset, .unset, .unset]) hx (hb hby at_84) (by rfl) rfl rfl ?_
  refine Go.aload (q := 88) hx (hb hby at_86) rfl (by rfl) rfl ?_
  refine Go.aload (q := 90) hx (hb hby at_88) rfl (by rfl) rfl ?_
  refine Go.callV (q := 93) hx hZ (a := a76) (argsL := [(.ref a91)]) (rest := []) hown (hw _ (List.mem_of_getElem? (i := 36) rfl)) (hw _ (List.mem_of_getElem? (i := 37) rfl)) (notFace_of_selects (args := #[]) (mvT hZ (hw _ (List.mem_of_getElem? (i := 39) rfl)))) (hw _ (List.mem_of_getElem? (i := 39) rfl)) (hw _ (List.mem_of_getElem? (i := 38) rfl)) (hw _ (List.mem_of_getElem? (i := 20) rfl)) (hw _ (List.mem_of_getElem? (i := 40) rfl)) (by decide) ((Exa.ext E93 (A79.keep K85)).keep K101) (rmCont l Z a0 hw a76 a91 (lo px) (lo py) (hi px) (hi py) (lo pu) (lo pv) (hi pu) (hi pv) h99 n0 (Nat.le_trans (Nat.le_trans (Nat.le_trans (Nat.le_trans Z0 E78.1) K85.1) E93.1) K101.1) ((Fld.ext E93 F86).keep K101 (ninS ne96 nin0)) F102 ((Fld.ext E93 F87).keep K101 (ninS ne96 nin0)) F103 ((Fld.ext E93 F88).keep K101 (ninS ne96 nin0)) F104 ((Fld.ext E93 F89).keep K101 (ninS ne96 nin0)) F105) (by rw [hml]; rfl) pd_5 rfl rfl (hb hby at_90) rfl (by decide) (Nat.le_of_ble_eq_true rfl) (ce' := 2) (sl' := 8) rfl rfl (by decide) (by decide) (fun v106 h107 hQ108 => ?_)
  obtain ⟨rfl, rfl⟩ := hQ108
  show Go _ _ _ _ _ _ _ _ _ _ _ _ _ _ _ 2 8 93 #[.val (.long px), .second, .val (.long py), .second, .val (.long pu), .second, .val (.long pv), .second, .val (.int (lo px)), .val (.int (hi px)), .val (.int (lo py)), .val (.int (hi py)), .val (.int (lo pu)), .val (.int (hi pu)), .val (.int (lo pv)), .val (.int (hi pv)), .val (.ref a76), .val (.ref a91), .unset, .unset, .unset, .unset, .unset, .unset] [(.int (cont (lo px) (lo py) (hi px) (hi py) (lo pu) (lo pv) (hi pu) (hi pv)))]
  refine Go.istore (q := 95) (l' := #[.val (.long px), .second, .val (.long py), .second, .val (.long pu), .second, .val (.long pv), .second, .val (.int (lo px)), .val (.int (hi px)), .val (.int (lo py)), .val (.int (hi py)), .val (.int (lo pu)), .val (.int (hi pu)), .val (.int (lo pv)), .val (.int (hi pv)), .val (.ref a76), .val (.ref a91), .val (.int (cont (lo px) (lo py) (hi px) (hi py) (lo pu) (lo pv) (hi pu) (hi pv))), .unset, .unset, .unset, .unset, .unset]) hx (hb hby at_93) rfl rfl ?_
  refine Go.iload (q := 97) hx (hb hby at_95) rfl rfl ?_
  refine Go.iload (q := 99) hx (hb hby at_97) rfl rfl ?_
  refine Go.callS (q := 102) hx hZ (argsL := [(.int (hi px)), (.int (hi pu))]) (rest := []) hown (hw _ (List.mem_of_getElem? (i := 11) rfl)) (hw _ (List.mem_of_getElem? (i := 12) rfl)) (hw _ (List.mem_of_getElem? (i := 6) rfl)) (hw _ (List.mem_of_getElem? (i := 13) rfl)) (by decide) (rmMax l Z a0 hw (hi px) (hi pu) h99 n0 (Nat.le_trans (Nat.le_trans (Nat.le_trans (Nat.le_trans Z0 E78.1) K85.1) E93.1) K101.1)) (by rw [hml]; rfl) pd_0 rfl rfl (hb hby at_99) rfl (by decide) (Nat.le_of_ble_eq_true rfl) (ce' := 2) (sl' := 8) rfl rfl (by decide) (by decide) (fun v109 h110 hQ111 => ?_)
  obtain ⟨rfl, rfl⟩ := hQ111
  show Go _ _ _ _ _ _ _ _ _ _ _ _ _ _ _ 2 8 102 #[.val (.long px), .second, .val (.long py), .second, .val (.long pu), .second, .val (.long pv), .second, .val (.int (lo px)), .val (.int (hi px)), .val (.int (lo py)), .val (.int (hi py)), .val (.int (lo pu)), .val (.int (hi pu)), .val (.int (lo pv)), .val (.int (hi pv)), .val (.ref a76), .val (.ref a91), .val (.int (cont (lo px) (lo py) (hi px) (hi py) (lo pu) (lo pv) (hi pu) (hi pv))), .unset, .unset, .unset, .unset, .unset] [(.int (imax (hi px) (hi pu)))]
  refine Go.i2l (q := 103) hx (hb hby at_102) rfl ?_
  refine Go.iload (q := 105) hx (hb hby at_103) rfl rfl ?_
  refine Go.iload (q := 107) hx (hb hby at_105) rfl rfl ?_
  refine Go.callS (q := 110) hx hZ (argsL := [(.int (lo px)), (.int (lo pu))]) (rest := [(.long ((imax (hi px) (hi pu)).toInt64))]) hown (hw _ (List.mem_of_getElem? (i := 4) rfl)) (hw _ (List.mem_of_getElem? (i := 5) rfl)) (hw _ (List.mem_of_getElem? (i := 6) rfl)) (hw _ (List.mem_of_getElem? (i := 7) rfl)) (by decide) (rmMin l Z a0 hw (lo px) (lo pu) h99 n0 (Nat.le_trans (Nat.le_trans (Nat.le_trans (Nat.le_trans Z0 E78.1) K85.1) E93.1) K101.1)) (by rw [hml]; rfl) pd_0 rfl rfl (hb hby at_107) rfl (by decide) (Nat.le_of_ble_eq_true rfl) (ce' := 2) (sl' := 8) rfl rfl (by decide) (by decide) (fun v112 h113 hQ114 => ?_)
  obtain ⟨rfl, rfl⟩ := hQ114
  show Go _ _ _ _ _ _ _ _ _ _ _ _ _ _ _ 2 8 110 #[.val (.long px), .second, .val (.long py), .second, .val (.long pu), .second, .val (.long pv), .second, .val (.int (lo px)), .val (.int (hi px)), .val (.int (lo py)), .val (.int (hi py)), .val (.int (lo pu)), .val (.int (hi pu)), .val (.int (lo pv)), .val (.int (hi pv)), .val (.ref a76), .val (.ref a91), .val (.int (cont (lo px) (lo py) (hi px) (hi py) (lo pu) (lo pv) (hi pu) (hi pv))), .unset, .unset, .unset, .unset, .unset] [(.int (imin (lo px) (lo pu))), (.long ((imax (hi px) (hi pu)).toInt64))]
  refine Go.i2l (q := 111) hx (hb hby at_110) rfl ?_
  refine Go.lsub (q := 112) hx (hb hby at_111) rfl ?_
  refine Go.lstore (q := 114) (l' := #[.val (.long px), .second, .val (.long py), .second, .val (.long pu), .second, .val (.long pv), .second, .val (.int (lo px)), .val (.int (hi px)), .val (.int (lo py)), .val (.int (hi py)), .val (.int (lo pu)), .val (.int (hi pu)), .val (.int (lo pv)), .val (.int (hi pv)), .val (.ref a76), .val (.ref a91), .val (.int (cont (lo px) (lo py) (hi px) (hi py) (lo pu) (lo pv) (hi pu) (hi pv))), .val (.long (((imax (hi px) (hi pu)).toInt64) - ((imin (lo px) (lo pu)).toInt64))), .second, .unset, .unset, .unset]) hx (hb hby at_112) rfl rfl ?_
  refine Go.iload (q := 116) hx (hb hby at_114) rfl rfl ?_
  refine Go.iload (q := 118) hx (hb hby at_116) rfl rfl ?_
  refine Go.callS (q := 121) hx hZ (argsL := [(.int (hi py)), (.int (hi pv))]) (rest := []) hown (hw _ (List.mem_of_getElem? (i := 11) rfl)) (hw _ (List.mem_of_getElem? (i := 12) rfl)) (hw _ (List.mem_of_getElem? (i := 6) rfl)) (hw _ (List.mem_of_getElem? (i := 13) rfl)) (by decide) (rmMax l Z a0 hw (hi py) (hi pv) h99 n0 (Nat.le_trans (Nat.le_trans (Nat.le_trans (Nat.le_trans Z0 E78.1) K85.1) E93.1) K101.1)) (by rw [hml]; rfl) pd_0 rfl rfl (hb hby at_118) rfl (by decide) (Nat.le_of_ble_eq_true rfl) (ce' := 2) (sl' := 8) rfl rfl (by decide) (by decide) (fun v115 h116 hQ117 => ?_)
  obtain ⟨rfl, rfl⟩ := hQ117
  show Go _ _ _ _ _ _ _ _ _ _ _ _ _ _ _ 2 8 121 #[.val (.long px), .second, .val (.long py), .second, .val (.long pu), .second, .val (.long pv), .second, .val (.int (lo px)), .val (.int (hi px)), .val (.int (lo py)), .val (.int (hi py)), .val (.int (lo pu)), .val (.int (hi pu)), .val (.int (lo pv)), .val (.int (hi pv)), .val (.ref a76), .val (.ref a91), .val (.int (cont (lo px) (lo py) (hi px) (hi py) (lo pu) (lo pv) (hi pu) (hi pv))), .val (.long (((imax (hi px) (hi pu)).toInt64) - ((imin (lo px) (lo pu)).toInt64))), .second, .unset, .unset, .unset] [(.int (imax (hi py) (hi pv)))]
  refine Go.i2l (q := 122) hx (hb hby at_121) rfl ?_
  refine Go.iload (q := 124) hx (hb hby at_122) rfl rfl ?_
  refine Go.iload (q := 126) hx (hb hby at_124) rfl rfl ?_
  refine Go.callS (q := 129) hx hZ (argsL := [(.int (lo py)), (.int (lo pv))]) (rest := [(.long ((imax (hi py) (hi pv)).toInt64))]) hown (hw _ (List.mem_of_getElem? (i := 4) rfl)) (hw _ (List.mem_of_getElem? (i := 5) rfl)) (hw _ (List.mem_of_getElem? (i := 6) rfl)) (hw _ (List.mem_of_getElem? (i := 7) rfl)) (by decide) (rmMin l Z a0 hw (lo py) (lo pv) h99 n0 (Nat.le_trans (Nat.le_trans (Nat.le_trans (Nat.le_trans Z0 E78.1) K85.1) E93.1) K101.1)) (by rw [hml]; rfl) pd_0 rfl rfl (hb hby at_126) rfl (by decide) (Nat.le_of_ble_eq_true rfl) (ce' := 2) (sl' := 8) rfl rfl (by decide) (by decide) (fun v118 h119 hQ120 => ?_)
  obtain ⟨rfl, rfl⟩ := hQ120
  show Go _ _ _ _ _ _ _ _ _ _ _ _ _ _ _ 2 8 129 #[.val (.long px), .second, .val (.long py), .second, .val (.long pu), .second, .val (.long pv), .second, .val (.int (lo px)), .val (.int (hi px)), .val (.int (lo py)), .val (.int (hi py)), .val (.int (lo pu)), .val (.int (hi pu)), .val (.int (lo pv)), .val (.int (hi pv)), .val (.ref a76), .val (.ref a91), .val (.int (cont (lo px) (lo py) (hi px) (hi py) (lo pu) (lo pv) (hi pu) (hi pv))), .val (.long (((imax (hi px) (hi pu)).toInt64) - ((imin (lo px) (lo pu)).toInt64))), .second, .unset, .unset, .unset] [(.int (imin (lo py) (lo pv))), (.long ((imax (hi py) (hi pv)).toInt64))]
  refine Go.i2l (q := 130) hx (hb hby at_129) rfl ?_
  refine Go.lsub (q := 131) hx (hb hby at_130) rfl ?_
  refine Go.lstore (q := 133) (l' := #[.val (.long px), .second, .val (.long py), .second, .val (.long pu), .second, .val (.long pv), .second, .val (.int (lo px)), .val (.int (hi px)), .val (.int (lo py)), .val (.int (hi py)), .val (.int (lo pu)), .val (.int (hi pu)), .val (.int (lo pv)), .val (.int (hi pv)), .val (.ref a76), .val (.ref a91), .val (.int (cont (lo px) (lo py) (hi px) (hi py) (lo pu) (lo pv) (hi pu) (hi pv))), .val (.long (((imax (hi px) (hi pu)).toInt64) - ((imin (lo px) (lo pu)).toInt64))), .second, .val (.long (((imax (hi py) (hi pv)).toInt64) - ((imin (lo py) (lo pv)).toInt64))), .second, .unset]) hx (hb hby at_131) rfl rfl ?_
  refine Go.lload (q := 135) hx (hb hby at_133) rfl rfl ?_
  refine Go.ldc2Long (q := 138) hx hZ hown (hw _ (List.mem_of_getElem? (i := 14) rfl)) (hb hby at_135) rfl ?_
  refine Go.lcmp (q := 139) hx (hb hby at_138) rfl ?_
  refine Go.if_gt (q := 142) (t := 151) hx (hb hby at_139) (by decide) rfl rfl (fun hc139 => ?_) (fun hc139 => ?_)
  · skip
    have hcA := hc139
    rw [cmpL_gt, Int64.lt_iff_toInt_lt, sub64, big64] at hcA
    refine Go.iload (q := 153) hx (hb hby at_151) rfl rfl ?_
    refine Go.if_ne (q := 156) (t := 160) hx (hb hby at_153) (by decide) rfl rfl (fun hc153 => absurd (cont_zero (okr _ _) (Or.inl hcA)) hc153) (fun hc153 => ?_)
    refine Go.iconst (q := 157) (z := (1 : Int32)) hx (hb hby at_156) rfl rfl ?_
    refine Go.goto (q := 161) hx (hb hby at_157) (by decide) rfl ?_
    refine Go.retN hx (t := .boolean) hret (by simp) hlk (hb hby at_161) (by decide) (by decide) ?_
    rfl
  · skip
    refine Go.lload (q := 144) hx (hb hby at_142) rfl rfl ?_
    refine Go.ldc2Long (q := 147) hx hZ hown (hw _ (List.mem_of_getElem? (i := 14) rfl)) (hb hby at_144) rfl ?_
    refine Go.lcmp (q := 148) hx (hb hby at_147) rfl ?_
    refine Go.if_le (q := 151) (t := 162) hx (hb hby at_148) (by decide) rfl rfl (fun hc148 => ?_) (fun hc148 => ?_)
    · skip
      have hcA := hc139
      rw [cmpL_gt, Int64.lt_iff_toInt_lt, sub64, big64] at hcA
      have hcB := hc148
      rw [cmpL_gt, Int64.lt_iff_toInt_lt, sub64, big64] at hcB
      refine Go.aload (q := 164) hx (hb hby at_162) rfl (by rfl) rfl ?_
      refine Go.aload (q := 166) hx (hb hby at_164) rfl (by rfl) rfl ?_
      refine Go.callV (q := 169) hx hZ (a := a76) (argsL := [(.ref a91)]) (rest := []) hown (hw _ (List.mem_of_getElem? (i := 41) rfl)) (hw _ (List.mem_of_getElem? (i := 42) rfl)) (notFace_of_selects (args := #[]) (mvT hZ (hw _ (List.mem_of_getElem? (i := 44) rfl)))) (hw _ (List.mem_of_getElem? (i := 44) rfl)) (hw _ (List.mem_of_getElem? (i := 43) rfl)) (hw _ (List.mem_of_getElem? (i := 20) rfl)) (hw _ (List.mem_of_getElem? (i := 45) rfl)) (by decide) ((Exa.ext E93 (A79.keep K85)).keep K101) (rmUn l Z a0 hw a76 a91 (lo px) (lo py) (hi px) (hi py) (lo pu) (lo pv) (hi pu) (hi pv) h99 n0 (Nat.le_trans (Nat.le_trans (Nat.le_trans (Nat.le_trans Z0 E78.1) K85.1) E93.1) K101.1) ((Fld.ext E93 F86).keep K101 (ninS ne96 nin0)) F102 ((Fld.ext E93 F87).keep K101 (ninS ne96 nin0)) F103 ((Fld.ext E93 F88).keep K101 (ninS ne96 nin0)) F104 ((Fld.ext E93 F89).keep K101 (ninS ne96 nin0)) F105 (okr_union (okr _ _) hcA hcB)) (by rw [hml]; rfl) pd_6 rfl rfl (hb hby at_166) rfl (by decide) (Nat.le_of_ble_eq_true rfl) (ce' := 3) (sl' := 12) rfl rfl (by decide) (by decide) (fun v121 h122 hQ123 => ?_)
      have lt132 := (((Exa.ext E93 (A79.keep K85)).keep K101)).lt
      have lt133 := ((A94.keep K101)).lt
      obtain ⟨c125, rfl, gc131, K124, E130, F126, F127, F128, F129⟩ := hQ123
      have ne134 : a76 ≠ c125 := Nat.ne_of_lt (Nat.lt_of_lt_of_le lt132 gc131)
      have ne135 : a91 ≠ c125 := Nat.ne_of_lt (Nat.lt_of_lt_of_le lt133 gc131)
      show Go _ _ _ _ _ _ _ _ _ _ _ _ _ _ _ 3 12 169 #[.val (.long px), .second, .val (.long py), .second, .val (.long pu), .second, .val (.long pv), .second, .val (.int (lo px)), .val (.int (hi px)), .val (.int (lo py)), .val (.int (hi py)), .val (.int (lo pu)), .val (.int (hi pu)), .val (.int (lo pv)), .val (.int (hi pv)), .val (.ref a76), .val (.ref a91), .val (.int (cont (lo px) (lo py) (hi px) (hi py) (lo pu) (lo pv) (hi pu) (hi pv))), .val (.long (((imax (hi px) (hi pu)).toInt64) - ((imin (lo px) (lo pu)).toInt64))), .second, .val (.long (((imax (hi py) (hi pv)).toInt64) - ((imin (lo py) (lo pv)).toInt64))), .second, .unset] [(.ref c125)]
      refine Go.astore (q := 171) (l' := #[.val (.long px), .second, .val (.long py), .second, .val (.long pu), .second, .val (.long pv), .second, .val (.int (lo px)), .val (.int (hi px)), .val (.int (lo py)), .val (.int (hi py)), .val (.int (lo pu)), .val (.int (hi pu)), .val (.int (lo pv)), .val (.int (hi pv)), .val (.ref a76), .val (.ref a91), .val (.int (cont (lo px) (lo py) (hi px) (hi py) (lo pu) (lo pv) (hi pu) (hi pv))), .val (.long (((imax (hi px) (hi pu)).toInt64) - ((imin (lo px) (lo pu)).toInt64))), .second, .val (.long (((imax (hi py) (hi pv)).toInt64) - ((imin (lo py) (lo pv)).toInt64))), .second, .val (.ref c125)]) hx (hb hby at_169) (by rfl) rfl rfl ?_
      refine Go.iload (q := 173) hx (hb hby at_171) rfl rfl ?_
      refine Go.aload (q := 175) hx (hb hby at_173) rfl (by rfl) rfl ?_
      refine Go.aload (q := 177) hx (hb hby at_175) rfl (by rfl) rfl ?_
      refine Go.callV (q := 180) hx hZ (a := c125) (argsL := [(.ref a76)]) (rest := [(.int (cont (lo px) (lo py) (hi px) (hi py) (lo pu) (lo pv) (hi pu) (hi pv)))]) hown (hw _ (List.mem_of_getElem? (i := 50) rfl)) (hw _ (List.mem_of_getElem? (i := 51) rfl)) (notFace_of_selects (args := #[]) (mvT hZ (hw _ (List.mem_of_getElem? (i := 53) rfl)))) (hw _ (List.mem_of_getElem? (i := 53) rfl)) (hw _ (List.mem_of_getElem? (i := 52) rfl)) (hw _ (List.mem_of_getElem? (i := 20) rfl)) (hw _ (List.mem_of_getElem? (i := 54) rfl)) (by decide) E130 (rmEq l Z a0 hw c125 a76 (imin (lo px) (lo pu)) (imin (lo py) (lo pv)) (imax (hi px) (hi pu)) (imax (hi py) (hi pv)) (lo px) (lo py) (hi px) (hi py) h122 n0 (Nat.le_trans (Nat.le_trans (Nat.le_trans (Nat.le_trans (Nat.le_trans Z0 E78.1) K85.1) E93.1) K101.1) K124.1) (((Exa.ext E93 (A79.keep K85)).keep K101).keep K124) F126 (((Fld.ext E93 F86).keep K101 (ninS ne96 nin0)).keep K124 nin0) F127 (((Fld.ext E93 F87).keep K101 (ninS ne96 nin0)).keep K124 nin0) F128 (((Fld.ext E93 F88).keep K101 (ninS ne96 nin0)).keep K124 nin0) F129 (((Fld.ext E93 F89).keep K101 (ninS ne96 nin0)).keep K124 nin0)) (by rw [hml]; rfl) pd_7 rfl rfl (hb hby at_177) rfl (by decide) (Nat.le_of_ble_eq_true rfl) (ce' := 3) (sl' := 12) rfl rfl (by decide) (by decide) (fun v136 h137 hQ138 => ?_)
      obtain ⟨rfl, rfl⟩ := hQ138
      show Go _ _ _ _ _ _ _ _ _ _ _ _ _ _ _ 3 12 180 #[.val (.long px), .second, .val (.long py), .second, .val (.long pu), .second, .val (.long pv), .second, .val (.int (lo px)), .val (.int (hi px)), .val (.int (lo py)), .val (.int (hi py)), .val (.int (lo pu)), .val (.int (hi pu)), .val (.int (lo pv)), .val (.int (hi pv)), .val (.ref a76), .val (.ref a91), .val (.int (cont (lo px) (lo py) (hi px) (hi py) (lo pu) (lo pv) (hi pu) (hi pv))), .val (.long (((imax (hi px) (hi pu)).toInt64) - ((imin (lo px) (lo pu)).toInt64))), .second, .val (.long (((imax (hi py) (hi pv)).toInt64) - ((imin (lo py) (lo pv)).toInt64))), .second, .val (.ref c125)] [(.int (eqv (imin (lo px) (lo pu)) (imin (lo py) (lo pv)) (imax (hi px) (hi pu)) (imax (hi py) (hi pv)) (lo px) (lo py) (hi px) (hi py))), (.int (cont (lo px) (lo py) (hi px) (hi py) (lo pu) (lo pv) (hi pu) (hi pv)))]
      refine Go.icmp_ne (q := 183) (t := 187) hx (hb hby at_180) (by decide) rfl rfl (fun hc180 => absurd (cont_eq _ _ _ _ _ _ _ _) hc180) (fun hc180 => ?_)
      refine Go.iconst (q := 184) (z := (1 : Int32)) hx (hb hby at_183) rfl rfl ?_
      refine Go.goto (q := 188) hx (hb hby at_184) (by decide) rfl ?_
      refine Go.retN hx (t := .boolean) hret (by simp) hlk (hb hby at_188) (by decide) (by decide) ?_
      rfl
    · skip
      have hcB := hc148
      rw [cmpL_gt, Int64.lt_iff_toInt_lt, sub64, big64] at hcB
      refine Go.iload (q := 153) hx (hb hby at_151) rfl rfl ?_
      refine Go.if_ne (q := 156) (t := 160) hx (hb hby at_153) (by decide) rfl rfl (fun hc153 => absurd (cont_zero (okr _ _) (Or.inr hcB)) hc153) (fun hc153 => ?_)
      refine Go.iconst (q := 157) (z := (1 : Int32)) hx (hb hby at_156) rfl rfl ?_
      refine Go.goto (q := 161) hx (hb hby at_157) (by decide) rfl ?_
      refine Go.retN hx (t := .boolean) hret (by simp) hlk (hb hby at_161) (by decide) (by decide) ?_
      rfl
set_option maxRecDepth 65536 in
set_option maxHeartbeats 40000000 in
theorem comes_1 {Post : Tables → Env → Array Value → State → Outcome → State → Prop} (hpost : ∀ tb e args s v u, (limb_1_1.after args s (.returned v) u = true ∧ limb_1_2.after args s (.returned v) u = true ∧ True) → FrameEnd s (.returned v) u (Jvm.fieldLocs frame_1_writes args s ++ Jvm.arrayLocs frame_1_arrays args s ++ Jvm.staticLocs frame_1_statics s) 16 128 → Post tb e args s (.returned v) u) :
    ArmFor flags0 classFile x code maxLocals ret World_1 tables_1 room_1 Calls_1 rest_1 Pre_1 Post := by
  intro l hfl _ _ p e ha hc hk s m args below hf hA hF happ hP
  obtain ⟨hcalls, hrest, hpre⟩ := hP
  obtain ⟨-, -, -, hnamed, -, -, -, hat⟩ := (Spec.applies_iff hf).mp happ
  obtain ⟨hg, hn⟩ := and_e (Cond.before_iff.mp (show (Jvm.Cond.and given_1 narrow_1).before args s = true from hpre))
  obtain ⟨hcnt, hk0⟩ := and_e hg
  obtain ⟨ha0, hk1⟩ := and_e hk0
  obtain ⟨ha1, hk2⟩ := and_e hk1
  obtain ⟨ha2, hk3⟩ := and_e hk2
  obtain ⟨w0, w1, w2, w3, rfl⟩ : ∃ w0 w1 w2 w3 : Value, args = #[w0, w1, w2, w3] := by
    have hs : args.size = 4 := by simpa [Cond.value, given_1] using hcnt
    obtain ⟨L⟩ := args
    match L, hs with
    | [w0, w1, w2, w3], _ => exact ⟨w0, w1, w2, w3, rfl⟩
  have hw := fun d (hd : d ∈ tables_1) => atoms_spec (ws := Jvm.Cond.code x code maxLocals ret :: tables_1) hat d (List.mem_cons_of_mem _ hd)
  have hfit : Fit s := fun {y c} hc i hi => by
    obtain ⟨ha, rfl⟩ := Array.getElem?_eq_some_iff.mp hc
    have q := List.all_eq_true.mp ((Array.all_eq_true_iff_forall_mem.mp hF) _ (Array.getElem_mem ha)) i (List.mem_range.mpr hi)
    simpa [Array.getElem?_eq_getElem hi] using q
  obtain ⟨i0, ei0⟩ := isL_v ha0
  obtain rfl : w0 = (.long i0) := Option.some.inj ei0
  obtain ⟨i1, ei1⟩ := isL_v ha1
  obtain rfl : w1 = (.long i1) := Option.some.inj ei1
  obtain ⟨i2, ei2⟩ := isL_v ha2
  obtain rfl : w2 = (.long i2) := Option.some.inj ei2
  obtain ⟨i3, ei3⟩ := isL_v hk3
  obtain rfl : w3 = (.long i3) := Option.some.inj ei3
  obtain ⟨n, o, h1, h2, h3, _, L, rfl, ⟨rfl, N⟩, hq⟩ := rm0 l s _ hw i0 i1 i2 i3 s.heap s.heap.size (Nat.le_refl _)  p e ha hc hk s m _ below hf ((Spec.applies_iff_loose hf).mp happ).1 ⟨rfl, State.Warmed39.refl s, rfl⟩ trivial
  refine ⟨n, _, h1, h2, h3, hpost _ _ _ _ _ _ ⟨Cond.after_iff.mpr rfl, Cond.after_iff.mpr (eq_i res_at (Term.int_eval (1)) rfl), trivial⟩ ⟨hq.1, hq.2.1, (hq.2.2.sift fun y hy => Or.inr (N y hy)).mono (by decide) (by decide)⟩⟩
theorem main_1_1 : Claimed_1_1 := comes_1 fun _ _ _ _ _ _ h hF => ⟨h.1, hF⟩
theorem main_1_2 : Claimed_1_2 := comes_1 fun _ _ _ _ _ _ h hF => ⟨h.2.1, hF⟩
end Jvm.Pilot.@@N@@
namespace Jvm.Pilot.@@N@@
open Jvm Jvm.ClassFile Sem Op Lib Jvm.Free Jvm.Stand Jvm.Pilot.@@N@@.Jvm.D
/-! MADE BY PROGRAM (witnessworld.py) out of the Statement's table words and the real class files: 10 classes; the members and pool entries that the words name. The judged class is class 1, her method 3. -/
namespace start1
open Jvm.ClassFile
def u (s : String) : CpInfo := .utf8 (stringToUtf16 s)
/-- a pool by its gaps: so many unusable entries, then the entry; so many at the end -/
def gap : Nat → List CpInfo → List CpInfo
  | 0, r => r
  | n + 1, r => .unusable :: gap n r
def poolList (es : List (Nat × CpInfo)) (last : Nat) : List CpInfo := es.foldr (fun e r => gap e.1 (e.2 :: r)) (gap last [])
def pool (es : List (Nat × CpInfo)) (last : Nat) : Array CpInfo := ⟨poolList es last⟩
def fileOf (pool : Array CpInfo) (this : Nat) (attrs : Array Attribute := #[]) (ms : Array MethodInfo := #[]) (fl : Nat := 33) (sup : Nat := 0) (ifs : Array Nat := #[]) (fds : Array FieldInfo := #[]) : ClassFile where
  minorVersion := 0
  majorVersion := 65
  constantPool := pool
  accessFlags := fl
  thisClass := this
  superClass := sup
  interfaces := ifs
  fields := fds
  methods := ms
  attributes := attrs
def plain (name : String) (sup : Option ClassId) : Class where
  name := name
  kind := .ordinary
  loader := none
  accessFlags := 33
  super := sup
  interfaces := #[]
  cf := none
  fields := #[]
  methods := #[]
  instanceTypes := #[]
  staticTypes := #[]
  resolved := #[]
  callSites := []
  init := .initialized
  statics := none
  mirror := none

def pool0 : Array CpInfo := pool [(5, u "<init>"), (0, u "()V"), (1, .class_ 10), (1, u "java/lang/Object")] 113

def k0c0 : Code := { maxStack := 0, maxLocals := 1, code := object_method_1_code, exceptionTable := #[], attributes := #[] }
def k0m0 : Method := { name := "<init>", desc := "()V", sig := { parameters := [], returnType := none }, accessFlags := 1, code := some k0c0 }
/-- java/lang/Object -/
def k0 : Class := { plain "java/lang/Object" none with
  accessFlags := 33
  interfaces := #[]
  cf := some (fileOf pool0 8 #[] #[{ accessFlags := 1, nameIndex := 5, descriptorIndex := 6, attributes := #[] }] 33 0 #[] #[])
  fields := #[]
  methods := #[k0m0]
  instanceTypes := #[]
  staticTypes := #[]
  resolved := Array.replicate 124 none
  statics := none }

def pool1 : Array CpInfo := pool [(2, .class_ 4), (1, u "java/lang/Object"), (0, u "<init>"), (0, u "()V"), (0, .methodref 8 9), (0, .class_ 10), (0, .nameAndType 11 12), (0, u "java/lang/Math"), (0, u "min"), (0, u "(II)I"), (0, .methodref 8 14), (0, .nameAndType 15 12), (0, u "max"), (2, .long 2147483647), (1, .methodref 8 21), (0, .nameAndType 11 22), (0, u "(JJ)J"), (0, .methodref 24 25), (0, .class_ 26), (0, .nameAndType 27 28), (0, u "com/example/hewristic/hewristic/model/RectangleContainsPinLaw"), (0, u "lo"), (0, u "(J)I"), (0, .methodref 24 30), (0, .nameAndType 31 28), (0, u "hi"), (0, .class_ 33), (0, u "com/example/hewristic/hewristic/model/Rectangle"), (0, .methodref 32 35), (0, .nameAndType 5 36), (0, u "(IIII)V"), (0, .methodref 32 38), (0, .nameAndType 39 40), (0, u "contains"), (0, u "(Lcom/example/hewristic/hewristic/model/Rectangle;)Z"), (0, .methodref 32 42), (0, .nameAndType 43 44), (0, u "union"), (0, u "(Lcom/example/hewristic/hewristic/model/Rectangle;)Lcom/example/hewristic/hewristic/model/Rectangle;"), (0, .methodref 32 46), (0, .nameAndType 47 48), (0, u "equals"), (0, u "(Ljava/lang/Object;)Z"), (2, u "law"), (0, u "(JJJJ)Z")] 3

def k1m0 : Method := { name := "<init>", desc := "()V", sig := { parameters := [], returnType := none }, accessFlags := 2, code := none }
def k1c1 : Code := { maxStack := 3, maxLocals := 4, code := method_2_code, exceptionTable := #[], attributes := #[] }
def k1m1 : Method := { name := "lo", desc := "(J)I", sig := { parameters := [.long], returnType := some .int }, accessFlags := 10, code := some k1c1 }
def k1c2 : Code := { maxStack := 6, maxLocals := 6, code := method_3_code, exceptionTable := #[], attributes := #[] }
def k1m2 : Method := { name := "hi", desc := "(J)I", sig := { parameters := [.long], returnType := some .int }, accessFlags := 10, code := some k1c2 }
def k1c3 : Code := { maxStack := 6, maxLocals := 24, code := code, exceptionTable := #[], attributes := #[] }
def k1m3 : Method := { name := "law", desc := "(JJJJ)Z", sig := { parameters := [.long, .long, .long, .long], returnType := some .boolean }, accessFlags := 9, code := some k1c3 }
/-- com/example/hewristic/hewristic/model/RectangleContainsPinLaw -/
def k1 : Class := { plain "com/example/hewristic/hewristic/model/RectangleContainsPinLaw" (some 0) with
  accessFlags := 49
  interfaces := #[]
  cf := some (fileOf pool1 24 #[] #[{ accessFlags := 2, nameIndex := 5, descriptorIndex := 6, attributes := #[] }, { accessFlags := 10, nameIndex := 27, descriptorIndex := 28, attributes := #[] }, { accessFlags := 10, nameIndex := 31, descriptorIndex := 28, attributes := #[] }, { accessFlags := 9, nameIndex := 51, descriptorIndex := 52, attributes := #[] }] 49 2 #[] #[])
  fields := #[]
  methods := #[k1m0, k1m1, k1m2, k1m3]
  instanceTypes := #[]
  staticTypes := #[]
  resolved := Array.replicate 56 none
  statics := none }

def pool2 : Array CpInfo := pool [(1, .class_ 2), (0, u "java/lang/Math"), (1, .class_ 6), (1, u "java/lang/Object"), (0, u "<init>"), (0, u "()V"), (89, .class_ 100), (1, u "java/lang/Math$RandomNumberGeneratorHolder"), (20, u "(JJ)J"), (50, u "negativeZeroFloatBits"), (0, u "J"), (2, u "negativeZeroDoubleBits"), (21, u "max"), (2, u "min"), (43, u "$assertionsDisabled"), (0, u "Z"), (88, u "(II)I"), (2, u "twoToTheDoubleScaleDown"), (0, u "D"), (4, u "twoToTheDoubleScaleUp"), (9, u "E"), (3, u "PI"), (2, u "TAU"), (2, u "DEGREES_TO_RADIANS"), (0, u "RADIANS_TO_DEGREES")] 94

def k2m0 : Method := { name := "<init>", desc := "()V", sig := { parameters := [], returnType := none }, accessFlags := 2, code := none }
def k2c1 : Code := { maxStack := 2, maxLocals := 2, code := jdk_29_method_65_code, exceptionTable := #[], attributes := #[] }
def k2m1 : Method := { name := "max", desc := "(II)I", sig := { parameters := [.int, .int], returnType := some .int }, accessFlags := 9, code := some k2c1 }
def k2c2 : Code := { maxStack := 2, maxLocals := 2, code := jdk_29_method_69_code, exceptionTable := #[], attributes := #[] }
def k2m2 : Method := { name := "min", desc := "(II)I", sig := { parameters := [.int, .int], returnType := some .int }, accessFlags := 9, code := some k2c2 }
def k2c3 : Code := { maxStack := 4, maxLocals := 4, code := jdk_29_method_70_code, exceptionTable := #[], attributes := #[] }
def k2m3 : Method := { name := "min", desc := "(JJ)J", sig := { parameters := [.long, .long], returnType := some .long }, accessFlags := 9, code := some k2c3 }
/-- java/lang/Math -/
def k2 : Class := { plain "java/lang/Math" (some 0) with
  accessFlags := 49
  interfaces := #[]
  cf := some (fileOf pool2 1 #[.nestMembers #[98]] #[{ accessFlags := 2, nameIndex := 7, descriptorIndex := 8, attributes := #[] }, { accessFlags := 9, nameIndex := 198, descriptorIndex := 335, attributes := #[] }, { accessFlags := 9, nameIndex := 201, descriptorIndex := 335, attributes := #[] }, { accessFlags := 9, nameIndex := 201, descriptorIndex := 121, attributes := #[] }] 49 4 #[] #[{ accessFlags := 25, nameIndex := 354, descriptorIndex := 339, attributes := #[] }, { accessFlags := 25, nameIndex := 358, descriptorIndex := 339, attributes := #[] }, { accessFlags := 25, nameIndex := 361, descriptorIndex := 339, attributes := #[] }, { accessFlags := 26, nameIndex := 364, descriptorIndex := 339, attributes := #[] }, { accessFlags := 26, nameIndex := 365, descriptorIndex := 339, attributes := #[] }, { accessFlags := 26, nameIndex := 172, descriptorIndex := 173, attributes := #[] }, { accessFlags := 26, nameIndex := 176, descriptorIndex := 173, attributes := #[] }, { accessFlags := 8, nameIndex := 344, descriptorIndex := 339, attributes := #[] }, { accessFlags := 8, nameIndex := 338, descriptorIndex := 339, attributes := #[] }, { accessFlags := 4120, nameIndex := 245, descriptorIndex := 246, attributes := #[] }])
  fields := #[{ name := "E", type := .double, accessFlags := 25, slot := 0, constantValue := 0 }, { name := "PI", type := .double, accessFlags := 25, slot := 1, constantValue := 0 }, { name := "TAU", type := .double, accessFlags := 25, slot := 2, constantValue := 0 }, { name := "DEGREES_TO_RADIANS", type := .double, accessFlags := 26, slot := 3, constantValue := 0 }, { name := "RADIANS_TO_DEGREES", type := .double, accessFlags := 26, slot := 4, constantValue := 0 }, { name := "negativeZeroFloatBits", type := .long, accessFlags := 26, slot := 5, constantValue := 0 }, { name := "negativeZeroDoubleBits", type := .long, accessFlags := 26, slot := 6, constantValue := 0 }, { name := "twoToTheDoubleScaleUp", type := .double, accessFlags := 8, slot := 7, constantValue := 0 }, { name := "twoToTheDoubleScaleDown", type := .double, accessFlags := 8, slot := 8, constantValue := 0 }, { name := "$assertionsDisabled", type := .boolean, accessFlags := 4120, slot := 9, constantValue := 0 }]
  methods := #[k2m0, k2m1, k2m2, k2m3]
  instanceTypes := #[]
  staticTypes := #[.double, .double, .double, .double, .double, .long, .long, .double, .double, .boolean]
  resolved := Array.replicate 460 none
  statics := none }

def pool3 : Array CpInfo := pool [(1, .methodref 2 3), (0, .class_ 4), (0, .nameAndType 5 6), (0, u "java/lang/Object"), (0, u "<init>"), (0, u "()V"), (3, .class_ 12), (1, u "com/example/hewristic/hewristic/model/Rectangle"), (4, .long 2147483647), (3, .fieldref 10 22), (0, .nameAndType 23 24), (0, u "left"), (0, u "I"), (0, .fieldref 10 26), (0, .nameAndType 27 24), (0, u "top"), (0, .fieldref 10 29), (0, .nameAndType 30 24), (0, u "right"), (0, .fieldref 10 32), (0, .nameAndType 33 24), (0, u "bottom"), (7, .methodref 42 43), (0, .class_ 44), (0, .nameAndType 45 46), (0, u "java/lang/Math"), (0, u "min"), (0, u "(II)I"), (0, .methodref 42 48), (0, .nameAndType 49 46), (0, u "max"), (3, u "(Lcom/example/hewristic/hewristic/model/Rectangle;)Z"), (3, .methodref 10 58), (0, .nameAndType 5 59), (0, u "(IIII)V"), (27, u "contains"), (0, u "union"), (0, u "(Lcom/example/hewristic/hewristic/model/Rectangle;)Lcom/example/hewristic/hewristic/model/Rectangle;"), (0, u "equals"), (0, u "(Ljava/lang/Object;)Z")] 22

def k3c0 : Code := { maxStack := 5, maxLocals := 5, code := prog_9_method_1_code, exceptionTable := #[], attributes := #[] }
def k3m0 : Method := { name := "<init>", desc := "(IIII)V", sig := { parameters := [.int, .int, .int, .int], returnType := none }, accessFlags := 1, code := some k3c0 }
def k3c1 : Code := { maxStack := 2, maxLocals := 2, code := prog_9_method_13_code, exceptionTable := #[], attributes := #[] }
def k3m1 : Method := { name := "contains", desc := "(Lcom/example/hewristic/hewristic/model/Rectangle;)Z", sig := { parameters := [(.object "com/example/hewristic/hewristic/model/Rectangle")], returnType := some .boolean }, accessFlags := 1, code := some k3c1 }
def k3c2 : Code := { maxStack := 7, maxLocals := 2, code := prog_9_method_14_code, exceptionTable := #[], attributes := #[] }
def k3m2 : Method := { name := "union", desc := "(Lcom/example/hewristic/hewristic/model/Rectangle;)Lcom/example/hewristic/hewristic/model/Rectangle;", sig := { parameters := [(.object "com/example/hewristic/hewristic/model/Rectangle")], returnType := some (.object "com/example/hewristic/hewristic/model/Rectangle") }, accessFlags := 1, code := some k3c2 }
def k3c3 : Code := { maxStack := 2, maxLocals := 3, code := prog_9_method_15_code, exceptionTable := #[], attributes := #[] }
def k3m3 : Method := { name := "equals", desc := "(Ljava/lang/Object;)Z", sig := { parameters := [(.object "java/lang/Object")], returnType := some .boolean }, accessFlags := 1, code := some k3c3 }
/-- com/example/hewristic/hewristic/model/Rectangle -/
def k3 : Class := { plain "com/example/hewristic/hewristic/model/Rectangle" (some 0) with
  accessFlags := 49
  interfaces := #[]
  cf := some (fileOf pool3 10 #[] #[{ accessFlags := 1, nameIndex := 5, descriptorIndex := 59, attributes := #[] }, { accessFlags := 1, nameIndex := 87, descriptorIndex := 53, attributes := #[] }, { accessFlags := 1, nameIndex := 88, descriptorIndex := 89, attributes := #[] }, { accessFlags := 1, nameIndex := 90, descriptorIndex := 91, attributes := #[] }] 49 2 #[] #[{ accessFlags := 18, nameIndex := 23, descriptorIndex := 24, attributes := #[] }, { accessFlags := 18, nameIndex := 27, descriptorIndex := 24, attributes := #[] }, { accessFlags := 18, nameIndex := 30, descriptorIndex := 24, attributes := #[] }, { accessFlags := 18, nameIndex := 33, descriptorIndex := 24, attributes := #[] }])
  fields := #[{ name := "left", type := .int, accessFlags := 18, slot := 0, constantValue := 0 }, { name := "top", type := .int, accessFlags := 18, slot := 1, constantValue := 0 }, { name := "right", type := .int, accessFlags := 18, slot := 2, constantValue := 0 }, { name := "bottom", type := .int, accessFlags := 18, slot := 3, constantValue := 0 }]
  methods := #[k3m0, k3m1, k3m2, k3m3]
  instanceTypes := #[.int, .int, .int, .int]
  staticTypes := #[]
  resolved := Array.replicate 114 none
  statics := none }

def pool4 : Array CpInfo := pool [(1, u "java/lang/Cloneable"), (0, .class_ 1), (0, u "java/lang/Object"), (0, .class_ 3)] 3

/-- java/lang/Cloneable -/
def k4 : Class := { plain "java/lang/Cloneable" (some 0) with
  accessFlags := 1537
  interfaces := #[]
  cf := some (fileOf pool4 2 #[] #[] 1537 4 #[] #[])
  fields := #[]
  methods := #[]
  instanceTypes := #[]
  staticTypes := #[]
  resolved := Array.replicate 8 none
  statics := none }

def pool5 : Array CpInfo := pool [(1, u "java/io/Serializable"), (0, .class_ 1), (0, u "java/lang/Object"), (0, .class_ 3)] 3

/-- java/io/Serializable -/
def k5 : Class := { plain "java/io/Serializable" (some 0) with
  accessFlags := 1537
  interfaces := #[]
  cf := some (fileOf pool5 2 #[] #[] 1537 4 #[] #[])
  fields := #[]
  methods := #[]
  instanceTypes := #[]
  staticTypes := #[]
  resolved := Array.replicate 8 none
  statics := none }

/-- the primitive byte -/
def k6 : Class := { plain "byte" none with kind := .primitive 'B', accessFlags := 0x411 }
/-- [B -/
def k7 : Class := { plain "[B" (some 0) with kind := .array 6 .byte, interfaces := #[4, 5], accessFlags := 1041 }

/-- the primitive int -/
def k8 : Class := { plain "int" none with kind := .primitive 'I', accessFlags := 0x411 }
/-- [I -/
def k9 : Class := { plain "[I" (some 0) with kind := .array 8 .int, interfaces := #[4, 5], accessFlags := 1041 }

def heap : Heap := #[]
def classes : Array Class := #[k0, k1, k2, k3, k4, k5, k6, k7, k8, k9]
def interned : List (Array UInt16 × Addr) := []
def slotsUsed : Nat := 0
def theMethod : MethodId := ⟨1, 3⟩
def args0 : Array Value := #[.long 5, .long 300, .long 7, .long 9]
def aboutOver (below : List Frame) : State where
  vm := { classes := classes, interned := interned.toArray }
  heap := heap
  slotsUsed := slotsUsed
  threads := #[{ frames := .invoking theMethod args0 :: below }]
def below0 : List Frame := [.native { method := ⟨0, 0⟩, args := #[] }]
def about1 : State := aboutOver below0
def p0 : Program := .bare "" "" ""
def e0 : Env := launch0.env 0 0 0
theorem w_frames : about1.frames = Frame.invoking theMethod args0 :: below0 := rfl
set_option maxRecDepth 65536 in
theorem w_args : argsFit about1.vm theMethod args0 = true := by decide +kernel
set_option maxRecDepth 65536 in
theorem w_heap : heapFits about1 = true := by decide +kernel
set_option maxRecDepth 65536 in
theorem w_runnable : about1.curStatus? = some .runnable := by decide +kernel
set_option maxRecDepth 65536 in
theorem w_alone : about1.alone = true := by decide +kernel
set_option maxRecDepth 65536 in
theorem w_named : about1.methodNamed? x = some theMethod := by decide +kernel
set_option maxRecDepth 65536 in
theorem w_hears : about1.hears theMethod below0 = true := by decide +kernel
set_option maxRecDepth 65536 in
theorem w_ripe : about1.ripe theMethod args0 below0 = true := by decide +kernel
theorem w_running : about1.status = .running := rfl
set_option maxRecDepth 65536 in
theorem w_room : about1.hasRoom e0.platform room_1 = true :=
  launch0.hasRoom_least _ room_1 (by decide +kernel) (by decide +kernel) (by decide +kernel) (by decide +kernel) (by decide +kernel) (by decide +kernel)
theorem allAtoms_all (ts : List Jvm.Cond) (a : Array Jvm.Value) (st : Jvm.State) : (allAtoms ts).before a st = ts.all (fun c => c.before a st) := by
  induction ts with
  | nil => rfl
  | cons c t ih =>
    show (Jvm.Cond.and c (allAtoms t)).before a st = _
    rw [Jvm.Cond.before_and, ih, List.all_cons]
def words1 : List Jvm.Cond := Jvm.Cond.code x code maxLocals ret :: tables_1
/-- a 'code' word, met by the world's own term for the bytes: nothing is compared byte by byte -/
theorem code_word {y : MethodName} {bytes : ByteArray} {mx : Nat} {rt : Option FieldType} {a : Array Value} {s : State} {m : MethodId} {meth : Method} {c : Code} (h1 : s.methodNamed? y = some m) (h2 : s.vm.method? m = some meth) (h3 : meth.code = some c) (h4 : c.code = bytes)
    (h5 : (c.maxLocals == mx && c.exceptionTable.isEmpty && decide (c.maxStack ≤ mostOperands) && decide (meth.sig.returnType = rt) && !meth.locks && decide (parseMethodDescriptor y.desc = some meth.sig)) = true) : (Jvm.Cond.code y bytes mx rt).before a s = true := by
  simp only [Bool.and_eq_true, beq_iff_eq, Bool.not_eq_true', decide_eq_true_eq] at h5
  obtain ⟨⟨⟨⟨⟨g1, g2⟩, g3⟩, g4⟩, g5⟩, g6⟩ := h5
  simp [Cond.before, Cond.holds, Cond.value, h1, h2, h3, h4, g1, g2, g3, g4, g5, g6]
def isCode : Jvm.Cond → Bool
  | .code _ _ _ _ => true
  | _ => false
theorem all_split {L : List Jvm.Cond} {P : Jvm.Cond → Bool} (h1 : L.all (fun c => isCode c || P c) = true) (h2 : ∀ c ∈ L.filter isCode, P c = true) : L.all P = true := by
  refine List.all_eq_true.mpr fun c hc => ?_
  have h := List.all_eq_true.mp h1 c hc
  rcases Bool.eq_false_or_eq_true (isCode c) with hi | hi
  · exact h2 c (List.mem_filter.mpr ⟨hc, hi⟩)
  · simpa [hi] using h
set_option maxRecDepth 65536 in
theorem w_c0 : (Jvm.Cond.code x code maxLocals ret).before args0 about1 = true := code_word (m := ⟨1, 3⟩) (meth := k1m3) (c := k1c3) (by decide +kernel) rfl rfl rfl (by decide +kernel)
set_option maxRecDepth 65536 in
theorem w_c1 : (Jvm.Cond.code ({ cls := "com/example/hewristic/hewristic/model/RectangleContainsPinLaw", name := "lo", desc := "(J)I" } : Jvm.MethodName) method_2_code (4 : Nat) (Option.some Jvm.ClassFile.FieldType.int)).before args0 about1 = true := code_word (m := ⟨1, 1⟩) (meth := k1m1) (c := k1c1) (by decide +kernel) rfl rfl rfl (by decide +kernel)
set_option maxRecDepth 65536 in
theorem w_c2 : (Jvm.Cond.code ({ cls := "java/lang/Math", name := "min", desc := "(II)I" } : Jvm.MethodName) jdk_29_method_69_code (2 : Nat) (Option.some Jvm.ClassFile.FieldType.int)).before args0 about1 = true := code_word (m := ⟨2, 2⟩) (meth := k2m2) (c := k2c2) (by decide +kernel) rfl rfl rfl (by decide +kernel)
set_option maxRecDepth 65536 in
theorem w_c3 : (Jvm.Cond.code ({ cls := "com/example/hewristic/hewristic/model/RectangleContainsPinLaw", name := "hi", desc := "(J)I" } : Jvm.MethodName) method_3_code (6 : Nat) (Option.some Jvm.ClassFile.FieldType.int)).before args0 about1 = true := code_word (m := ⟨1, 2⟩) (meth := k1m2) (c := k1c2) (by decide +kernel) rfl rfl rfl (by decide +kernel)
set_option maxRecDepth 65536 in
theorem w_c4 : (Jvm.Cond.code ({ cls := "java/lang/Math", name := "max", desc := "(II)I" } : Jvm.MethodName) jdk_29_method_65_code (2 : Nat) (Option.some Jvm.ClassFile.FieldType.int)).before args0 about1 = true := code_word (m := ⟨2, 1⟩) (meth := k2m1) (c := k2c1) (by decide +kernel) rfl rfl rfl (by decide +kernel)
set_option maxRecDepth 65536 in
theorem w_c5 : (Jvm.Cond.code ({ cls := "java/lang/Math", name := "min", desc := "(JJ)J" } : Jvm.MethodName) jdk_29_method_70_code (4 : Nat) (Option.some Jvm.ClassFile.FieldType.long)).before args0 about1 = true := code_word (m := ⟨2, 3⟩) (meth := k2m3) (c := k2c3) (by decide +kernel) rfl rfl rfl (by decide +kernel)
set_option maxRecDepth 65536 in
theorem w_c6 : (Jvm.Cond.code ({ cls := "com/example/hewristic/hewristic/model/Rectangle", name := "<init>", desc := "(IIII)V" } : Jvm.MethodName) prog_9_method_1_code (5 : Nat) (Option.none : Option Jvm.ClassFile.FieldType)).before args0 about1 = true := code_word (m := ⟨3, 0⟩) (meth := k3m0) (c := k3c0) (by decide +kernel) rfl rfl rfl (by decide +kernel)
set_option maxRecDepth 65536 in
theorem w_c7 : (Jvm.Cond.code ({ cls := "java/lang/Object", name := "<init>", desc := "()V" } : Jvm.MethodName) object_method_1_code (1 : Nat) (Option.none : Option Jvm.ClassFile.FieldType)).before args0 about1 = true := code_word (m := ⟨0, 0⟩) (meth := k0m0) (c := k0c0) (by decide +kernel) rfl rfl rfl (by decide +kernel)
set_option maxRecDepth 65536 in
theorem w_c8 : (Jvm.Cond.code ({ cls := "com/example/hewristic/hewristic/model/Rectangle", name := "contains", desc := "(Lcom/example/hewristic/hewristic/model/Rectangle;)Z" } : Jvm.MethodName) prog_9_method_13_code (2 : Nat) (Option.some Jvm.ClassFile.FieldType.boolean)).before args0 about1 = true := code_word (m := ⟨3, 1⟩) (meth := k3m1) (c := k3c1) (by decide +kernel) rfl rfl rfl (by decide +kernel)
set_option maxRecDepth 65536 in
theorem w_c9 : (Jvm.Cond.code ({ cls := "com/example/hewristic/hewristic/model/Rectangle", name := "union", desc := "(Lcom/example/hewristic/hewristic/model/Rectangle;)Lcom/example/hewristic/hewristic/model/Rectangle;" } : Jvm.MethodName) prog_9_method_14_code (2 : Nat) (Option.some (Jvm.ClassFile.FieldType.object "com/example/hewristic/hewristic/model/Rectangle"))).before args0 about1 = true := code_word (m := ⟨3, 2⟩) (meth := k3m2) (c := k3c2) (by decide +kernel) rfl rfl rfl (by decide +kernel)
set_option maxRecDepth 65536 in
theorem w_c10 : (Jvm.Cond.code ({ cls := "com/example/hewristic/hewristic/model/Rectangle", name := "equals", desc := "(Ljava/lang/Object;)Z" } : Jvm.MethodName) prog_9_method_15_code (3 : Nat) (Option.some Jvm.ClassFile.FieldType.boolean)).before args0 about1 = true := code_word (m := ⟨3, 3⟩) (meth := k3m3) (c := k3c3) (by decide +kernel) rfl rfl rfl (by decide +kernel)
def codes1 : List Jvm.Cond := [Jvm.Cond.code x code maxLocals ret, Jvm.Cond.code ({ cls := "com/example/hewristic/hewristic/model/RectangleContainsPinLaw", name := "lo", desc := "(J)I" } : Jvm.MethodName) method_2_code (4 : Nat) (Option.some Jvm.ClassFile.FieldType.int), Jvm.Cond.code ({ cls := "java/lang/Math", name := "min", desc := "(II)I" } : Jvm.MethodName) jdk_29_method_69_code (2 : Nat) (Option.some Jvm.ClassFile.FieldType.int), Jvm.Cond.code ({ cls := "com/example/hewristic/hewristic/model/RectangleContainsPinLaw", name := "hi", desc := "(J)I" } : Jvm.MethodName) method_3_code (6 : Nat) (Option.some Jvm.ClassFile.FieldType.int), Jvm.Cond.code ({ cls := "java/lang/Math", name := "max", desc := "(II)I" } : Jvm.MethodName) jdk_29_method_65_code (2 : Nat) (Option.some Jvm.ClassFile.FieldType.int), Jvm.Cond.code ({ cls := "java/lang/Math", name := "min", desc := "(JJ)J" } : Jvm.MethodName) jdk_29_method_70_code (4 : Nat) (Option.some Jvm.ClassFile.FieldType.long), Jvm.Cond.code ({ cls := "com/example/hewristic/hewristic/model/Rectangle", name := "<init>", desc := "(IIII)V" } : Jvm.MethodName) prog_9_method_1_code (5 : Nat) (Option.none : Option Jvm.ClassFile.FieldType), Jvm.Cond.code ({ cls := "java/lang/Object", name := "<init>", desc := "()V" } : Jvm.MethodName) object_method_1_code (1 : Nat) (Option.none : Option Jvm.ClassFile.FieldType), Jvm.Cond.code ({ cls := "com/example/hewristic/hewristic/model/Rectangle", name := "contains", desc := "(Lcom/example/hewristic/hewristic/model/Rectangle;)Z" } : Jvm.MethodName) prog_9_method_13_code (2 : Nat) (Option.some Jvm.ClassFile.FieldType.boolean), Jvm.Cond.code ({ cls := "com/example/hewristic/hewristic/model/Rectangle", name := "union", desc := "(Lcom/example/hewristic/hewristic/model/Rectangle;)Lcom/example/hewristic/hewristic/model/Rectangle;" } : Jvm.MethodName) prog_9_method_14_code (2 : Nat) (Option.some (Jvm.ClassFile.FieldType.object "com/example/hewristic/hewristic/model/Rectangle")), Jvm.Cond.code ({ cls := "com/example/hewristic/hewristic/model/Rectangle", name := "equals", desc := "(Ljava/lang/Object;)Z" } : Jvm.MethodName) prog_9_method_15_code (3 : Nat) (Option.some Jvm.ClassFile.FieldType.boolean)]
set_option maxRecDepth 65536 in
theorem codes_eq : words1.filter isCode = codes1 := rfl
theorem w_codes : ∀ c ∈ words1.filter isCode, c.before args0 about1 = true := by
  rw [codes_eq]
  intro c hc
  simp only [codes1, List.mem_cons, List.not_mem_nil, or_false] at hc
  rcases hc with rfl | rfl | rfl | rfl | rfl | rfl | rfl | rfl | rfl | rfl | rfl
  · exact w_c0
  · exact w_c1
  · exact w_c2
  · exact w_c3
  · exact w_c4
  · exact w_c5
  · exact w_c6
  · exact w_c7
  · exact w_c8
  · exact w_c9
  · exact w_c10
set_option maxRecDepth 65536 in
theorem w_t1 : (words1.take 24).all (fun c => isCode c || c.before args0 about1) = true := by decide +kernel
set_option maxRecDepth 65536 in
theorem w_t2 : ((words1.drop 24).take 24).all (fun c => isCode c || c.before args0 about1) = true := by decide +kernel
set_option maxRecDepth 65536 in
theorem w_t3 : ((words1.drop 24).drop 24).all (fun c => isCode c || c.before args0 about1) = true := by decide +kernel
theorem w_tables : (allAtoms (Jvm.Cond.code x code maxLocals ret :: tables_1)).before args0 about1 = true := by
  rw [allAtoms_all]
  show words1.all (fun c => c.before args0 about1) = true
  refine all_split ?_ w_codes
  rw [← List.take_append_drop 24 words1, List.all_append, w_t1, ← List.take_append_drop 24 (words1.drop 24), List.all_append, w_t2, w_t3]
  rfl
set_option maxRecDepth 65536 in
theorem w_case : (Jvm.Cond.and given_1 narrow_1).before args0 about1 = true := by decide +kernel
theorem w_applies : (headSpec (Jvm.Cond.code x code maxLocals ret :: tables_1) room_1).applies x e0.platform about1 = true :=
  (Spec.applies_iff w_frames).mpr ⟨w_running, w_runnable, w_alone, w_named, w_hears, w_ripe, w_room, w_tables⟩
theorem atStart : AtStart classFile x code maxLocals ret World_1 tables_1 room_1 Calls_1 rest_1 Pre_1 launch0 p0 e0 about1 theMethod args0 below0 :=
  ⟨lists_1, trivial, launch0.admits_env _ _ _, launch0.least_env, fairChoices_fair.cas, fairChoices_fair.clock, w_frames, w_args, w_heap, w_applies, trivial, trivial, w_case⟩
end start1
theorem witness_1 : WitnessClaimed_1 := ⟨start1.p0, start1.e0, start1.about1, start1.theMethod, start1.args0, start1.below0, start1.atStart⟩
end Jvm.Pilot.@@N@@
