import JvmDerived
import JvmDerived.Pilot.@@N@@Statement
import JvmDerived.Pilot.@@N@@Code
set_option linter.unusedVariables false
set_option linter.unusedSimpArgs false
namespace Jvm.Pilot.@@N@@
open Jvm Jvm.ClassFile Sem Op Lib Jvm.Free Jvm.Stand Jvm.LawKit Jvm.RoadKit Bundle Jvm.Pilot.@@N@@.Jvm.D
section OwnKit
variable {p : Program} {l : Launch} {e : Env} {R : Room} {s : State} {m : MethodId} {args : Array Value} {below : List Frame} {meth : Method} {c : Code} {n0 C N : Nat} {Q : Option Value → Heap → Prop} {h : Heap} {ce sl pc q : Nat} {Ls : Array Slot} {st : List Value} {Z : State} {a0 : Array Value}
/-- the walk that stands at pc, with these locals, this stack and this heap, comes to its end as Q says -/
def Go (p : Program) (l : Launch) (e : Env) (R : Room) (s : State) (m : MethodId) (args : Array Value) (below : List Frame) (meth : Method) (c : Code) (n0 C N : Nat) (Q : Option Value → Heap → Prop) (h : Heap) (ce sl pc : Nat) (Ls : Array Slot) (st : List Value) : Prop :=
  ∀ (T : State) (locs : List Loc), Stand p l e R s m args below meth c T locs ce sl → Fr n0 locs → T.heap = h →
    ∃ (s₂ : State) (v : Option Value) (L : List Loc), Steps p.tables e below (T.setTop (mkF m pc Ls st)) s₂ ∧ s₂.status = .running ∧ Ended s₂ below (.returned v) ∧ Q v s₂.heap ∧ Fr n0 L ∧ FrameEnd s (.returned v) s₂ L C N
/-- a method's contract, at given arguments and a given heap -/
abbrev Met (l : Launch) (Z : State) (y : MethodName) (bytes : ByteArray) (maxL : Nat) (rt : Option FieldType) (ws : List Cond) (rm : Room) (as : Array Value) (h0 : Heap) (n0 : Nat) (Q : Option Value → Heap → Prop) : Prop :=
  MetFree l y (head1 (Cond.code y bytes maxL rt :: ws) rm) (fun a U => a = as ∧ Z.Warmed39 U.vm ∧ U.heap = h0) (fun _ _ _ _ _ => True) (fun _ U o U' => ∃ v L, o = .returned v ∧ (Q v U'.heap ∧ Fr n0 L) ∧ FrameEnd U o U' L rm.cells rm.slots)
theorem Met.of {y : MethodName} {bytes : ByteArray} {maxL : Nat} {rt : Option FieldType} {ws : List Cond} {rm : Room} {as : Array Value} {h0 : Heap} {Ls0 : Array Slot} (hpl : plainFor y = true) (hent : argsToLocals as maxL = Ls0)
    (body : ∀ (p : Program) (e : Env) (s : State) (m : MethodId) (below : List Frame) (meth : Method) (c : Code), p.tables.exec = Jvm.exec → c.code = bytes → c.maxLocals = maxL → meth.sig.returnType = rt → meth.locks = false → s.vm.findClass y.cls = some m.cls → meth.name = y.name → Z.Warmed39 s.vm →
      Go p l e rm s m as below meth c n0 rm.cells rm.slots Q h0 0 0 0 Ls0 []) : Met l Z y bytes maxL rt ws rm as h0 n0 Q := by
  refine MetFree.of_bodySF hpl hisR ?_
  intro p e s m args below meth c s₁ Bd hml0 hP hK
  obtain ⟨rfl, hZ, hh⟩ := hP
  have e0 : s₁.heap = h0 := by rw [← hh, Bd.state]; rfl
  obtain ⟨s₂, v, L, S, r1, r2, hq, hf, fe⟩ := body p e s m below meth c Bd.exec Bd.bytes hml0 Bd.returns Bd.notSynchronized (findClass_of_methodNamed Bd.named) (name_of_methodNamed Bd.named Bd.method).1 hZ s₁ [] (Stand.of_body Bd) (Fr.nil _) e0
  have ef : entryFrame m args maxL = mkF m 0 Ls0 [] := by simp only [entryFrame, mkF, hent]
  exact ⟨s₂, _, castTop ef S, r1, r2, v, L, rfl, ⟨hq, hf⟩, fe⟩
theorem Go.mono {ce' sl' : Nat} (hc : ce ≤ ce') (hs : sl ≤ sl') (G : Go p l e R s m args below meth c n0 C N Q h ce' sl' pc Ls st) : Go p l e R s m args below meth c n0 C N Q h ce sl pc Ls st :=
  fun T locs X Nf eT => G T locs (X.more hc hs) Nf eT
theorem Go.step {q' : Nat} {Ls' : Array Slot} {st' : List Value} (H : ∀ (T : State) (locs : List Loc) (target : State), Stand p l e R s m args below meth c T locs ce sl → T.heap = h → Steps p.tables e below (T.setTop (mkF m q' Ls' st')) target → Steps p.tables e below (T.setTop (mkF m pc Ls st)) target)
    (G : Go p l e R s m args below meth c n0 C N Q h ce sl q' Ls' st') : Go p l e R s m args below meth c n0 C N Q h ce sl pc Ls st := fun T locs X Nf eT => by
  obtain ⟨s₂, v, L, S, r⟩ := G T locs X Nf eT
  exact ⟨s₂, v, L, H T locs s₂ X eT S, r⟩
theorem Go.law {ce' sl' q' : Nat} {Ls' : Array Slot} {st' : List Value} {h' : Heap} (H : ∀ (T : State) (locs : List Loc), Stand p l e R s m args below meth c T locs ce sl → T.heap = h → ∃ T', Stand p l e R s m args below meth c T' locs ce' sl' ∧ T'.heap = h' ∧ ∀ target, Steps p.tables e below (T'.setTop (mkF m q' Ls' st')) target → Steps p.tables e below (T.setTop (mkF m pc Ls st)) target)
    (G : Go p l e R s m args below meth c n0 C N Q h' ce' sl' q' Ls' st') : Go p l e R s m args below meth c n0 C N Q h ce sl pc Ls st := fun T locs X Nf eT => by
  obtain ⟨T', X', eT', hs⟩ := H T locs X eT
  obtain ⟨s₂, v, L, S, r⟩ := G T' locs X' Nf eT'
  exact ⟨s₂, v, L, hs _ S, r⟩
theorem Go.iloadN (hx : p.tables.exec = Jvm.exec) {k : Fin 4} {v : Int32} (hd : decode c.code pc = .ok (.iload_n k, 1)) (hl : Ls[k.val]? = some (.val (.int v))) (hq : q = pc + 1) (G : Go p l e R s m args below meth c n0 C N Q h ce sl q Ls (.int v :: st)) : Go p l e R s m args below meth c n0 C N Q h ce sl pc Ls (st) := by
  subst hq
  exact Go.step (fun T locs target X _ S => XS.iloadN X.here hx rfl hd hl S) G
theorem Go.iload (hx : p.tables.exec = Jvm.exec) {k : Nat} {v : Int32} (hd : decode c.code pc = .ok (.iload k, 2)) (hl : Ls[k]? = some (.val (.int v))) (hq : q = pc + 2) (G : Go p l e R s m args below meth c n0 C N Q h ce sl q Ls (.int v :: st)) : Go p l e R s m args below meth c n0 C N Q h ce sl pc Ls (st) := by
  subst hq
  exact Go.step (fun T locs target X _ S => XS.iload X.here hx rfl hd hl S) G
theorem Go.aloadN (hx : p.tables.exec = Jvm.exec) {k : Fin 4} {v : Value} (hd : decode c.code pc = .ok (.aload_n k, 1)) (hl : Ls[k.val]? = some (.val v)) (hv : v.isRef = true) (hq : q = pc + 1) (G : Go p l e R s m args below meth c n0 C N Q h ce sl q Ls (v :: st)) : Go p l e R s m args below meth c n0 C N Q h ce sl pc Ls (st) := by
  subst hq
  exact Go.step (fun T locs target X _ S => XS.aloadN X.here hx rfl hd hl hv S) G
theorem Go.aload (hx : p.tables.exec = Jvm.exec) {k : Nat} {v : Value} (hd : decode c.code pc = .ok (.aload k, 2)) (hl : Ls[k]? = some (.val v)) (hv : v.isRef = true) (hq : q = pc + 2) (G : Go p l e R s m args below meth c n0 C N Q h ce sl q Ls (v :: st)) : Go p l e R s m args below meth c n0 C N Q h ce sl pc Ls (st) := by
  subst hq
  exact Go.step (fun T locs target X _ S => XS.aload X.here hx rfl hd hl hv S) G
theorem Go.lloadN (hx : p.tables.exec = Jvm.exec) {k : Fin 4} {v : Int64} (hd : decode c.code pc = .ok (.lload_n k, 1)) (hl : Ls[k.val]? = some (.val (.long v))) (hq : q = pc + 1) (G : Go p l e R s m args below meth c n0 C N Q h ce sl q Ls (.long v :: st)) : Go p l e R s m args below meth c n0 C N Q h ce sl pc Ls (st) := by
  subst hq
  exact Go.step (fun T locs target X _ S => XT.lloadN X.here hx rfl hd hl S) G
theorem Go.lload (hx : p.tables.exec = Jvm.exec) {k : Nat} {v : Int64} (hd : decode c.code pc = .ok (.lload k, 2)) (hl : Ls[k]? = some (.val (.long v))) (hq : q = pc + 2) (G : Go p l e R s m args below meth c n0 C N Q h ce sl q Ls (.long v :: st)) : Go p l e R s m args below meth c n0 C N Q h ce sl pc Ls (st) := by
  subst hq
  exact Go.step (fun T locs target X _ S => XT.lload X.here hx rfl hd hl S) G
theorem Go.istoreN (hx : p.tables.exec = Jvm.exec) {k : Fin 4} {x : Int32} {l' : Array Slot} (hd : decode c.code pc = .ok (.istore_n k, 1)) (hl : storeLocals Ls k.val (.int x) = some l') (hq : q = pc + 1) (G : Go p l e R s m args below meth c n0 C N Q h ce sl q l' (st)) : Go p l e R s m args below meth c n0 C N Q h ce sl pc Ls (.int x :: st) := by
  subst hq
  exact Go.step (fun T locs target X _ S => XS.istoreN X.here hx rfl hd rfl hl S) G
theorem Go.istore (hx : p.tables.exec = Jvm.exec) {k : Nat} {x : Int32} {l' : Array Slot} (hd : decode c.code pc = .ok (.istore k, 2)) (hl : storeLocals Ls k (.int x) = some l') (hq : q = pc + 2) (G : Go p l e R s m args below meth c n0 C N Q h ce sl q l' (st)) : Go p l e R s m args below meth c n0 C N Q h ce sl pc Ls (.int x :: st) := by
  subst hq
  exact Go.step (fun T locs target X _ S => XS.istore X.here hx rfl hd rfl hl S) G
theorem Go.lstoreN (hx : p.tables.exec = Jvm.exec) {k : Fin 4} {x : Int64} {l' : Array Slot} (hd : decode c.code pc = .ok (.lstore_n k, 1)) (hl : storeLocals Ls k.val (.long x) = some l') (hq : q = pc + 1) (G : Go p l e R s m args below meth c n0 C N Q h ce sl q l' (st)) : Go p l e R s m args below meth c n0 C N Q h ce sl pc Ls (.long x :: st) := by
  subst hq
  exact Go.step (fun T locs target X _ S => XT.lstoreN X.here hx rfl hd rfl hl S) G
theorem Go.lstore (hx : p.tables.exec = Jvm.exec) {k : Nat} {x : Int64} {l' : Array Slot} (hd : decode c.code pc = .ok (.lstore k, 2)) (hl : storeLocals Ls k (.long x) = some l') (hq : q = pc + 2) (G : Go p l e R s m args below meth c n0 C N Q h ce sl q l' (st)) : Go p l e R s m args below meth c n0 C N Q h ce sl pc Ls (.long x :: st) := by
  subst hq
  exact Go.step (fun T locs target X _ S => XT.lstore X.here hx rfl hd rfl hl S) G
theorem Go.astoreN (hx : p.tables.exec = Jvm.exec) {k : Fin 4} {x : Value} {l' : Array Slot} (hd : decode c.code pc = .ok (.astore_n k, 1)) (hv : x.isRef = true) (hl : storeLocals Ls k.val x = some l') (hq : q = pc + 1) (G : Go p l e R s m args below meth c n0 C N Q h ce sl q l' (st)) : Go p l e R s m args below meth c n0 C N Q h ce sl pc Ls (x :: st) := by
  subst hq
  exact Go.step (fun T locs target X _ S => XS.astoreN X.here hx rfl hd rfl hv hl S) G
theorem Go.astore (hx : p.tables.exec = Jvm.exec) {k : Nat} {x : Value} {l' : Array Slot} (hd : decode c.code pc = .ok (.astore k, 2)) (hv : x.isRef = true) (hl : storeLocals Ls k x = some l') (hq : q = pc + 2) (G : Go p l e R s m args below meth c n0 C N Q h ce sl q l' (st)) : Go p l e R s m args below meth c n0 C N Q h ce sl pc Ls (x :: st) := by
  subst hq
  exact Go.step (fun T locs target X _ S => XS.astore X.here hx rfl hd rfl hv hl S) G
theorem Go.iinc (hx : p.tables.exec = Jvm.exec) {k : Nat} {cst : Int} {x : Int32} {l' : Array Slot} (hd : decode c.code pc = .ok (.iinc k cst, 3)) (hl : Ls[k]? = some (.val (.int x))) (hl' : storeLocals Ls k (.int (x + Int32.ofInt cst)) = some l') (hq : q = pc + 3) (G : Go p l e R s m args below meth c n0 C N Q h ce sl q l' (st)) : Go p l e R s m args below meth c n0 C N Q h ce sl pc Ls (st) := by
  subst hq
  exact Go.step (fun T locs target X _ S => XS.iinc X.here hx rfl hd hl hl' S) G
theorem Go.iconst (hx : p.tables.exec = Jvm.exec) {i : Int} {z : Int32} (hd : decode c.code pc = .ok (.iconst i, 1)) (hz : Int32.ofInt i = z) (hq : q = pc + 1) (G : Go p l e R s m args below meth c n0 C N Q h ce sl q Ls (.int z :: st)) : Go p l e R s m args below meth c n0 C N Q h ce sl pc Ls (st) := by
  subst hq
  exact Go.step (fun T locs target X _ S => XS.iconst X.here hx rfl hd (by rw [hz]; exact S)) G
theorem Go.bipush (hx : p.tables.exec = Jvm.exec) {i : Int} {z : Int32} (hd : decode c.code pc = .ok (.bipush i, 2)) (hz : (Int8.ofInt i).toInt32 = z) (hq : q = pc + 2) (G : Go p l e R s m args below meth c n0 C N Q h ce sl q Ls (.int z :: st)) : Go p l e R s m args below meth c n0 C N Q h ce sl pc Ls (st) := by
  subst hq
  exact Go.step (fun T locs target X _ S => XS.bipush X.here hx rfl hd (by rw [hz]; exact S)) G
theorem Go.sipush (hx : p.tables.exec = Jvm.exec) {i : Int} {z : Int32} (hd : decode c.code pc = .ok (.sipush i, 3)) (hz : (Int16.ofInt i).toInt32 = z) (hq : q = pc + 3) (G : Go p l e R s m args below meth c n0 C N Q h ce sl q Ls (.int z :: st)) : Go p l e R s m args below meth c n0 C N Q h ce sl pc Ls (st) := by
  subst hq
  exact Go.step (fun T locs target X _ S => XS.sipush X.here hx rfl hd (by rw [hz]; exact S)) G
theorem Go.aconstNull (hx : p.tables.exec = Jvm.exec)  (hd : decode c.code pc = .ok (.aconst_null, 1))  (hq : q = pc + 1) (G : Go p l e R s m args below meth c n0 C N Q h ce sl q Ls (.null :: st)) : Go p l e R s m args below meth c n0 C N Q h ce sl pc Ls (st) := by
  subst hq
  exact Go.step (fun T locs target X _ S => XS.aconstNull X.here hx rfl hd S) G
theorem Go.lconst (hx : p.tables.exec = Jvm.exec) {k : Fin 2} {z : Int64} (hd : decode c.code pc = .ok (.lconst k, 1)) (hz : Int64.ofNat k = z) (hq : q = pc + 1) (G : Go p l e R s m args below meth c n0 C N Q h ce sl q Ls (.long z :: st)) : Go p l e R s m args below meth c n0 C N Q h ce sl pc Ls (st) := by
  subst hq
  exact Go.step (fun T locs target X _ S => XT.lconst X.here hx rfl hd (by rw [hz]; exact S)) G
theorem Go.ldcInt (hx : p.tables.exec = Jvm.exec) (hZ : Z.Warmed39 s.vm) {own : String} {index : Nat} {v : Int32} (hown : s.vm.findClass own = some m.cls) (hw : (Cond.constant own index v).before a0 Z = true) (hd : decode c.code pc = .ok (.ldc index, 2)) (hq : q = pc + 2) (G : Go p l e R s m args below meth c n0 C N Q h ce sl q Ls (.int v :: st)) : Go p l e R s m args below meth c n0 C N Q h ce sl pc Ls st := by
  subst hq
  exact Go.step (fun T locs target X _ S => X.ldcInt hx hown (mvT hZ hw) (g := mkF m pc Ls st) rfl hd target S) G
theorem Go.ldc2Long (hx : p.tables.exec = Jvm.exec) (hZ : Z.Warmed39 s.vm) {own : String} {index : Nat} {v : Int64} (hown : s.vm.findClass own = some m.cls) (hw : (Cond.constantLong own index v).before a0 Z = true) (hd : decode c.code pc = .ok (.ldc2_w index, 3)) (hq : q = pc + 3) (G : Go p l e R s m args below meth c n0 C N Q h ce sl q Ls (.long v :: st)) : Go p l e R s m args below meth c n0 C N Q h ce sl pc Ls st := by
  subst hq
  exact Go.step (fun T locs target X _ S => X.ldc2Long hx hown (mvT hZ hw) (g := mkF m pc Ls st) rfl hd target S) G
theorem Go.iadd (hx : p.tables.exec = Jvm.exec) {x y : Int32} (hd : decode c.code pc = .ok (.iadd, 1))  (hq : q = pc + 1) (G : Go p l e R s m args below meth c n0 C N Q h ce sl q Ls (.int (x + y) :: st)) : Go p l e R s m args below meth c n0 C N Q h ce sl pc Ls (.int y :: .int x :: st) := by
  subst hq
  exact Go.step (fun T locs target X _ S => XS.iadd X.here hx rfl hd rfl S) G
theorem Go.isub (hx : p.tables.exec = Jvm.exec) {x y : Int32} (hd : decode c.code pc = .ok (.isub, 1))  (hq : q = pc + 1) (G : Go p l e R s m args below meth c n0 C N Q h ce sl q Ls (.int (x - y) :: st)) : Go p l e R s m args below meth c n0 C N Q h ce sl pc Ls (.int y :: .int x :: st) := by
  subst hq
  exact Go.step (fun T locs target X _ S => XS.isub X.here hx rfl hd rfl S) G
theorem Go.iand (hx : p.tables.exec = Jvm.exec) {x y : Int32} (hd : decode c.code pc = .ok (.iand, 1))  (hq : q = pc + 1) (G : Go p l e R s m args below meth c n0 C N Q h ce sl q Ls (.int (x &&& y) :: st)) : Go p l e R s m args below meth c n0 C N Q h ce sl pc Ls (.int y :: .int x :: st) := by
  subst hq
  exact Go.step (fun T locs target X _ S => XS.iand X.here hx rfl hd rfl S) G
theorem Go.imul (hx : p.tables.exec = Jvm.exec) {x y : Int32} (hd : decode c.code pc = .ok (.imul, 1))  (hq : q = pc + 1) (G : Go p l e R s m args below meth c n0 C N Q h ce sl q Ls (.int (x * y) :: st)) : Go p l e R s m args below meth c n0 C N Q h ce sl pc Ls (.int y :: .int x :: st) := by
  subst hq
  exact Go.step (fun T locs target X _ S => XS.imul X.here hx rfl hd rfl S) G
theorem Go.idiv (hx : p.tables.exec = Jvm.exec) {x y : Int32} (hd : decode c.code pc = .ok (.idiv, 1)) (hy : y ≠ 0) (hq : q = pc + 1) (G : Go p l e R s m args below meth c n0 C N Q h ce sl q Ls (.int (x / y) :: st)) : Go p l e R s m args below meth c n0 C N Q h ce sl pc Ls (.int y :: .int x :: st) := by
  subst hq
  exact Go.step (fun T locs target X _ S => XS.idiv X.here hx rfl hd rfl hy S) G
theorem Go.irem (hx : p.tables.exec = Jvm.exec) {x y : Int32} (hd : decode c.code pc = .ok (.irem, 1)) (hy : y ≠ 0) (hq : q = pc + 1) (G : Go p l e R s m args below meth c n0 C N Q h ce sl q Ls (.int (x % y) :: st)) : Go p l e R s m args below meth c n0 C N Q h ce sl pc Ls (.int y :: .int x :: st) := by
  subst hq
  exact Go.step (fun T locs target X _ S => iremM X hx rfl hd rfl hy S) G
theorem Go.ineg (hx : p.tables.exec = Jvm.exec) {x : Int32} (hd : decode c.code pc = .ok (.ineg, 1))  (hq : q = pc + 1) (G : Go p l e R s m args below meth c n0 C N Q h ce sl q Ls (.int (-x) :: st)) : Go p l e R s m args below meth c n0 C N Q h ce sl pc Ls (.int x :: st) := by
  subst hq
  exact Go.step (fun T locs target X _ S => XS.ineg X.here hx rfl hd rfl S) G
theorem Go.ixor (hx : p.tables.exec = Jvm.exec) {x y : Int32} (hd : decode c.code pc = .ok (.ixor, 1))  (hq : q = pc + 1) (G : Go p l e R s m args below meth c n0 C N Q h ce sl q Ls (.int (x ^^^ y) :: st)) : Go p l e R s m args below meth c n0 C N Q h ce sl pc Ls (.int y :: .int x :: st) := by
  subst hq
  exact Go.step (fun T locs target X _ S => XT.ixor X.here hx rfl hd rfl S) G
theorem Go.ior (hx : p.tables.exec = Jvm.exec) {x y : Int32} (hd : decode c.code pc = .ok (.ior, 1))  (hq : q = pc + 1) (G : Go p l e R s m args below meth c n0 C N Q h ce sl q Ls (.int (x ||| y) :: st)) : Go p l e R s m args below meth c n0 C N Q h ce sl pc Ls (.int y :: .int x :: st) := by
  subst hq
  exact Go.step (fun T locs target X _ S => XT.ior X.here hx rfl hd rfl S) G
theorem Go.ishl (hx : p.tables.exec = Jvm.exec) {x y : Int32} (hd : decode c.code pc = .ok (.ishl, 1))  (hq : q = pc + 1) (G : Go p l e R s m args below meth c n0 C N Q h ce sl q Ls (.int (x <<< (y &&& 31)) :: st)) : Go p l e R s m args below meth c n0 C N Q h ce sl pc Ls (.int y :: .int x :: st) := by
  subst hq
  exact Go.step (fun T locs target X _ S => XT.ishl X.here hx rfl hd rfl S) G
theorem Go.ishr (hx : p.tables.exec = Jvm.exec) {x y : Int32} (hd : decode c.code pc = .ok (.ishr, 1))  (hq : q = pc + 1) (G : Go p l e R s m args below meth c n0 C N Q h ce sl q Ls (.int (x >>> (y &&& 31)) :: st)) : Go p l e R s m args below meth c n0 C N Q h ce sl pc Ls (.int y :: .int x :: st) := by
  subst hq
  exact Go.step (fun T locs target X _ S => XT.ishr X.here hx rfl hd rfl S) G
theorem Go.iushr (hx : p.tables.exec = Jvm.exec) {x y : Int32} (hd : decode c.code pc = .ok (.iushr, 1))  (hq : q = pc + 1) (G : Go p l e R s m args below meth c n0 C N Q h ce sl q Ls (.int (XT.ushr x y) :: st)) : Go p l e R s m args below meth c n0 C N Q h ce sl pc Ls (.int y :: .int x :: st) := by
  subst hq
  exact Go.step (fun T locs target X _ S => XT.iushr X.here hx rfl hd rfl S) G
theorem Go.ladd (hx : p.tables.exec = Jvm.exec) {x y : Int64} (hd : decode c.code pc = .ok (.ladd, 1))  (hq : q = pc + 1) (G : Go p l e R s m args below meth c n0 C N Q h ce sl q Ls (.long (x + y) :: st)) : Go p l e R s m args below meth c n0 C N Q h ce sl pc Ls (.long y :: .long x :: st) := by
  subst hq
  exact Go.step (fun T locs target X _ S => XT.ladd X.here hx rfl hd rfl S) G
theorem Go.lsub (hx : p.tables.exec = Jvm.exec) {x y : Int64} (hd : decode c.code pc = .ok (.lsub, 1))  (hq : q = pc + 1) (G : Go p l e R s m args below meth c n0 C N Q h ce sl q Ls (.long (x - y) :: st)) : Go p l e R s m args below meth c n0 C N Q h ce sl pc Ls (.long y :: .long x :: st) := by
  subst hq
  exact Go.step (fun T locs target X _ S => XT.lsub X.here hx rfl hd rfl S) G
theorem Go.lmul (hx : p.tables.exec = Jvm.exec) {x y : Int64} (hd : decode c.code pc = .ok (.lmul, 1))  (hq : q = pc + 1) (G : Go p l e R s m args below meth c n0 C N Q h ce sl q Ls (.long (x * y) :: st)) : Go p l e R s m args below meth c n0 C N Q h ce sl pc Ls (.long y :: .long x :: st) := by
  subst hq
  exact Go.step (fun T locs target X _ S => XT.lmul X.here hx rfl hd rfl S) G
theorem Go.land (hx : p.tables.exec = Jvm.exec) {x y : Int64} (hd : decode c.code pc = .ok (.land, 1))  (hq : q = pc + 1) (G : Go p l e R s m args below meth c n0 C N Q h ce sl q Ls (.long (x &&& y) :: st)) : Go p l e R s m args below meth c n0 C N Q h ce sl pc Ls (.long y :: .long x :: st) := by
  subst hq
  exact Go.step (fun T locs target X _ S => XT.land X.here hx rfl hd rfl S) G
theorem Go.lor (hx : p.tables.exec = Jvm.exec) {x y : Int64} (hd : decode c.code pc = .ok (.lor, 1))  (hq : q = pc + 1) (G : Go p l e R s m args below meth c n0 C N Q h ce sl q Ls (.long (x ||| y) :: st)) : Go p l e R s m args below meth c n0 C N Q h ce sl pc Ls (.long y :: .long x :: st) := by
  subst hq
  exact Go.step (fun T locs target X _ S => XT.lor X.here hx rfl hd rfl S) G
theorem Go.lxor (hx : p.tables.exec = Jvm.exec) {x y : Int64} (hd : decode c.code pc = .ok (.lxor, 1))  (hq : q = pc + 1) (G : Go p l e R s m args below meth c n0 C N Q h ce sl q Ls (.long (x ^^^ y) :: st)) : Go p l e R s m args below meth c n0 C N Q h ce sl pc Ls (.long y :: .long x :: st) := by
  subst hq
  exact Go.step (fun T locs target X _ S => XT.lxor X.here hx rfl hd rfl S) G
theorem Go.lshl (hx : p.tables.exec = Jvm.exec) {x : Int64} {y : Int32} (hd : decode c.code pc = .ok (.lshl, 1))  (hq : q = pc + 1) (G : Go p l e R s m args below meth c n0 C N Q h ce sl q Ls (.long (x <<< (y.toInt64 &&& 63)) :: st)) : Go p l e R s m args below meth c n0 C N Q h ce sl pc Ls (.int y :: .long x :: st) := by
  subst hq
  exact Go.step (fun T locs target X _ S => XT.lshl X.here hx rfl hd rfl S) G
theorem Go.lshr (hx : p.tables.exec = Jvm.exec) {x : Int64} {y : Int32} (hd : decode c.code pc = .ok (.lshr, 1))  (hq : q = pc + 1) (G : Go p l e R s m args below meth c n0 C N Q h ce sl q Ls (.long (x >>> (y.toInt64 &&& 63)) :: st)) : Go p l e R s m args below meth c n0 C N Q h ce sl pc Ls (.int y :: .long x :: st) := by
  subst hq
  exact Go.step (fun T locs target X _ S => XT.lshr X.here hx rfl hd rfl S) G
theorem Go.lushr (hx : p.tables.exec = Jvm.exec) {x : Int64} {y : Int32} (hd : decode c.code pc = .ok (.lushr, 1))  (hq : q = pc + 1) (G : Go p l e R s m args below meth c n0 C N Q h ce sl q Ls (.long (XT.ushrL x y) :: st)) : Go p l e R s m args below meth c n0 C N Q h ce sl pc Ls (.int y :: .long x :: st) := by
  subst hq
  exact Go.step (fun T locs target X _ S => XT.lushr X.here hx rfl hd rfl S) G
theorem Go.lrem (hx : p.tables.exec = Jvm.exec) {x y : Int64} (hd : decode c.code pc = .ok (.lrem, 1)) (hy : y ≠ 0) (hq : q = pc + 1) (G : Go p l e R s m args below meth c n0 C N Q h ce sl q Ls (.long (x - (x / y) * y) :: st)) : Go p l e R s m args below meth c n0 C N Q h ce sl pc Ls (.long y :: .long x :: st) := by
  subst hq
  exact Go.step (fun T locs target X _ S => XT.lrem X.here hx rfl hd rfl hy S) G
theorem Go.ldiv (hx : p.tables.exec = Jvm.exec) {x y : Int64} (hd : decode c.code pc = .ok (.ldiv, 1)) (hy : y ≠ 0) (hq : q = pc + 1) (G : Go p l e R s m args below meth c n0 C N Q h ce sl q Ls (.long (x / y) :: st)) : Go p l e R s m args below meth c n0 C N Q h ce sl pc Ls (.long y :: .long x :: st) := by
  subst hq
  exact Go.step (fun T locs target X _ S => XT.ldiv X.here hx rfl hd rfl hy S) G
theorem Go.lneg (hx : p.tables.exec = Jvm.exec) {x : Int64} (hd : decode c.code pc = .ok (.lneg, 1))  (hq : q = pc + 1) (G : Go p l e R s m args below meth c n0 C N Q h ce sl q Ls (.long (-x) :: st)) : Go p l e R s m args below meth c n0 C N Q h ce sl pc Ls (.long x :: st) := by
  subst hq
  exact Go.step (fun T locs target X _ S => XT.lneg X.here hx rfl hd rfl S) G
theorem Go.lcmp (hx : p.tables.exec = Jvm.exec) {x y : Int64} (hd : decode c.code pc = .ok (.lcmp, 1))  (hq : q = pc + 1) (G : Go p l e R s m args below meth c n0 C N Q h ce sl q Ls (.int (XT.cmpL x y) :: st)) : Go p l e R s m args below meth c n0 C N Q h ce sl pc Ls (.long y :: .long x :: st) := by
  subst hq
  exact Go.step (fun T locs target X _ S => XT.lcmp X.here hx rfl hd rfl S) G
theorem Go.i2l (hx : p.tables.exec = Jvm.exec) {x : Int32} (hd : decode c.code pc = .ok (.i2l, 1))  (hq : q = pc + 1) (G : Go p l e R s m args below meth c n0 C N Q h ce sl q Ls (.long (x.toInt64) :: st)) : Go p l e R s m args below meth c n0 C N Q h ce sl pc Ls (.int x :: st) := by
  subst hq
  exact Go.step (fun T locs target X _ S => XT.i2l X.here hx rfl hd rfl S) G
theorem Go.l2i (hx : p.tables.exec = Jvm.exec) {x : Int64} (hd : decode c.code pc = .ok (.l2i, 1))  (hq : q = pc + 1) (G : Go p l e R s m args below meth c n0 C N Q h ce sl q Ls (.int (x.toInt32) :: st)) : Go p l e R s m args below meth c n0 C N Q h ce sl pc Ls (.long x :: st) := by
  subst hq
  exact Go.step (fun T locs target X _ S => XT.l2i X.here hx rfl hd rfl S) G
theorem Go.i2b (hx : p.tables.exec = Jvm.exec) {x : Int32} (hd : decode c.code pc = .ok (.i2b, 1))  (hq : q = pc + 1) (G : Go p l e R s m args below meth c n0 C N Q h ce sl q Ls (.int (x.toInt8.toInt32) :: st)) : Go p l e R s m args below meth c n0 C N Q h ce sl pc Ls (.int x :: st) := by
  subst hq
  exact Go.step (fun T locs target X _ S => XT.i2b X.here hx rfl hd rfl S) G
theorem Go.i2c (hx : p.tables.exec = Jvm.exec) {x : Int32} (hd : decode c.code pc = .ok (.i2c, 1))  (hq : q = pc + 1) (G : Go p l e R s m args below meth c n0 C N Q h ce sl q Ls (.int (x.toUInt32.toUInt16.toUInt32.toInt32) :: st)) : Go p l e R s m args below meth c n0 C N Q h ce sl pc Ls (.int x :: st) := by
  subst hq
  exact Go.step (fun T locs target X _ S => XT.i2c X.here hx rfl hd rfl S) G
theorem Go.i2s (hx : p.tables.exec = Jvm.exec) {x : Int32} (hd : decode c.code pc = .ok (.i2s, 1))  (hq : q = pc + 1) (G : Go p l e R s m args below meth c n0 C N Q h ce sl q Ls (.int (x.toInt16.toInt32) :: st)) : Go p l e R s m args below meth c n0 C N Q h ce sl pc Ls (.int x :: st) := by
  subst hq
  exact Go.step (fun T locs target X _ S => XT.i2s X.here hx rfl hd rfl S) G
theorem Go.dup (hx : p.tables.exec = Jvm.exec) {x : Value} (hd : decode c.code pc = .ok (.dup, 1)) (hc : x.category = 1) (hq : q = pc + 1) (G : Go p l e R s m args below meth c n0 C N Q h ce sl q Ls (x :: x :: st)) : Go p l e R s m args below meth c n0 C N Q h ce sl pc Ls (x :: st) := by
  subst hq
  exact Go.step (fun T locs target X _ S => XS.dup X.here hx rfl hd rfl hc S) G
theorem Go.pop (hx : p.tables.exec = Jvm.exec) {x : Value} (hd : decode c.code pc = .ok (.pop, 1)) (hc : x.category = 1) (hq : q = pc + 1) (G : Go p l e R s m args below meth c n0 C N Q h ce sl q Ls (st)) : Go p l e R s m args below meth c n0 C N Q h ce sl pc Ls (x :: st) := by
  subst hq
  exact Go.step (fun T locs target X _ S => XT.pop X.here hx rfl hd rfl hc S) G
theorem Go.dupX1 (hx : p.tables.exec = Jvm.exec) {x y : Value} (hd : decode c.code pc = .ok (.dup_x1, 1)) (hc : x.category = 1) (hc' : y.category = 1) (hq : q = pc + 1) (G : Go p l e R s m args below meth c n0 C N Q h ce sl q Ls (x :: y :: x :: st)) : Go p l e R s m args below meth c n0 C N Q h ce sl pc Ls (x :: y :: st) := by
  subst hq
  exact Go.step (fun T locs target X _ S => XT.dupX1 X.here hx rfl hd rfl hc hc' S) G
theorem Go.dup2 (hx : p.tables.exec = Jvm.exec) {x y : Value} (hd : decode c.code pc = .ok (.dup2, 1)) (hc : x.category = 1) (hc' : y.category = 1) (hq : q = pc + 1) (G : Go p l e R s m args below meth c n0 C N Q h ce sl q Ls (x :: y :: x :: y :: st)) : Go p l e R s m args below meth c n0 C N Q h ce sl pc Ls (x :: y :: st) := by
  subst hq
  exact Go.step (fun T locs target X _ S => XT.dup2 X.here hx rfl hd rfl hc hc' S) G
theorem Go.dup2L (hx : p.tables.exec = Jvm.exec) {x : Int64} (hd : decode c.code pc = .ok (.dup2, 1))  (hq : q = pc + 1) (G : Go p l e R s m args below meth c n0 C N Q h ce sl q Ls (.long x :: .long x :: st)) : Go p l e R s m args below meth c n0 C N Q h ce sl pc Ls (.long x :: st) := by
  subst hq
  exact Go.step (fun T locs target X _ S => XT.dup2L X.here hx rfl hd rfl S) G
theorem Go.goto (hx : p.tables.exec = Jvm.exec) {o : Int} (hd : decode c.code pc = .ok (.goto o, 3)) (ho : 0 ≤ (pc : Int) + o) (hq : ((pc : Int) + o).toNat = q) (G : Go p l e R s m args below meth c n0 C N Q h ce sl q Ls st) : Go p l e R s m args below meth c n0 C N Q h ce sl pc Ls st :=
  Go.step (fun T locs target X _ S => XS.goto X.here hx rfl rfl hd ho hq S) G
theorem Go.icmp_eq (hx : p.tables.exec = Jvm.exec) {x y : Int32} {o : Int} {t : Nat} (hd : decode c.code pc = .ok (.if_icmp .eq o, 3)) (ho : 0 ≤ (pc : Int) + o) (ht : ((pc : Int) + o).toNat = t) (hq : q = pc + 3) (Gt : x = y → Go p l e R s m args below meth c n0 C N Q h ce sl t Ls st) (Gf : ¬ x = y → Go p l e R s m args below meth c n0 C N Q h ce sl q Ls st) : Go p l e R s m args below meth c n0 C N Q h ce sl pc Ls (.int y :: .int x :: st) := by
  subst hq
  by_cases hc : x = y
  · exact Go.step (fun T locs target X _ S => XS.icmpYes X.here hx rfl rfl hd rfl (teq hc).1 ho ht S) (Gt hc)
  · exact Go.step (fun T locs target X _ S => XS.icmpNo X.here hx rfl hd rfl (feq hc).1 S) (Gf hc)
theorem Go.if_eq (hx : p.tables.exec = Jvm.exec) {x : Int32} {o : Int} {t : Nat} (hd : decode c.code pc = .ok (.ifCond .eq o, 3)) (ho : 0 ≤ (pc : Int) + o) (ht : ((pc : Int) + o).toNat = t) (hq : q = pc + 3) (Gt : x = 0 → Go p l e R s m args below meth c n0 C N Q h ce sl t Ls st) (Gf : ¬ x = 0 → Go p l e R s m args below meth c n0 C N Q h ce sl q Ls st) : Go p l e R s m args below meth c n0 C N Q h ce sl pc Ls (.int x :: st) := by
  subst hq
  by_cases hc : x = 0
  · exact Go.step (fun T locs target X _ S => XS.ifYes X.here hx rfl rfl hd rfl ((if0 _ _).trans (teq hc).1) ho ht S) (Gt hc)
  · exact Go.step (fun T locs target X _ S => XS.ifNo X.here hx rfl hd rfl ((if0 _ _).trans (feq hc).1) S) (Gf hc)
theorem Go.icmp_ne (hx : p.tables.exec = Jvm.exec) {x y : Int32} {o : Int} {t : Nat} (hd : decode c.code pc = .ok (.if_icmp .ne o, 3)) (ho : 0 ≤ (pc : Int) + o) (ht : ((pc : Int) + o).toNat = t) (hq : q = pc + 3) (Gt : ¬ x = y → Go p l e R s m args below meth c n0 C N Q h ce sl t Ls st) (Gf : x = y → Go p l e R s m args below meth c n0 C N Q h ce sl q Ls st) : Go p l e R s m args below meth c n0 C N Q h ce sl pc Ls (.int y :: .int x :: st) := by
  subst hq
  by_cases hc : x = y
  · exact Go.step (fun T locs target X _ S => XS.icmpNo X.here hx rfl hd rfl (teq hc).2 S) (Gf hc)
  · exact Go.step (fun T locs target X _ S => XS.icmpYes X.here hx rfl rfl hd rfl (feq hc).2 ho ht S) (Gt hc)
theorem Go.if_ne (hx : p.tables.exec = Jvm.exec) {x : Int32} {o : Int} {t : Nat} (hd : decode c.code pc = .ok (.ifCond .ne o, 3)) (ho : 0 ≤ (pc : Int) + o) (ht : ((pc : Int) + o).toNat = t) (hq : q = pc + 3) (Gt : ¬ x = 0 → Go p l e R s m args below meth c n0 C N Q h ce sl t Ls st) (Gf : x = 0 → Go p l e R s m args below meth c n0 C N Q h ce sl q Ls st) : Go p l e R s m args below meth c n0 C N Q h ce sl pc Ls (.int x :: st) := by
  subst hq
  by_cases hc : x = 0
  · exact Go.step (fun T locs target X _ S => XS.ifNo X.here hx rfl hd rfl ((if0 _ _).trans (teq hc).2) S) (Gf hc)
  · exact Go.step (fun T locs target X _ S => XS.ifYes X.here hx rfl rfl hd rfl ((if0 _ _).trans (feq hc).2) ho ht S) (Gt hc)
theorem Go.icmp_lt (hx : p.tables.exec = Jvm.exec) {x y : Int32} {o : Int} {t : Nat} (hd : decode c.code pc = .ok (.if_icmp .lt o, 3)) (ho : 0 ≤ (pc : Int) + o) (ht : ((pc : Int) + o).toNat = t) (hq : q = pc + 3) (Gt : x < y → Go p l e R s m args below meth c n0 C N Q h ce sl t Ls st) (Gf : ¬ x < y → Go p l e R s m args below meth c n0 C N Q h ce sl q Ls st) : Go p l e R s m args below meth c n0 C N Q h ce sl pc Ls (.int y :: .int x :: st) := by
  subst hq
  by_cases hc : x < y
  · exact Go.step (fun T locs target X _ S => XS.icmpYes X.here hx rfl rfl hd rfl (tlt hc).1 ho ht S) (Gt hc)
  · exact Go.step (fun T locs target X _ S => XS.icmpNo X.here hx rfl hd rfl (flt hc).1 S) (Gf hc)
theorem Go.if_lt (hx : p.tables.exec = Jvm.exec) {x : Int32} {o : Int} {t : Nat} (hd : decode c.code pc = .ok (.ifCond .lt o, 3)) (ho : 0 ≤ (pc : Int) + o) (ht : ((pc : Int) + o).toNat = t) (hq : q = pc + 3) (Gt : x < 0 → Go p l e R s m args below meth c n0 C N Q h ce sl t Ls st) (Gf : ¬ x < 0 → Go p l e R s m args below meth c n0 C N Q h ce sl q Ls st) : Go p l e R s m args below meth c n0 C N Q h ce sl pc Ls (.int x :: st) := by
  subst hq
  by_cases hc : x < 0
  · exact Go.step (fun T locs target X _ S => XS.ifYes X.here hx rfl rfl hd rfl ((if0 _ _).trans (tlt hc).1) ho ht S) (Gt hc)
  · exact Go.step (fun T locs target X _ S => XS.ifNo X.here hx rfl hd rfl ((if0 _ _).trans (flt hc).1) S) (Gf hc)
theorem Go.icmp_ge (hx : p.tables.exec = Jvm.exec) {x y : Int32} {o : Int} {t : Nat} (hd : decode c.code pc = .ok (.if_icmp .ge o, 3)) (ho : 0 ≤ (pc : Int) + o) (ht : ((pc : Int) + o).toNat = t) (hq : q = pc + 3) (Gt : ¬ x < y → Go p l e R s m args below meth c n0 C N Q h ce sl t Ls st) (Gf : x < y → Go p l e R s m args below meth c n0 C N Q h ce sl q Ls st) : Go p l e R s m args below meth c n0 C N Q h ce sl pc Ls (.int y :: .int x :: st) := by
  subst hq
  by_cases hc : x < y
  · exact Go.step (fun T locs target X _ S => XS.icmpNo X.here hx rfl hd rfl (tlt hc).2.1 S) (Gf hc)
  · exact Go.step (fun T locs target X _ S => XS.icmpYes X.here hx rfl rfl hd rfl (flt hc).2.1 ho ht S) (Gt hc)
theorem Go.if_ge (hx : p.tables.exec = Jvm.exec) {x : Int32} {o : Int} {t : Nat} (hd : decode c.code pc = .ok (.ifCond .ge o, 3)) (ho : 0 ≤ (pc : Int) + o) (ht : ((pc : Int) + o).toNat = t) (hq : q = pc + 3) (Gt : ¬ x < 0 → Go p l e R s m args below meth c n0 C N Q h ce sl t Ls st) (Gf : x < 0 → Go p l e R s m args below meth c n0 C N Q h ce sl q Ls st) : Go p l e R s m args below meth c n0 C N Q h ce sl pc Ls (.int x :: st) := by
  subst hq
  by_cases hc : x < 0
  · exact Go.step (fun T locs target X _ S => XS.ifNo X.here hx rfl hd rfl ((if0 _ _).trans (tlt hc).2.1) S) (Gf hc)
  · exact Go.step (fun T locs target X _ S => XS.ifYes X.here hx rfl rfl hd rfl ((if0 _ _).trans (flt hc).2.1) ho ht S) (Gt hc)
theorem Go.icmp_gt (hx : p.tables.exec = Jvm.exec) {x y : Int32} {o : Int} {t : Nat} (hd : decode c.code pc = .ok (.if_icmp .gt o, 3)) (ho : 0 ≤ (pc : Int) + o) (ht : ((pc : Int) + o).toNat = t) (hq : q = pc + 3) (Gt : y < x → Go p l e R s m args below meth c n0 C N Q h ce sl t Ls st) (Gf : ¬ y < x → Go p l e R s m args below meth c n0 C N Q h ce sl q Ls st) : Go p l e R s m args below meth c n0 C N Q h ce sl pc Ls (.int y :: .int x :: st) := by
  subst hq
  by_cases hc : y < x
  · exact Go.step (fun T locs target X _ S => XS.icmpYes X.here hx rfl rfl hd rfl (tlt hc).2.2.1 ho ht S) (Gt hc)
  · exact Go.step (fun T locs target X _ S => XS.icmpNo X.here hx rfl hd rfl (flt hc).2.2.1 S) (Gf hc)
theorem Go.if_gt (hx : p.tables.exec = Jvm.exec) {x : Int32} {o : Int} {t : Nat} (hd : decode c.code pc = .ok (.ifCond .gt o, 3)) (ho : 0 ≤ (pc : Int) + o) (ht : ((pc : Int) + o).toNat = t) (hq : q = pc + 3) (Gt : 0 < x → Go p l e R s m args below meth c n0 C N Q h ce sl t Ls st) (Gf : ¬ 0 < x → Go p l e R s m args below meth c n0 C N Q h ce sl q Ls st) : Go p l e R s m args below meth c n0 C N Q h ce sl pc Ls (.int x :: st) := by
  subst hq
  by_cases hc : 0 < x
  · exact Go.step (fun T locs target X _ S => XS.ifYes X.here hx rfl rfl hd rfl ((if0 _ _).trans (tlt hc).2.2.1) ho ht S) (Gt hc)
  · exact Go.step (fun T locs target X _ S => XS.ifNo X.here hx rfl hd rfl ((if0 _ _).trans (flt hc).2.2.1) S) (Gf hc)
theorem Go.icmp_le (hx : p.tables.exec = Jvm.exec) {x y : Int32} {o : Int} {t : Nat} (hd : decode c.code pc = .ok (.if_icmp .le o, 3)) (ho : 0 ≤ (pc : Int) + o) (ht : ((pc : Int) + o).toNat = t) (hq : q = pc + 3) (Gt : ¬ y < x → Go p l e R s m args below meth c n0 C N Q h ce sl t Ls st) (Gf : y < x → Go p l e R s m args below meth c n0 C N Q h ce sl q Ls st) : Go p l e R s m args below meth c n0 C N Q h ce sl pc Ls (.int y :: .int x :: st) := by
  subst hq
  by_cases hc : y < x
  · exact Go.step (fun T locs target X _ S => XS.icmpNo X.here hx rfl hd rfl (tlt hc).2.2.2 S) (Gf hc)
  · exact Go.step (fun T locs target X _ S => XS.icmpYes X.here hx rfl rfl hd rfl (flt hc).2.2.2 ho ht S) (Gt hc)
theorem Go.if_le (hx : p.tables.exec = Jvm.exec) {x : Int32} {o : Int} {t : Nat} (hd : decode c.code pc = .ok (.ifCond .le o, 3)) (ho : 0 ≤ (pc : Int) + o) (ht : ((pc : Int) + o).toNat = t) (hq : q = pc + 3) (Gt : ¬ 0 < x → Go p l e R s m args below meth c n0 C N Q h ce sl t Ls st) (Gf : 0 < x → Go p l e R s m args below meth c n0 C N Q h ce sl q Ls st) : Go p l e R s m args below meth c n0 C N Q h ce sl pc Ls (.int x :: st) := by
  subst hq
  by_cases hc : 0 < x
  · exact Go.step (fun T locs target X _ S => XS.ifNo X.here hx rfl hd rfl ((if0 _ _).trans (tlt hc).2.2.2) S) (Gf hc)
  · exact Go.step (fun T locs target X _ S => XS.ifYes X.here hx rfl rfl hd rfl ((if0 _ _).trans (flt hc).2.2.2) ho ht S) (Gt hc)
theorem Go.ifnullT (hx : p.tables.exec = Jvm.exec) {b : Addr} {o : Int} {t : Nat} (hd : decode c.code pc = .ok (.ifnull o, 3)) (ho : 0 ≤ (pc : Int) + o) (ht : ((pc : Int) + o).toNat = t) (G : Go p l e R s m args below meth c n0 C N Q h ce sl t Ls st) : Go p l e R s m args below meth c n0 C N Q h ce sl pc Ls (.null :: st) :=
  Go.step (fun T locs target X _ S => XS.ifnullYes X.here hx rfl rfl hd rfl ho ht S) G
theorem Go.ifnullF (hx : p.tables.exec = Jvm.exec) {b : Addr} {o : Int} (hd : decode c.code pc = .ok (.ifnull o, 3)) (hq : q = pc + 3) (G : Go p l e R s m args below meth c n0 C N Q h ce sl q Ls st) : Go p l e R s m args below meth c n0 C N Q h ce sl pc Ls (.ref b :: st) := by
  subst hq
  exact Go.step (fun T locs target X _ S => XS.ifnullNo X.here hx rfl hd rfl S) G
theorem Go.ifnonnullT (hx : p.tables.exec = Jvm.exec) {b : Addr} {o : Int} {t : Nat} (hd : decode c.code pc = .ok (.ifnonnull o, 3)) (ho : 0 ≤ (pc : Int) + o) (ht : ((pc : Int) + o).toNat = t) (G : Go p l e R s m args below meth c n0 C N Q h ce sl t Ls st) : Go p l e R s m args below meth c n0 C N Q h ce sl pc Ls (.ref b :: st) :=
  Go.step (fun T locs target X _ S => XT.ifnonnullYes X.here hx rfl rfl hd rfl ho ht S) G
theorem Go.ifnonnullF (hx : p.tables.exec = Jvm.exec) {b : Addr} {o : Int} (hd : decode c.code pc = .ok (.ifnonnull o, 3)) (hq : q = pc + 3) (G : Go p l e R s m args below meth c n0 C N Q h ce sl q Ls st) : Go p l e R s m args below meth c n0 C N Q h ce sl pc Ls (.null :: st) := by
  subst hq
  exact Go.step (fun T locs target X _ S => XT.ifnonnullNo X.here hx rfl hd rfl S) G
theorem Go.acmp_eq (hx : p.tables.exec = Jvm.exec) {x y : Value} {o : Int} {t : Nat} (hvx : x.isRef = true) (hvy : y.isRef = true) (hd : decode c.code pc = .ok (.if_acmp .eq o, 3)) (ho : 0 ≤ (pc : Int) + o) (ht : ((pc : Int) + o).toNat = t) (hq : q = pc + 3) (Gt : x = y → Go p l e R s m args below meth c n0 C N Q h ce sl t Ls st) (Gf : ¬ x = y → Go p l e R s m args below meth c n0 C N Q h ce sl q Ls st) : Go p l e R s m args below meth c n0 C N Q h ce sl pc Ls (y :: x :: st) := by
  subst hq
  by_cases hc : x = y
  · exact Go.step (fun T locs target X _ S => XT.acmpYes X.here hx rfl rfl hd rfl hvx hvy (by simp [XT.acmp, hc]) ho ht S) (Gt hc)
  · exact Go.step (fun T locs target X _ S => XT.acmpNo X.here hx rfl hd rfl hvx hvy (by simp [XT.acmp, hc]) S) (Gf hc)
theorem Go.acmp_ne (hx : p.tables.exec = Jvm.exec) {x y : Value} {o : Int} {t : Nat} (hvx : x.isRef = true) (hvy : y.isRef = true) (hd : decode c.code pc = .ok (.if_acmp .ne o, 3)) (ho : 0 ≤ (pc : Int) + o) (ht : ((pc : Int) + o).toNat = t) (hq : q = pc + 3) (Gt : ¬ x = y → Go p l e R s m args below meth c n0 C N Q h ce sl t Ls st) (Gf : x = y → Go p l e R s m args below meth c n0 C N Q h ce sl q Ls st) : Go p l e R s m args below meth c n0 C N Q h ce sl pc Ls (y :: x :: st) := by
  subst hq
  by_cases hc : x = y
  · exact Go.step (fun T locs target X _ S => XT.acmpNo X.here hx rfl hd rfl hvx hvy (by simp [XT.acmp, hc]) S) (Gf hc)
  · exact Go.step (fun T locs target X _ S => XT.acmpYes X.here hx rfl rfl hd rfl hvx hvy (by simp [XT.acmp, hc]) ho ht S) (Gt hc)
theorem Go.retV (hx : p.tables.exec = Jvm.exec) {wv : Value} {t : FieldType} {i : Instr} (hret : meth.sig.returnType = some t) (hlk : meth.locks = false) (hn : narrow t wv = wv)
    (hi : (i = .ireturn ∧ (t = .int ∨ t = .boolean ∨ t = .byte ∨ t = .char ∨ t = .short) ∧ ∃ z, wv = .int z) ∨ (i = .lreturn ∧ t = .long ∧ ∃ z, wv = .long z) ∨ (i = .dreturn ∧ t = .double ∧ ∃ z, wv = .double z) ∨ (i = .freturn ∧ t = .float ∧ ∃ z, wv = .float z) ∨ (i = .areturn ∧ t.isReference = true ∧ wv.isRef = true))
    (hd : decode c.code pc = .ok (i, 1)) (hc : ce ≤ C) (hs : sl ≤ N) (hQ : Q (some wv) h) : Go p l e R s m args below meth c n0 C N Q h ce sl pc Ls (wv :: st) := fun T locs X Nf eT => by
  obtain ⟨fs, hr, hrun, hended, hW, hsame⟩ := X.leave (v := some wv) (fun hh => by rw [hret] at hh; cases hh)
  refine ⟨_, _, _, retOut X hx hret hn hi hd hr, hrun, hended, ?_, Nf, ⟨_, rfl⟩, hW, hsame.mono hc hs⟩
  show Q _ T.heap
  rw [eT]; exact hQ
theorem Go.retI (hx : p.tables.exec = Jvm.exec) {z : Int32} (hret : meth.sig.returnType = some .int) (hlk : meth.locks = false) (hd : decode c.code pc = .ok (.ireturn, 1)) (hc : ce ≤ C) (hs : sl ≤ N) (hQ : Q (some (.int z)) h) : Go p l e R s m args below meth c n0 C N Q h ce sl pc Ls (.int z :: st) :=
  Go.retV hx hret hlk rfl (Or.inl ⟨rfl, Or.inl rfl, _, rfl⟩) hd hc hs hQ
theorem Go.retL (hx : p.tables.exec = Jvm.exec) {z : Int64} (hret : meth.sig.returnType = some .long) (hlk : meth.locks = false) (hd : decode c.code pc = .ok (.lreturn, 1)) (hc : ce ≤ C) (hs : sl ≤ N) (hQ : Q (some (.long z)) h) : Go p l e R s m args below meth c n0 C N Q h ce sl pc Ls (.long z :: st) :=
  Go.retV hx hret hlk rfl (Or.inr (Or.inl ⟨rfl, rfl, _, rfl⟩)) hd hc hs hQ
theorem Go.retA (hx : p.tables.exec = Jvm.exec) {wv : Value} {t : FieldType} (hret : meth.sig.returnType = some t) (ht : t.isReference = true) (hv : wv.isRef = true) (hlk : meth.locks = false) (hd : decode c.code pc = .ok (.areturn, 1)) (hc : ce ≤ C) (hs : sl ≤ N) (hQ : Q (some wv) h) : Go p l e R s m args below meth c n0 C N Q h ce sl pc Ls (wv :: st) :=
  Go.retV hx hret hlk (by cases wv <;> cases t <;> simp_all [Value.isRef, FieldType.isReference, narrow]) (Or.inr (Or.inr (Or.inr (Or.inr ⟨rfl, ht, hv⟩)))) hd hc hs hQ
theorem Go.retN (hx : p.tables.exec = Jvm.exec) {z : Int32} {t : FieldType} (hret : meth.sig.returnType = some t) (ht : t = .boolean ∨ t = .byte ∨ t = .char ∨ t = .short) (hlk : meth.locks = false) (hd : decode c.code pc = .ok (.ireturn, 1)) (hc : ce ≤ C) (hs : sl ≤ N) (hQ : Q (some (.int (nar t z))) h) : Go p l e R s m args below meth c n0 C N Q h ce sl pc Ls (.int z :: st) := fun T locs X Nf eT => by
  obtain ⟨fs, hr, hrun, hended, hW, hsame⟩ := X.leave (v := some (.int (nar t z))) (fun hh => by rw [hret] at hh; cases hh)
  refine ⟨_, _, _, Jvm.RoadKit.retN X hx hret ht hd hr, hrun, hended, ?_, Nf, ⟨_, rfl⟩, hW, hsame.mono hc hs⟩
  show Q _ T.heap
  rw [eT]; exact hQ
theorem Go.ret0 (hx : p.tables.exec = Jvm.exec) (hret : meth.sig.returnType = none) (hlk : meth.locks = false) (hd : decode c.code pc = .ok (.return_, 1)) (hc : ce ≤ C) (hs : sl ≤ N) (hQ : Q none h) : Go p l e R s m args below meth c n0 C N Q h ce sl pc Ls [] := fun T locs X Nf eT => by
  obtain ⟨fs, hr, hrun, hended, hW, hsame⟩ := X.leave (v := none) (fun _ => rfl)
  refine ⟨_, _, _, X.returnOut hx hret hd hr, hrun, hended, ?_, Nf, ⟨_, rfl⟩, hW, hsame.mono hc hs⟩
  show Q _ T.heap
  rw [eT]; exact hQ
theorem Go.getF (hx : p.tables.exec = Jvm.exec) (hZ : Z.Warmed39 s.vm) {own R0 O n d host : String} {index : Nat} (hown : s.vm.findClass own = some m.cls) (hw : (Cond.fieldLink own index R0 n d).before a0 Z = true ∨ (Cond.fieldLinkNest own index R0 n d host).before a0 Z = true) (via : Via Z R0 O n d) {a : Addr} {v : Value} (F : Fld Z h a O n d v) (hd : decode c.code pc = .ok (.getfield index, 3)) (hq : q = pc + 3) (G : Go p l e R s m args below meth c n0 C N Q h ce sl q Ls (v :: st)) : Go p l e R s m args below meth c n0 C N Q h ce sl pc Ls (.ref a :: st) := by
  subst hq
  exact Go.law (fun T locs X eT => Jvm.RoadKit.getF X hx hZ hown hw via eT F (g := mkF m pc Ls (.ref a :: st)) rfl rfl hd) G
theorem Go.getS (hx : p.tables.exec = Jvm.exec) (hZ : Z.Warmed39 s.vm) {own R0 O n d host : String} {index : Nat} (hown : s.vm.findClass own = some m.cls) (hw : (Cond.fieldLink own index R0 n d).before a0 Z = true ∨ (Cond.fieldLinkNest own index R0 n d host).before a0 Z = true) (via : Via Z R0 O n d) {v : Value} (F : Sta Z h O n d v) (hd : decode c.code pc = .ok (.getstatic index, 3)) (hq : q = pc + 3) (G : Go p l e R s m args below meth c n0 C N Q h ce sl q Ls (v :: st)) : Go p l e R s m args below meth c n0 C N Q h ce sl pc Ls st := by
  subst hq
  exact Go.law (fun T locs X eT => Jvm.RoadKit.getS2 (host := host) X hx hZ hown hw via eT F (g := mkF m pc Ls st) rfl hd) G
theorem Go.putF (hx : p.tables.exec = Jvm.exec) (hZ : Z.Warmed39 s.vm) {own R0 O n d host C' : String} {index kk : Nat} {ty : FieldType} (hown : s.vm.findClass own = some m.cls) (hw : (Cond.fieldLink own index R0 n d).before a0 Z = true ∨ (Cond.fieldLinkNest own index R0 n d host).before a0 Z = true) (via : Via Z R0 O n d) {a : Addr} {v old : Value} (F : Fld Z h a O n d old) (E : Exa Z h a C') (L : (Cond.lays C' O n d).before a0 Z = true ∨ ((Cond.laysFinal C' O n d).before a0 Z = true ∧ own = O ∧ meth.name = "<init>")) (wi : (Cond.instantiable C' kk).before a0 Z = true)
    (hty : parseFieldDescriptor d = some ty) (hn : narrow ty v = v) (hf : fits ty v = true) (ha : n0 ≤ a) (hd : decode c.code pc = .ok (.putfield index, 3)) (hq : q = pc + 3) (G : ∀ h', Wr h h' a (Jvm.RoadKit.slotOf Z O n d) v → Go p l e R s m args below meth c n0 C N Q h' ce sl q Ls st) : Go p l e R s m args below meth c n0 C N Q h ce sl pc Ls (v :: .ref a :: st) := fun T locs X Nf eT => by
  subst hq
  obtain ⟨T', h', X', eT', W, hs⟩ := Jvm.RoadKit.putF X hx hZ hown hw via eT F E L wi hty hn hf (g := mkF m pc Ls (v :: .ref a :: st)) rfl rfl hd
  obtain ⟨s₂, v', L', S, r⟩ := G h' W T' _ X' (Fr.snoc X' Nf ha) eT'
  exact ⟨s₂, v', L', hs _ S, r⟩
theorem Go.newO (hx : p.tables.exec = Jvm.exec) (hZ : Z.Warmed39 s.vm) {own C' : String} {index n ce' sl' : Nat} (hown : s.vm.findClass own = some m.cls) (w1 : (Cond.classLink own index C').before a0 Z = true) (wi : (Cond.instantiable C' n).before a0 Z = true) (wz : (Cond.initialized C').before a0 Z = true) (hd : decode c.code pc = .ok (.new index, 3)) (hq : q = pc + 3) (hce : ce + 1 = ce') (hsl : sl + n = sl') (hc : ce' ≤ R.cells) (hl : sl' ≤ R.slots)
    (G : ∀ (h' : Heap) (a : Addr), a = h.size → Ext h h' → Exa Z h' a C' → (∀ {O nm d : String} {ty : FieldType}, Laid Z a0 C' O nm d → parseFieldDescriptor d = some ty → Fld Z h' a O nm d (defaultValue ty)) → Go p l e R s m args below meth c n0 C N Q h' ce' sl' q Ls (.ref a :: st)) : Go p l e R s m args below meth c n0 C N Q h ce sl pc Ls st := fun T locs X Nf eT => by
  subst hq hce hsl
  obtain ⟨T', h', X', eT', E, A, D, -, hs⟩ := Jvm.RoadKit.newO X hx hZ hown w1 wi wz eT (g := mkF m pc Ls st) rfl hd hc hl
  obtain ⟨s₂, v', L', S, r⟩ := G h' _ rfl E A D T' _ X' Nf eT'
  exact ⟨s₂, v', L', hs _ S, r⟩
theorem Go.newP (hx : p.tables.exec = Jvm.exec) (hZ : Z.Warmed39 s.vm) {aty : ArrayType} {cap ce' sl' : Nat} (wa : (Cond.arrayClass (newarray.typeOf aty)).before a0 Z = true) {n : Int32} (hn : ¬ n < 0) (hcap : n.toNatClampNeg ≤ cap) (hd : decode c.code pc = .ok (.newarray aty, 2)) (hq : q = pc + 2) (hb : cap * 8 ≤ 536870912) (hce : ce + 1 = ce') (hsl : sl + cap = sl') (hc : ce' ≤ R.cells) (hl : sl' ≤ R.slots)
    (G : ∀ (h' : Heap) (a : Addr) (k : ClassId), a = h.size → Ext h h' → Arv Z h' a k (newarray.typeOf aty) n [] (defaultValue (newarray.typeOf aty)) → Go p l e R s m args below meth c n0 C N Q h' ce' sl' q Ls (.ref a :: st)) : Go p l e R s m args below meth c n0 C N Q h ce sl pc Ls (.int n :: st) := fun T locs X Nf eT => by
  subst hq hce hsl
  obtain ⟨T', h', k, X', eT', E, A, hs⟩ := Jvm.RoadKit.newP X hx hZ wa eT (g := mkF m pc Ls (.int n :: st)) rfl hd rfl hn hcap hb hc hl
  obtain ⟨s₂, v', L', S, r⟩ := G h' _ k rfl E (Arv.new A hn) T' _ X' Nf eT'
  exact ⟨s₂, v', L', hs _ S, r⟩
theorem Go.newR (hx : p.tables.exec = Jvm.exec) (hZ : Z.Warmed39 s.vm) {own C' : String} {index cap ce' sl' : Nat} (hown : s.vm.findClass own = some m.cls) (w1 : (Cond.classLink own index C').before a0 Z = true) (w2 : (Cond.arrayOver (.object C')).before a0 Z = true) {n : Int32} (hn : ¬ n < 0) (hcap : n.toNatClampNeg ≤ cap) (hd : decode c.code pc = .ok (.anewarray index, 3)) (hq : q = pc + 3) (hb : cap * 8 ≤ 536870912) (hce : ce + 1 = ce') (hsl : sl + cap = sl') (hc : ce' ≤ R.cells) (hl : sl' ≤ R.slots)
    (G : ∀ (h' : Heap) (a : Addr) (k : ClassId), a = h.size → Ext h h' → Arv Z h' a k (.object C') n [] .null → Ovr Z k C' → Go p l e R s m args below meth c n0 C N Q h' ce' sl' q Ls (.ref a :: st)) : Go p l e R s m args below meth c n0 C N Q h ce sl pc Ls (.int n :: st) := fun T locs X Nf eT => by
  subst hq hce hsl
  obtain ⟨T', h', k, X', eT', E, A, O, hs⟩ := Jvm.RoadKit.newR X hx hZ hown w1 w2 eT (g := mkF m pc Ls (.int n :: st)) rfl hd rfl hn hcap hb hc hl
  obtain ⟨s₂, v', L', S, r⟩ := G h' _ k rfl E (Arv.new A hn) O T' _ X' Nf eT'
  exact ⟨s₂, v', L', hs _ S, r⟩
theorem Go.initO (hx : p.tables.exec = Jvm.exec) (hZ : Z.Warmed39 s.vm) {own : String} {idx : Nat} (hown : s.vm.findClass own = some m.cls) (w1 : (Cond.methodLink own idx Lib.objectInit).before a0 Z = true) (w2 : (Cond.instanceMethod Lib.objectInit).before a0 Z = true) (w3 : (Cond.code Lib.objectInit ⟨#[0xb1]⟩ 1 none).before a0 Z = true) (hsize : Ls.size = c.maxLocals) {a : Addr} (hd : decode c.code pc = .ok (.invokespecial idx, 3)) (hq : q = pc + 3) (hf : 1 ≤ R.frames) (hl : (st.map fun v => v.category).sum + 12 ≤ R.locals) (G : Go p l e R s m args below meth c n0 C N Q h ce sl q Ls st) : Go p l e R s m args below meth c n0 C N Q h ce sl pc Ls (.ref a :: st) := by
  subst hq
  exact Go.law (fun T locs X eT => Jvm.RoadKit.initO X hx hZ hown w1 w2 w3 eT (g := mkF m pc Ls (.ref a :: st)) rfl hsize rfl hd hf (W := (st.map fun v => v.category).sum) (by show 2 * 0 + _ ≤ _; omega) hl) G
theorem Go.castY (hx : p.tables.exec = Jvm.exec) (hZ : Z.Warmed39 s.vm) {own K : String} {index : Nat} (hown : s.vm.findClass own = some m.cls) (w1 : (Cond.classLink own index K).before a0 Z = true) {a : Addr} (F : Ins Z h a K true) (hd : decode c.code pc = .ok (.checkcast index, 3)) (hq : q = pc + 3) (G : Go p l e R s m args below meth c n0 C N Q h ce sl q Ls (.ref a :: st)) : Go p l e R s m args below meth c n0 C N Q h ce sl pc Ls (.ref a :: st) := by
  subst hq
  exact Go.law (fun T locs X eT => Jvm.RoadKit.castY X hx hZ hown w1 eT F (g := mkF m pc Ls (.ref a :: st)) rfl rfl hd) G
theorem Go.instY (hx : p.tables.exec = Jvm.exec) (hZ : Z.Warmed39 s.vm) {own K : String} {index : Nat} (hown : s.vm.findClass own = some m.cls) (w1 : (Cond.classLink own index K).before a0 Z = true) {a : Addr} (F : Ins Z h a K true) (hd : decode c.code pc = .ok (.instanceof index, 3)) (hq : q = pc + 3) (G : Go p l e R s m args below meth c n0 C N Q h ce sl q Ls (.int 1 :: st)) : Go p l e R s m args below meth c n0 C N Q h ce sl pc Ls (.ref a :: st) := by
  subst hq
  exact Go.law (fun T locs X eT => Jvm.RoadKit.instY X hx hZ hown w1 eT F (g := mkF m pc Ls (.ref a :: st)) rfl rfl hd) G
theorem Go.alen (hx : p.tables.exec = Jvm.exec) (hZ : Z.Warmed39 s.vm) {a : Addr} {k : ClassId} {ty : FieldType} {n : Int32} {vs : List Value} {dv : Value} (A : Arv Z h a k ty n vs dv) (hd : decode c.code pc = .ok (.arraylength, 1)) (hq : q = pc + 1) (G : Go p l e R s m args below meth c n0 C N Q h ce sl q Ls (.int n :: st)) : Go p l e R s m args below meth c n0 C N Q h ce sl pc Ls (.ref a :: st) := by
  subst hq
  obtain ⟨cl, Ar, q1, S1, N1, H1, F1⟩ := A
  refine Go.step (fun T locs target X eT S => X.arraylength hx (by rw [eT]; exact Ar.1) (State.isArrayOf_alike hZ.alike Ar.2.1) (g := mkF m pc Ls (.ref a :: st)) rfl rfl hd target ?_) G
  rw [len_of S1 N1]; exact S
theorem Go.baload (hx : p.tables.exec = Jvm.exec) (hZ : Z.Warmed39 s.vm) {a : Addr} {k : ClassId} {n j : Int32} {vs : List Value} {dv v : Value} (A : Arv Z h a k .byte n vs dv) (hj : ¬ j < 0 ∧ j < n) (hv : vs.getD j.toNatClampNeg dv = v) (hd : decode c.code pc = .ok (.baload, 1)) (hq : q = pc + 1) (G : Go p l e R s m args below meth c n0 C N Q h ce sl q Ls (v :: st)) : Go p l e R s m args below meth c n0 C N Q h ce sl pc Ls (.int j :: .ref a :: st) := by
  subst hq
  obtain ⟨cl, Ar, q1, S1, N1, H1, F1⟩ := A
  exact Go.step (fun T locs target X eT S => X.baloadBytes hx (by rw [eT]; exact Ar.1) (State.isArrayOf_alike hZ.alike Ar.2.1) Ar.2.2 (inb_of S1 hj) (H1.at (inb_of S1 hj) hv) (g := mkF m pc Ls (.int j :: .ref a :: st)) rfl rfl hd target S) G
theorem Go.zaload (hx : p.tables.exec = Jvm.exec) (hZ : Z.Warmed39 s.vm) {a : Addr} {k : ClassId} {n j : Int32} {vs : List Value} {dv v : Value} (A : Arv Z h a k .boolean n vs dv) (hj : ¬ j < 0 ∧ j < n) (hv : vs.getD j.toNatClampNeg dv = v) (hd : decode c.code pc = .ok (.baload, 1)) (hq : q = pc + 1) (G : Go p l e R s m args below meth c n0 C N Q h ce sl q Ls (v :: st)) : Go p l e R s m args below meth c n0 C N Q h ce sl pc Ls (.int j :: .ref a :: st) := by
  subst hq
  obtain ⟨cl, Ar, q1, S1, N1, H1, F1⟩ := A
  exact Go.step (fun T locs target X eT S => X.baloadBooleans hx (by rw [eT]; exact Ar.1) (State.isArrayOf_alike hZ.alike Ar.2.1) Ar.2.2 (inb_of S1 hj) (H1.at (inb_of S1 hj) hv) (g := mkF m pc Ls (.int j :: .ref a :: st)) rfl rfl hd target S) G
theorem Go.caload (hx : p.tables.exec = Jvm.exec) (hZ : Z.Warmed39 s.vm) {a : Addr} {k : ClassId} {n j : Int32} {vs : List Value} {dv v : Value} (A : Arv Z h a k .char n vs dv) (hj : ¬ j < 0 ∧ j < n) (hv : vs.getD j.toNatClampNeg dv = v) (hd : decode c.code pc = .ok (.caload, 1)) (hq : q = pc + 1) (G : Go p l e R s m args below meth c n0 C N Q h ce sl q Ls (v :: st)) : Go p l e R s m args below meth c n0 C N Q h ce sl pc Ls (.int j :: .ref a :: st) := by
  subst hq
  obtain ⟨cl, Ar, q1, S1, N1, H1, F1⟩ := A
  exact Go.step (fun T locs target X eT S => X.caload hx (by rw [eT]; exact Ar.1) (State.isArrayOf_alike hZ.alike Ar.2.1) Ar.2.2 (inb_of S1 hj) (H1.at (inb_of S1 hj) hv) (g := mkF m pc Ls (.int j :: .ref a :: st)) rfl rfl hd target S) G
theorem Go.saload (hx : p.tables.exec = Jvm.exec) (hZ : Z.Warmed39 s.vm) {a : Addr} {k : ClassId} {n j : Int32} {vs : List Value} {dv v : Value} (A : Arv Z h a k .short n vs dv) (hj : ¬ j < 0 ∧ j < n) (hv : vs.getD j.toNatClampNeg dv = v) (hd : decode c.code pc = .ok (.saload, 1)) (hq : q = pc + 1) (G : Go p l e R s m args below meth c n0 C N Q h ce sl q Ls (v :: st)) : Go p l e R s m args below meth c n0 C N Q h ce sl pc Ls (.int j :: .ref a :: st) := by
  subst hq
  obtain ⟨cl, Ar, q1, S1, N1, H1, F1⟩ := A
  exact Go.step (fun T locs target X eT S => X.saload hx (by rw [eT]; exact Ar.1) (State.isArrayOf_alike hZ.alike Ar.2.1) Ar.2.2 (inb_of S1 hj) (H1.at (inb_of S1 hj) hv) (g := mkF m pc Ls (.int j :: .ref a :: st)) rfl rfl hd target S) G
theorem Go.iaload (hx : p.tables.exec = Jvm.exec) (hZ : Z.Warmed39 s.vm) {a : Addr} {k : ClassId} {n j : Int32} {vs : List Value} {dv v : Value} (A : Arv Z h a k .int n vs dv) (hj : ¬ j < 0 ∧ j < n) (hv : vs.getD j.toNatClampNeg dv = v) (hd : decode c.code pc = .ok (.iaload, 1)) (hq : q = pc + 1) (G : Go p l e R s m args below meth c n0 C N Q h ce sl q Ls (v :: st)) : Go p l e R s m args below meth c n0 C N Q h ce sl pc Ls (.int j :: .ref a :: st) := by
  subst hq
  obtain ⟨cl, Ar, q1, S1, N1, H1, F1⟩ := A
  exact Go.step (fun T locs target X eT S => X.iaload hx (by rw [eT]; exact Ar.1) (State.isArrayOf_alike hZ.alike Ar.2.1) Ar.2.2 (inb_of S1 hj) (H1.at (inb_of S1 hj) hv) (g := mkF m pc Ls (.int j :: .ref a :: st)) rfl rfl hd target S) G
theorem Go.laload (hx : p.tables.exec = Jvm.exec) (hZ : Z.Warmed39 s.vm) {a : Addr} {k : ClassId} {n j : Int32} {vs : List Value} {dv v : Value} (A : Arv Z h a k .long n vs dv) (hj : ¬ j < 0 ∧ j < n) (hv : vs.getD j.toNatClampNeg dv = v) (hd : decode c.code pc = .ok (.laload, 1)) (hq : q = pc + 1) (G : Go p l e R s m args below meth c n0 C N Q h ce sl q Ls (v :: st)) : Go p l e R s m args below meth c n0 C N Q h ce sl pc Ls (.int j :: .ref a :: st) := by
  subst hq
  obtain ⟨cl, Ar, q1, S1, N1, H1, F1⟩ := A
  exact Go.step (fun T locs target X eT S => X.laload hx (by rw [eT]; exact Ar.1) (State.isArrayOf_alike hZ.alike Ar.2.1) Ar.2.2 (inb_of S1 hj) (H1.at (inb_of S1 hj) hv) (g := mkF m pc Ls (.int j :: .ref a :: st)) rfl rfl hd target S) G
theorem Go.aaload (hx : p.tables.exec = Jvm.exec) (hZ : Z.Warmed39 s.vm) {a : Addr} {k : ClassId} {ty : FieldType} {n j : Int32} {vs : List Value} {dv v : Value} (A : Arv Z h a k ty n vs dv) (hty : ty.isReference = true) (hj : ¬ j < 0 ∧ j < n) (hv : vs.getD j.toNatClampNeg dv = v) (hd : decode c.code pc = .ok (.aaload, 1)) (hq : q = pc + 1) (G : Go p l e R s m args below meth c n0 C N Q h ce sl q Ls (v :: st)) : Go p l e R s m args below meth c n0 C N Q h ce sl pc Ls (.int j :: .ref a :: st) := by
  subst hq
  obtain ⟨cl, Ar, q1, S1, N1, H1, F1⟩ := A
  exact Go.step (fun T locs target X eT S => X.aaload hx (by rw [eT]; exact Ar.1) (State.isArrayOf_alike hZ.alike Ar.2.1) hty Ar.2.2 (inb_of S1 hj) (H1.at (inb_of S1 hj) hv) (g := mkF m pc Ls (.int j :: .ref a :: st)) rfl rfl hd target S) G
theorem Go.bastore (hx : p.tables.exec = Jvm.exec) (hZ : Z.Warmed39 s.vm) {a : Addr} {k : ClassId} {n j x : Int32} {vs : List Value} {dv : Value} (A : Arv Z h a k .byte n vs dv) (hj : ¬ j < 0 ∧ j < n) (i : Nat) (hi : j.toNatClampNeg = i) (hlen : i < vs.length) (ha : n0 ≤ a) (hd : decode c.code pc = .ok (.bastore, 1)) (hq : q = pc + 1)
    (G : ∀ h', Wr h h' a j.toNatClampNeg (.int (nar .byte x)) → Arv Z h' a k .byte n (vs.set i (.int (nar .byte x))) dv → Go p l e R s m args below meth c n0 C N Q h' ce sl q Ls st) : Go p l e R s m args below meth c n0 C N Q h ce sl pc Ls (.int x :: .int j :: .ref a :: st) := fun T locs X Nf eT => by
  subst hq
  obtain ⟨cl, Ar, q1, S1, N1, H1, F1⟩ := A
  obtain ⟨T', h', X', eT', W, hs⟩ := stB X hx hZ eT Ar (inb_of S1 hj) (g := mkF m pc Ls (.int x :: .int j :: .ref a :: st)) rfl rfl hd
  obtain ⟨s₂, v', L', S, r⟩ := G h' W (Arv.set Ar q1 S1 N1 H1 F1 (fits_nar_byte _) W i hi hlen) T' _ X' (Fr.snoc X' Nf ha) eT'
  exact ⟨s₂, v', L', hs _ S, r⟩
theorem Go.zastore (hx : p.tables.exec = Jvm.exec) (hZ : Z.Warmed39 s.vm) {a : Addr} {k : ClassId} {n j x : Int32} {vs : List Value} {dv : Value} (A : Arv Z h a k .boolean n vs dv) (hj : ¬ j < 0 ∧ j < n) (i : Nat) (hi : j.toNatClampNeg = i) (hlen : i < vs.length) (ha : n0 ≤ a) (hd : decode c.code pc = .ok (.bastore, 1)) (hq : q = pc + 1)
    (G : ∀ h', Wr h h' a j.toNatClampNeg (.int (nar .boolean x)) → Arv Z h' a k .boolean n (vs.set i (.int (nar .boolean x))) dv → Go p l e R s m args below meth c n0 C N Q h' ce sl q Ls st) : Go p l e R s m args below meth c n0 C N Q h ce sl pc Ls (.int x :: .int j :: .ref a :: st) := fun T locs X Nf eT => by
  subst hq
  obtain ⟨cl, Ar, q1, S1, N1, H1, F1⟩ := A
  obtain ⟨T', h', X', eT', W, hs⟩ := stZ X hx hZ eT Ar (inb_of S1 hj) (g := mkF m pc Ls (.int x :: .int j :: .ref a :: st)) rfl rfl hd
  obtain ⟨s₂, v', L', S, r⟩ := G h' W (Arv.set Ar q1 S1 N1 H1 F1 (fits_nar_bool _) W i hi hlen) T' _ X' (Fr.snoc X' Nf ha) eT'
  exact ⟨s₂, v', L', hs _ S, r⟩
theorem Go.castore (hx : p.tables.exec = Jvm.exec) (hZ : Z.Warmed39 s.vm) {a : Addr} {k : ClassId} {n j x : Int32} {vs : List Value} {dv : Value} (A : Arv Z h a k .char n vs dv) (hj : ¬ j < 0 ∧ j < n) (i : Nat) (hi : j.toNatClampNeg = i) (hlen : i < vs.length) (ha : n0 ≤ a) (hd : decode c.code pc = .ok (.castore, 1)) (hq : q = pc + 1)
    (G : ∀ h', Wr h h' a j.toNatClampNeg (.int (nar .char x)) → Arv Z h' a k .char n (vs.set i (.int (nar .char x))) dv → Go p l e R s m args below meth c n0 C N Q h' ce sl q Ls st) : Go p l e R s m args below meth c n0 C N Q h ce sl pc Ls (.int x :: .int j :: .ref a :: st) := fun T locs X Nf eT => by
  subst hq
  obtain ⟨cl, Ar, q1, S1, N1, H1, F1⟩ := A
  obtain ⟨T', h', X', eT', W, hs⟩ := stC X hx hZ eT Ar (inb_of S1 hj) (g := mkF m pc Ls (.int x :: .int j :: .ref a :: st)) rfl rfl hd
  obtain ⟨s₂, v', L', S, r⟩ := G h' W (Arv.set Ar q1 S1 N1 H1 F1 (fits_nar_char _) W i hi hlen) T' _ X' (Fr.snoc X' Nf ha) eT'
  exact ⟨s₂, v', L', hs _ S, r⟩
theorem Go.sastore (hx : p.tables.exec = Jvm.exec) (hZ : Z.Warmed39 s.vm) {a : Addr} {k : ClassId} {n j x : Int32} {vs : List Value} {dv : Value} (A : Arv Z h a k .short n vs dv) (hj : ¬ j < 0 ∧ j < n) (i : Nat) (hi : j.toNatClampNeg = i) (hlen : i < vs.length) (ha : n0 ≤ a) (hd : decode c.code pc = .ok (.sastore, 1)) (hq : q = pc + 1)
    (G : ∀ h', Wr h h' a j.toNatClampNeg (.int (nar .short x)) → Arv Z h' a k .short n (vs.set i (.int (nar .short x))) dv → Go p l e R s m args below meth c n0 C N Q h' ce sl q Ls st) : Go p l e R s m args below meth c n0 C N Q h ce sl pc Ls (.int x :: .int j :: .ref a :: st) := fun T locs X Nf eT => by
  subst hq
  obtain ⟨cl, Ar, q1, S1, N1, H1, F1⟩ := A
  obtain ⟨T', h', X', eT', W, hs⟩ := stS X hx hZ eT Ar (inb_of S1 hj) (g := mkF m pc Ls (.int x :: .int j :: .ref a :: st)) rfl rfl hd
  obtain ⟨s₂, v', L', S, r⟩ := G h' W (Arv.set Ar q1 S1 N1 H1 F1 (fits_nar_short _) W i hi hlen) T' _ X' (Fr.snoc X' Nf ha) eT'
  exact ⟨s₂, v', L', hs _ S, r⟩
theorem Go.iastore (hx : p.tables.exec = Jvm.exec) (hZ : Z.Warmed39 s.vm) {a : Addr} {k : ClassId} {n j x : Int32} {vs : List Value} {dv : Value} (A : Arv Z h a k .int n vs dv) (hj : ¬ j < 0 ∧ j < n) (i : Nat) (hi : j.toNatClampNeg = i) (hlen : i < vs.length) (ha : n0 ≤ a) (hd : decode c.code pc = .ok (.iastore, 1)) (hq : q = pc + 1)
    (G : ∀ h', Wr h h' a j.toNatClampNeg (.int x) → Arv Z h' a k .int n (vs.set i (.int x)) dv → Go p l e R s m args below meth c n0 C N Q h' ce sl q Ls st) : Go p l e R s m args below meth c n0 C N Q h ce sl pc Ls (.int x :: .int j :: .ref a :: st) := fun T locs X Nf eT => by
  subst hq
  obtain ⟨cl, Ar, q1, S1, N1, H1, F1⟩ := A
  obtain ⟨T', h', X', eT', W, hs⟩ := stI X hx hZ eT Ar (inb_of S1 hj) (g := mkF m pc Ls (.int x :: .int j :: .ref a :: st)) rfl rfl hd
  obtain ⟨s₂, v', L', S, r⟩ := G h' W (Arv.set Ar q1 S1 N1 H1 F1 (rfl) W i hi hlen) T' _ X' (Fr.snoc X' Nf ha) eT'
  exact ⟨s₂, v', L', hs _ S, r⟩
theorem Go.aastore (hx : p.tables.exec = Jvm.exec) (hZ : Z.Warmed39 s.vm) {a : Addr} {k : ClassId} {C' : String} {n j : Int32} {x : Value} {vs : List Value} {dv : Value} (A : Arv Z h a k (.object C') n vs dv) (F : Sto Z h a x) (hxr : x.isRef = true) (hj : ¬ j < 0 ∧ j < n) (i : Nat) (hi : j.toNatClampNeg = i) (hlen : i < vs.length) (ha : n0 ≤ a) (hd : decode c.code pc = .ok (.aastore, 1)) (hq : q = pc + 1)
    (G : ∀ h', Wr h h' a j.toNatClampNeg x → Arv Z h' a k (.object C') n (vs.set i x) dv → Go p l e R s m args below meth c n0 C N Q h' ce sl q Ls st) : Go p l e R s m args below meth c n0 C N Q h ce sl pc Ls (x :: .int j :: .ref a :: st) := fun T locs X Nf eT => by
  subst hq
  obtain ⟨cl, Ar, q1, S1, N1, H1, F1⟩ := A
  obtain ⟨T', h', X', eT', W, hs⟩ := stR X hx hZ eT Ar (inb_of S1 hj) rfl F (g := mkF m pc Ls (x :: .int j :: .ref a :: st)) rfl rfl hd
  obtain ⟨s₂, v', L', S, r⟩ := G h' W (Arv.set Ar q1 S1 N1 H1 F1 (by rcases ref_cases hxr with rfl | ⟨y, rfl⟩ <;> rfl) W i hi hlen) T' _ X' (Fr.snoc X' Nf ha) eT'
  exact ⟨s₂, v', L', hs _ S, r⟩
theorem Go.callS (hx : p.tables.exec = Jvm.exec) (hZ : Z.Warmed39 s.vm) {own : String} {index : Nat} {y : MethodName} {bytes : ByteArray} {maxL : Nat} {rt r' : Option FieldType} {ps : List FieldType} {rm : Room} {Qc : Option Value → Heap → Prop} {argsL rest : List Value} {ce' sl' : Nat} (hown : s.vm.findClass own = some m.cls) (w1 : (Cond.methodLink own index y).before a0 Z = true) (w2 : (Cond.static y).before a0 Z = true) (w3 : (Cond.initialized y.cls).before a0 Z = true) (w4 : (Cond.code y bytes maxL rt).before a0 Z = true) (hy : y.cls ≠ "java/lang/invoke/MethodHandle" ∧ y.cls ≠ "java/lang/invoke/VarHandle")
    (hM : Met l Z y bytes maxL rt [] rm argsL.toArray h n0 Qc) (hsize : Ls.size = c.maxLocals) (hpd : parseMethodDescriptor y.desc = some ⟨ps, r'⟩) (hlen : argsL.length = ps.length) (hst : st = argsL.reverse ++ rest) (hd : decode c.code pc = .ok (.invokestatic index, 3)) (hq : q = pc + 3) (hf : rm.frames + 1 ≤ R.frames) (hl : (rest.map fun v => v.category).sum + (maxL + 11) + rm.locals ≤ R.locals) (hce : ce + rm.cells = ce') (hsl : sl + rm.slots = sl') (hc : ce' ≤ R.cells) (hs : sl' ≤ R.slots)
    (G : ∀ (v : Option Value) (h' : Heap), Qc v h' → Go p l e R s m args below meth c n0 C N Q h' ce' sl' q Ls (v.toList ++ rest)) : Go p l e R s m args below meth c n0 C N Q h ce sl pc Ls st := fun T locs X Nf eT => by
  subst hq hce hsl
  obtain ⟨v, _, ⟨T', L', k', n'⟩, -, X', ⟨Lc, ⟨hQ, hF⟩, hl1, hl2, hl3⟩, hst'⟩ := Jvm.LawKit.callS X hx hown (mvT hZ w1) (mvT hZ w2) (mvT hZ w3) (mvT hZ w4) hy (backOf (W := (rest.map fun v => v.category).sum) (Q := fun v h' L => Qc v h' ∧ Fr n0 L) hM hZ w4 w3 hf hl) (g := mkF m pc Ls st) rfl hsize (argsL := argsL) (rest := rest) (lenOf hpd hlen) hst (by show 2 * 0 + _ ≤ _; omega) hd (fun _ _ => ⟨rfl, eT, hc, hs⟩)
  dsimp only [Pt.U, Pt.locs, Pt.cells, Pt.slots] at X' hl1 hl2 hl3 hst' hQ
  subst hl1 hl2 hl3
  obtain ⟨s₂, v', L'', S, r⟩ := G v _ hQ T' _ X' (Fr.app Nf hF) rfl
  exact ⟨s₂, v', L'', hst' _ S, r⟩
theorem Go.callI (hx : p.tables.exec = Jvm.exec) (hZ : Z.Warmed39 s.vm) {own : String} {index : Nat} {y : MethodName} {bytes : ByteArray} {maxL : Nat} {r' : Option FieldType} {ps : List FieldType} {rm : Room} {Qc : Option Value → Heap → Prop} {a : Addr} {argsL rest : List Value} {ce' sl' : Nat} (hown : s.vm.findClass own = some m.cls) (hnm : y.name = "<init>") (w1 : (Cond.methodLink own index y).before a0 Z = true) (w2 : (Cond.instanceMethod y).before a0 Z = true) (w3 : (Cond.initialized y.cls).before a0 Z = true) (w4 : (Cond.code y bytes maxL none).before a0 Z = true) (hy : y.cls ≠ "java/lang/invoke/MethodHandle" ∧ y.cls ≠ "java/lang/invoke/VarHandle")
    (hM : Met l Z y bytes maxL none [] rm (.ref a :: argsL).toArray h n0 Qc) (hsize : Ls.size = c.maxLocals) (hpd : parseMethodDescriptor y.desc = some ⟨ps, r'⟩) (hlen : argsL.length = ps.length) (hst : st = argsL.reverse ++ .ref a :: rest) (hd : decode c.code pc = .ok (.invokespecial index, 3)) (hq : q = pc + 3) (hf : rm.frames + 1 ≤ R.frames) (hl : (rest.map fun v => v.category).sum + (maxL + 11) + rm.locals ≤ R.locals) (hce : ce + rm.cells = ce') (hsl : sl + rm.slots = sl') (hc : ce' ≤ R.cells) (hs : sl' ≤ R.slots)
    (G : ∀ (v : Option Value) (h' : Heap), Qc v h' → Go p l e R s m args below meth c n0 C N Q h' ce' sl' q Ls (v.toList ++ rest)) : Go p l e R s m args below meth c n0 C N Q h ce sl pc Ls st := fun T locs X Nf eT => by
  subst hq hce hsl
  obtain ⟨v, _, ⟨T', L', k', n'⟩, -, X', ⟨Lc, ⟨hQ, hF⟩, hl1, hl2, hl3⟩, hst'⟩ := X.specialBack hx hnm hown (mvT hZ w1) (mvT hZ w2) (mvT hZ w4) hy (backOf (W := (rest.map fun v => v.category).sum) (Q := fun v h' L => Qc v h' ∧ Fr n0 L) hM hZ w4 w3 hf hl) (g := mkF m pc Ls st) rfl hsize (Steps.refl _) (a := a) (argsL := argsL) (rest := rest) (lenOf hpd hlen) hst (by show 2 * 0 + _ ≤ _; omega) hd (fun _ _ => ⟨rfl, eT, hc, hs⟩)
  dsimp only [Pt.U, Pt.locs, Pt.cells, Pt.slots] at X' hl1 hl2 hl3 hst' hQ
  subst hl1 hl2 hl3
  obtain ⟨s₂, v', L'', S, r⟩ := G v _ hQ T' _ X' (Fr.app Nf hF) rfl
  exact ⟨s₂, v', L'', hst'.trans S, r⟩
theorem Go.callV (hx : p.tables.exec = Jvm.exec) (hZ : Z.Warmed39 s.vm) {own C' : String} {index : Nat} {y z : MethodName} {bytes : ByteArray} {maxL : Nat} {rt r' : Option FieldType} {ps : List FieldType} {rm : Room} {Qc : Option Value → Heap → Prop} {a : Addr} {argsL rest : List Value} {ce' sl' : Nat} (hown : s.vm.findClass own = some m.cls) (w1 : (Cond.methodLink own index y).before a0 Z = true) (w2 : (Cond.declares y).before a0 Z = true) (hnf : NotFace s y) (w5 : (Cond.selects C' y z).before a0 Z = true) (w6 : (Cond.instanceMethod z).before a0 Z = true) (w3 : (Cond.initialized z.cls).before a0 Z = true) (w4 : (Cond.code z bytes maxL rt).before a0 Z = true) (hy : y.cls ≠ "java/lang/invoke/MethodHandle" ∧ y.cls ≠ "java/lang/invoke/VarHandle")
    (E : Exa Z h a C') (hM : Met l Z z bytes maxL rt [] rm (.ref a :: argsL).toArray h n0 Qc) (hsize : Ls.size = c.maxLocals) (hpd : parseMethodDescriptor y.desc = some ⟨ps, r'⟩) (hlen : argsL.length = ps.length) (hst : st = argsL.reverse ++ .ref a :: rest) (hd : decode c.code pc = .ok (.invokevirtual index, 3)) (hq : q = pc + 3) (hf : rm.frames + 1 ≤ R.frames) (hl : (rest.map fun v => v.category).sum + (maxL + 11) + rm.locals ≤ R.locals) (hce : ce + rm.cells = ce') (hsl : sl + rm.slots = sl') (hc : ce' ≤ R.cells) (hs : sl' ≤ R.slots)
    (G : ∀ (v : Option Value) (h' : Heap), Qc v h' → Go p l e R s m args below meth c n0 C N Q h' ce' sl' q Ls (v.toList ++ rest)) : Go p l e R s m args below meth c n0 C N Q h ce sl pc Ls st := fun T locs X Nf eT => by
  subst hq hce hsl
  obtain ⟨cB, kB, qa, qb, qc⟩ := isOf hZ eT E
  obtain ⟨v, _, ⟨T', L', k', n'⟩, -, X', ⟨Lc, ⟨hQ, hF⟩, hl1, hl2, hl3⟩, hst'⟩ := X.virtualBack hx hown (mvT hZ w1) (mvT hZ w2) hnf (mvT hZ w5) (mvT hZ w6) hy (backOf (W := (rest.map fun v => v.category).sum) (Q := fun v h' L => Qc v h' ∧ Fr n0 L) hM hZ w4 w3 hf hl) qa qc (g := mkF m pc Ls st) rfl hsize (Steps.refl _) (argsL := argsL) (rest := rest) (lenOf hpd hlen) hst (by show 2 * 0 + _ ≤ _; omega) hd (fun _ _ => ⟨rfl, eT, hc, hs⟩)
  dsimp only [Pt.U, Pt.locs, Pt.cells, Pt.slots] at X' hl1 hl2 hl3 hst' hQ
  subst hl1 hl2 hl3
  obtain ⟨s₂, v', L'', S, r⟩ := G v _ hQ T' _ X' (Fr.app Nf hF) rfl
  exact ⟨s₂, v', L'', hst'.trans S, r⟩
theorem Go.instNull (hx : p.tables.exec = Jvm.exec) {index : Nat} (hd : decode c.code pc = .ok (.instanceof index, 3)) (hq : q = pc + 3) (G : Go p l e R s m args below meth c n0 C N Q h ce sl q Ls (.int 0 :: st)) : Go p l e R s m args below meth c n0 C N Q h ce sl pc Ls (.null :: st) := by
  subst hq
  exact Go.step (fun T locs target X eT S => X.instanceofNull hx (g := mkF m pc Ls (.null :: st)) rfl rfl hd target S) G
theorem Go.castNull (hx : p.tables.exec = Jvm.exec) {index : Nat} (hd : decode c.code pc = .ok (.checkcast index, 3)) (hq : q = pc + 3) (G : Go p l e R s m args below meth c n0 C N Q h ce sl q Ls (.null :: st)) : Go p l e R s m args below meth c n0 C N Q h ce sl pc Ls (.null :: st) := by
  subst hq
  exact Go.step (fun T locs target X eT S => X.checkcastNull hx (g := mkF m pc Ls (.null :: st)) rfl rfl hd target S) G
theorem Go.instNo (hx : p.tables.exec = Jvm.exec) (hZ : Z.Warmed39 s.vm) {own K C' : String} {index : Nat} (hown : s.vm.findClass own = some m.cls) (w1 : (Cond.classLink own index K).before a0 Z = true) {a : Addr} (E : Exa Z h a C') (F : ∃ c t, Z.vm.findClass C' = some c ∧ Z.vm.findClass K = some t ∧ Z.vm.assignable c t = false) (hd : decode c.code pc = .ok (.instanceof index, 3)) (hq : q = pc + 3) (G : Go p l e R s m args below meth c n0 C N Q h ce sl q Ls (.int 0 :: st)) : Go p l e R s m args below meth c n0 C N Q h ce sl pc Ls (.ref a :: st) := by
  subst hq
  exact Go.law (fun T locs X eT => Jvm.RoadKit.instNo X hx hZ hown w1 eT E F (g := mkF m pc Ls (.ref a :: st)) rfl rfl hd) G
theorem Go.aaloadC (hx : p.tables.exec = Jvm.exec) (hZ : Z.Warmed39 s.vm) {a : Addr} {cl : Cell} {ty : FieldType} {j : Int32} {v : Value} (A : Arr Z h a cl ty) (hty : ty.isReference = true) (hj : ¬ (j < 0 ∨ cl.slots.size ≤ j.toNatClampNeg)) (hv : cl.slots[j.toNatClampNeg]? = some v) (hd : decode c.code pc = .ok (.aaload, 1)) (hq : q = pc + 1) (G : Go p l e R s m args below meth c n0 C N Q h ce sl q Ls (v :: st)) : Go p l e R s m args below meth c n0 C N Q h ce sl pc Ls (.int j :: .ref a :: st) := by
  subst hq
  exact Go.step (fun T locs target X eT S => X.aaload hx (by rw [eT]; exact A.1) (State.isArrayOf_alike hZ.alike A.2.1) hty A.2.2 hj hv (g := mkF m pc Ls (.int j :: .ref a :: st)) rfl rfl hd target S) G
theorem cat_ref {v : Value} (hv : v.isRef = true) : v.category = 1 := by rcases ref_cases hv with rfl | ⟨x, rfl⟩ <;> rfl
theorem nar_ref {v : Value} {t : FieldType} (hv : v.isRef = true) (ht : t.isReference = true) : narrow t v = v := by rcases ref_cases hv with rfl | ⟨x, rfl⟩ <;> cases t <;> rfl
theorem fits_of_ref {v : Value} {t : FieldType} (hv : v.isRef = true) (ht : t.isReference = true) : fits t v = true := by rcases ref_cases hv with rfl | ⟨x, rfl⟩ <;> cases t <;> first | rfl | cases ht
theorem cmpL_gt (x y : Int64) : (0 : Int32) < XT.cmpL x y ↔ y < x := by
  unfold XT.cmpL; split <;> (try split) <;> simp_all <;> decide
theorem cmpL_lt (x y : Int64) : XT.cmpL x y < (0 : Int32) ↔ x < y := by
  unfold XT.cmpL; split <;> (try split) <;> simp_all [Int64.lt_iff_toInt_lt, ← Int64.toInt_inj, Int32.lt_iff_toInt_lt] <;> omega
theorem cmpL_eq (x y : Int64) : XT.cmpL x y = (0 : Int32) ↔ x = y := by
  unfold XT.cmpL; split <;> (try split) <;> simp_all [Int64.lt_iff_toInt_lt, ← Int64.toInt_inj] <;> omega
theorem ns_root {K O : String} {kn : Nat} (w1 : (Cond.noSuperclass O).before a0 Z = true) (wk : (Cond.instantiable K kn).before a0 Z = true) (hn : O ≠ K) : NS Z O K := by
  obtain ⟨c, k, h1, h2, h3, -, -⟩ := Cond.noSuperclass_spec w1
  obtain ⟨t, kt, g1, -⟩ := Cond.instantiable_spec wk
  have ne := ids_ne h1 g1 hn
  refine ⟨c, t, h1, g1, fun fuel => ?_⟩
  cases fuel with
  | zero => rfl
  | succ f => simp [Vm.isSubclassAux, ne, h2, h3]
theorem ns_no {C' S K : String} {kn : Nat} (w1 : (Cond.superclass C' S).before a0 Z = true) (wk : (Cond.instantiable K kn).before a0 Z = true) (nn : NS Z C' K) (hn : C' ≠ K) : ∃ c t, Z.vm.findClass C' = some c ∧ Z.vm.findClass K = some t ∧ Z.vm.assignable c t = false := by
  obtain ⟨c, t, h0, g0, n3⟩ := nn
  obtain ⟨p, k, kp, h1, h2, h3, h4, h5, -, h7⟩ := Cond.superclass_spec h0 w1
  obtain ⟨t', kt, g1, g2, g5, g7, -⟩ := Cond.instantiable_spec wk
  cases g0.symm.trans g1
  have g8 : kt.isInterface = false := by rw [Bool.or_eq_false_iff] at g7; exact g7.1
  have ne := ids_ne h0 g0 hn
  refine ⟨c, t, h0, g0, ?_⟩
  show Z.vm.assignableAux (255 + 1) c t = false
  simp [Vm.assignableAux, ne, h2, g2, h5, g5, g8, Vm.isSubclass, n3]
end OwnKit
def digit (c : Int32) : Int32 := if c < 48 then 0 else if 57 < c then 0 else 1
theorem digit_no {c : Int32} (h0 : ¬ c = 48) (h1 : ¬ c = 49) (h2 : ¬ c = 50) (h3 : ¬ c = 51) (h4 : ¬ c = 52) (h5 : ¬ c = 53) (h6 : ¬ c = 54) (h7 : ¬ c = 55) (h8 : ¬ c = 56) (h9 : ¬ c = 57) : digit c = 0 := by
  unfold digit
  by_cases a : c < 48
  · simp [a]
  · by_cases b : 57 < c
    · simp [a, b]
    · exfalso
      simp only [← Int32.toInt_inj, Int32.lt_iff_toInt_lt] at *
      have e0 : (48 : Int32).toInt = 48 := rfl
      have e1 : (49 : Int32).toInt = 49 := rfl
      have e2 : (50 : Int32).toInt = 50 := rfl
      have e3 : (51 : Int32).toInt = 51 := rfl
      have e4 : (52 : Int32).toInt = 52 := rfl
      have e5 : (53 : Int32).toInt = 53 := rfl
      have e6 : (54 : Int32).toInt = 54 := rfl
      have e7 : (55 : Int32).toInt = 55 := rfl
      have e8 : (56 : Int32).toInt = 56 := rfl
      have e9 : (57 : Int32).toInt = 57 := rfl
      omega
theorem d0_0 : decode prog_86_method_4_code 0 = .ok (.iload_n 0, 1) := by decide +kernel
theorem d0_1 : decode prog_86_method_4_code 1 = .ok (.bipush 48, 2) := by decide +kernel
theorem d0_3 : decode prog_86_method_4_code 3 = .ok (.if_icmp .lt 13, 3) := by decide +kernel
theorem d0_6 : decode prog_86_method_4_code 6 = .ok (.iload_n 0, 1) := by decide +kernel
theorem d0_7 : decode prog_86_method_4_code 7 = .ok (.bipush 57, 2) := by decide +kernel
theorem d0_9 : decode prog_86_method_4_code 9 = .ok (.if_icmp .gt 7, 3) := by decide +kernel
theorem d0_12 : decode prog_86_method_4_code 12 = .ok (.iconst 1, 1) := by decide +kernel
theorem d0_13 : decode prog_86_method_4_code 13 = .ok (.goto 4, 3) := by decide +kernel
theorem d0_16 : decode prog_86_method_4_code 16 = .ok (.iconst 0, 1) := by decide +kernel
theorem d0_17 : decode prog_86_method_4_code 17 = .ok (.ireturn, 1) := by decide +kernel
theorem pl_0 : plainFor (⟨"com/example/resolvent/resolvent/term/CharClass", "isDecimalDigit", "(I)Z"⟩ : MethodName) = true := plainFor_of_name (by first | (simp [plainName, overriddenIn]; done) | decide +kernel)
set_option maxRecDepth 65536 in
set_option maxHeartbeats 40000000 in
theorem rm1 (l : Launch) (Z : State) (a0 : Array Value) (hw : ∀ d ∈ tables_1, d.before a0 Z = true) (k : Int32) (h0 : Heap) (n0 : Nat) (Z0 : n0 ≤ h0.size)  :
    Met l Z (⟨"com/example/resolvent/resolvent/term/CharClass", "isDecimalDigit", "(I)Z"⟩ : MethodName) prog_86_method_4_code 1 (Option.some FieldType.boolean) [] ({ frames := 0, cells := 0, slots := 0, locals := 0 } : Room) #[(.int k)] h0 n0 (fun v h => v = some (.int (digit k)) ∧ h0 = h) := by
  refine Met.of (Ls0 := #[.val (.int k)]) pl_0 (by first | rfl | simp [argsToLocals, Value.category]) ?_
  intro p e s m below meth c hx hby hml hret hlk hown hnm hZ
  refine Go.iloadN (q := 1) hx (hb hby d0_0) rfl rfl ?_
  refine Go.bipush (q := 3) (z := (48 : Int32)) hx (hb hby d0_1) rfl rfl ?_
  refine Go.icmp_lt (q := 6) (t := 16) hx (hb hby d0_3) (by decide) rfl rfl (fun hc3 => ?_) (fun hc3 => ?_)
  · skip
    refine Go.iconst (q := 17) (z := (0 : Int32)) hx (hb hby d0_16) rfl rfl ?_
    refine Go.retN hx (t := .boolean) hret (by simp) hlk (hb hby d0_17) (by decide) (by decide) ?_
    exact ⟨by simp [digit, nar, hc3], rfl⟩
  · skip
    refine Go.iloadN (q := 7) hx (hb hby d0_6) rfl rfl ?_
    refine Go.bipush (q := 9) (z := (57 : Int32)) hx (hb hby d0_7) rfl rfl ?_
    refine Go.icmp_gt (q := 12) (t := 16) hx (hb hby d0_9) (by decide) rfl rfl (fun hc9 => ?_) (fun hc9 => ?_)
    · skip
      refine Go.iconst (q := 17) (z := (0 : Int32)) hx (hb hby d0_16) rfl rfl ?_
      refine Go.retN hx (t := .boolean) hret (by simp) hlk (hb hby d0_17) (by decide) (by decide) ?_
      exact ⟨by simp [digit, nar, hc3, hc9], rfl⟩
    · skip
      refine Go.iconst (q := 13) (z := (1 : Int32)) hx (hb hby d0_12) rfl rfl ?_
      refine Go.goto (q := 17) hx (hb hby d0_13) (by decide) rfl ?_
      refine Go.retN hx (t := .boolean) hret (by simp) hlk (hb hby d0_17) (by decide) (by decide) ?_
      exact ⟨by simp [digit, nar, hc3, hc9], rfl⟩
theorem d1_0 : decode method_2_code 0 = .ok (.iload_n 0, 1) := by decide +kernel
theorem d1_1 : decode method_2_code 1 = .ok (.bipush 48, 2) := by decide +kernel
theorem d1_3 : decode method_2_code 3 = .ok (.if_icmp .eq 57, 3) := by decide +kernel
theorem d1_6 : decode method_2_code 6 = .ok (.iload_n 0, 1) := by decide +kernel
theorem d1_7 : decode method_2_code 7 = .ok (.bipush 49, 2) := by decide +kernel
theorem d1_9 : decode method_2_code 9 = .ok (.if_icmp .eq 51, 3) := by decide +kernel
theorem d1_12 : decode method_2_code 12 = .ok (.iload_n 0, 1) := by decide +kernel
theorem d1_13 : decode method_2_code 13 = .ok (.bipush 50, 2) := by decide +kernel
theorem d1_15 : decode method_2_code 15 = .ok (.if_icmp .eq 45, 3) := by decide +kernel
theorem d1_18 : decode method_2_code 18 = .ok (.iload_n 0, 1) := by decide +kernel
theorem d1_19 : decode method_2_code 19 = .ok (.bipush 51, 2) := by decide +kernel
theorem d1_21 : decode method_2_code 21 = .ok (.if_icmp .eq 39, 3) := by decide +kernel
theorem d1_24 : decode method_2_code 24 = .ok (.iload_n 0, 1) := by decide +kernel
theorem d1_25 : decode method_2_code 25 = .ok (.bipush 52, 2) := by decide +kernel
theorem d1_27 : decode method_2_code 27 = .ok (.if_icmp .eq 33, 3) := by decide +kernel
theorem d1_30 : decode method_2_code 30 = .ok (.iload_n 0, 1) := by decide +kernel
theorem d1_31 : decode method_2_code 31 = .ok (.bipush 53, 2) := by decide +kernel
theorem d1_33 : decode method_2_code 33 = .ok (.if_icmp .eq 27, 3) := by decide +kernel
theorem d1_36 : decode method_2_code 36 = .ok (.iload_n 0, 1) := by decide +kernel
theorem d1_37 : decode method_2_code 37 = .ok (.bipush 54, 2) := by decide +kernel
theorem d1_39 : decode method_2_code 39 = .ok (.if_icmp .eq 21, 3) := by decide +kernel
theorem d1_42 : decode method_2_code 42 = .ok (.iload_n 0, 1) := by decide +kernel
theorem d1_43 : decode method_2_code 43 = .ok (.bipush 55, 2) := by decide +kernel
theorem d1_45 : decode method_2_code 45 = .ok (.if_icmp .eq 15, 3) := by decide +kernel
theorem d1_48 : decode method_2_code 48 = .ok (.iload_n 0, 1) := by decide +kernel
theorem d1_49 : decode method_2_code 49 = .ok (.bipush 56, 2) := by decide +kernel
theorem d1_51 : decode method_2_code 51 = .ok (.if_icmp .eq 9, 3) := by decide +kernel
theorem d1_54 : decode method_2_code 54 = .ok (.iload_n 0, 1) := by decide +kernel
theorem d1_55 : decode method_2_code 55 = .ok (.bipush 57, 2) := by decide +kernel
theorem d1_57 : decode method_2_code 57 = .ok (.if_icmp .ne 7, 3) := by decide +kernel
theorem d1_60 : decode method_2_code 60 = .ok (.iconst 1, 1) := by decide +kernel
theorem d1_61 : decode method_2_code 61 = .ok (.goto 4, 3) := by decide +kernel
theorem d1_64 : decode method_2_code 64 = .ok (.iconst 0, 1) := by decide +kernel
theorem d1_65 : decode method_2_code 65 = .ok (.ireturn, 1) := by decide +kernel
theorem pl_1 : plainFor (⟨"com/example/resolvent/resolvent/term/CharClassIsDecimalDigitPinLaw", "ref", "(I)Z"⟩ : MethodName) = true := plainFor_of_name (by first | (simp [plainName, overriddenIn]; done) | decide +kernel)
set_option maxRecDepth 65536 in
set_option maxHeartbeats 40000000 in
theorem rm2 (l : Launch) (Z : State) (a0 : Array Value) (hw : ∀ d ∈ tables_1, d.before a0 Z = true) (k : Int32) (h0 : Heap) (n0 : Nat) (Z0 : n0 ≤ h0.size)  :
    Met l Z (⟨"com/example/resolvent/resolvent/term/CharClassIsDecimalDigitPinLaw", "ref", "(I)Z"⟩ : MethodName) method_2_code 1 (Option.some FieldType.boolean) [] ({ frames := 0, cells := 0, slots := 0, locals := 0 } : Room) #[(.int k)] h0 n0 (fun v h => v = some (.int (digit k)) ∧ h0 = h) := by
  refine Met.of (Ls0 := #[.val (.int k)]) pl_1 (by first | rfl | simp [argsToLocals, Value.category]) ?_
  intro p e s m below meth c hx hby hml hret hlk hown hnm hZ
  refine Go.iloadN (q := 1) hx (hb hby d1_0) rfl rfl ?_
  refine Go.bipush (q := 3) (z := (48 : Int32)) hx (hb hby d1_1) rfl rfl ?_
  refine Go.icmp_eq (q := 6) (t := 60) hx (hb hby d1_3) (by decide) rfl rfl (fun hc3 => ?_) (fun hc3 => ?_)
  · skip
    refine Go.iconst (q := 61) (z := (1 : Int32)) hx (hb hby d1_60) rfl rfl ?_
    refine Go.goto (q := 65) hx (hb hby d1_61) (by decide) rfl ?_
    refine Go.retN hx (t := .boolean) hret (by simp) hlk (hb hby d1_65) (by decide) (by decide) ?_
    subst hc3; exact ⟨rfl, rfl⟩
  · skip
    refine Go.iloadN (q := 7) hx (hb hby d1_6) rfl rfl ?_
    refine Go.bipush (q := 9) (z := (49 : Int32)) hx (hb hby d1_7) rfl rfl ?_
    refine Go.icmp_eq (q := 12) (t := 60) hx (hb hby d1_9) (by decide) rfl rfl (fun hc9 => ?_) (fun hc9 => ?_)
    · skip
      refine Go.iconst (q := 61) (z := (1 : Int32)) hx (hb hby d1_60) rfl rfl ?_
      refine Go.goto (q := 65) hx (hb hby d1_61) (by decide) rfl ?_
      refine Go.retN hx (t := .boolean) hret (by simp) hlk (hb hby d1_65) (by decide) (by decide) ?_
      subst hc9; exact ⟨rfl, rfl⟩
    · skip
      refine Go.iloadN (q := 13) hx (hb hby d1_12) rfl rfl ?_
      refine Go.bipush (q := 15) (z := (50 : Int32)) hx (hb hby d1_13) rfl rfl ?_
      refine Go.icmp_eq (q := 18) (t := 60) hx (hb hby d1_15) (by decide) rfl rfl (fun hc15 => ?_) (fun hc15 => ?_)
      · skip
        refine Go.iconst (q := 61) (z := (1 : Int32)) hx (hb hby d1_60) rfl rfl ?_
        refine Go.goto (q := 65) hx (hb hby d1_61) (by decide) rfl ?_
        refine Go.retN hx (t := .boolean) hret (by simp) hlk (hb hby d1_65) (by decide) (by decide) ?_
        subst hc15; exact ⟨rfl, rfl⟩
      · skip
        refine Go.iloadN (q := 19) hx (hb hby d1_18) rfl rfl ?_
        refine Go.bipush (q := 21) (z := (51 : Int32)) hx (hb hby d1_19) rfl rfl ?_
        refine Go.icmp_eq (q := 24) (t := 60) hx (hb hby d1_21) (by decide) rfl rfl (fun hc21 => ?_) (fun hc21 => ?_)
        · skip
          refine Go.iconst (q := 61) (z := (1 : Int32)) hx (hb hby d1_60) rfl rfl ?_
          refine Go.goto (q := 65) hx (hb hby d1_61) (by decide) rfl ?_
          refine Go.retN hx (t := .boolean) hret (by simp) hlk (hb hby d1_65) (by decide) (by decide) ?_
          subst hc21; exact ⟨rfl, rfl⟩
        · skip
          refine Go.iloadN (q := 25) hx (hb hby d1_24) rfl rfl ?_
          refine Go.bipush (q := 27) (z := (52 : Int32)) hx (hb hby d1_25) rfl rfl ?_
          refine Go.icmp_eq (q := 30) (t := 60) hx (hb hby d1_27) (by decide) rfl rfl (fun hc27 => ?_) (fun hc27 => ?_)
          · skip
            refine Go.iconst (q := 61) (z := (1 : Int32)) hx (hb hby d1_60) rfl rfl ?_
            refine Go.goto (q := 65) hx (hb hby d1_61) (by decide) rfl ?_
            refine Go.retN hx (t := .boolean) hret (by simp) hlk (hb hby d1_65) (by decide) (by decide) ?_
            subst hc27; exact ⟨rfl, rfl⟩
          · skip
            refine Go.iloadN (q := 31) hx (hb hby d1_30) rfl rfl ?_
            refine Go.bipush (q := 33) (z := (53 : Int32)) hx (hb hby d1_31) rfl rfl ?_
            refine Go.icmp_eq (q := 36) (t := 60) hx (hb hby d1_33) (by decide) rfl rfl (fun hc33 => ?_) (fun hc33 => ?_)
            · skip
              refine Go.iconst (q := 61) (z := (1 : Int32)) hx (hb hby d1_60) rfl rfl ?_
              refine Go.goto (q := 65) hx (hb hby d1_61) (by decide) rfl ?_
              refine Go.retN hx (t := .boolean) hret (by simp) hlk (hb hby d1_65) (by decide) (by decide) ?_
              subst hc33; exact ⟨rfl, rfl⟩
            · skip
              refine Go.iloadN (q := 37) hx (hb hby d1_36) rfl rfl ?_
              refine Go.bipush (q := 39) (z := (54 : Int32)) hx (hb hby d1_37) rfl rfl ?_
              refine Go.icmp_eq (q := 42) (t := 60) hx (hb hby d1_39) (by decide) rfl rfl (fun hc39 => ?_) (fun hc39 => ?_)
              · skip
                refine Go.iconst (q := 61) (z := (1 : Int32)) hx (hb hby d1_60) rfl rfl ?_
                refine Go.goto (q := 65) hx (hb hby d1_61) (by decide) rfl ?_
                refine Go.retN hx (t := .boolean) hret (by simp) hlk (hb hby d1_65) (by decide) (by decide) ?_
                subst hc39; exact ⟨rfl, rfl⟩
              · skip
                refine Go.iloadN (q := 43) hx (hb hby d1_42) rfl rfl ?_
                refine Go.bipush (q := 45) (z := (55 : Int32)) hx (hb hby d1_43) rfl rfl ?_
                refine Go.icmp_eq (q := 48) (t := 60) hx (hb hby d1_45) (by decide) rfl rfl (fun hc45 => ?_) (fun hc45 => ?_)
                · skip
                  refine Go.iconst (q := 61) (z := (1 : Int32)) hx (hb hby d1_60) rfl rfl ?_
                  refine Go.goto (q := 65) hx (hb hby d1_61) (by decide) rfl ?_
                  refine Go.retN hx (t := .boolean) hret (by simp) hlk (hb hby d1_65) (by decide) (by decide) ?_
                  subst hc45; exact ⟨rfl, rfl⟩
                · skip
                  refine Go.iloadN (q := 49) hx (hb hby d1_48) rfl rfl ?_
                  refine Go.bipush (q := 51) (z := (56 : Int32)) hx (hb hby d1_49) rfl rfl ?_
                  refine Go.icmp_eq (q := 54) (t := 60) hx (hb hby d1_51) (by decide) rfl rfl (fun hc51 => ?_) (fun hc51 => ?_)
                  · skip
                    refine Go.iconst (q := 61) (z := (1 : Int32)) hx (hb hby d1_60) rfl rfl ?_
                    refine Go.goto (q := 65) hx (hb hby d1_61) (by decide) rfl ?_
                    refine Go.retN hx (t := .boolean) hret (by simp) hlk (hb hby d1_65) (by decide) (by decide) ?_
                    subst hc51; exact ⟨rfl, rfl⟩
                  · skip
                    refine Go.iloadN (q := 55) hx (hb hby d1_54) rfl rfl ?_
                    refine Go.bipush (q := 57) (z := (57 : Int32)) hx (hb hby d1_55) rfl rfl ?_
                    refine Go.icmp_ne (q := 60) (t := 64) hx (hb hby d1_57) (by decide) rfl rfl (fun hc57 => ?_) (fun hc57 => ?_)
                    · skip
                      refine Go.iconst (q := 65) (z := (0 : Int32)) hx (hb hby d1_64) rfl rfl ?_
                      refine Go.retN hx (t := .boolean) hret (by simp) hlk (hb hby d1_65) (by decide) (by decide) ?_
                      exact ⟨by rw [digit_no hc3 hc9 hc15 hc21 hc27 hc33 hc39 hc45 hc51 hc57]; rfl, rfl⟩
                    · skip
                      refine Go.iconst (q := 61) (z := (1 : Int32)) hx (hb hby d1_60) rfl rfl ?_
                      refine Go.goto (q := 65) hx (hb hby d1_61) (by decide) rfl ?_
                      refine Go.retN hx (t := .boolean) hret (by simp) hlk (hb hby d1_65) (by decide) (by decide) ?_
                      subst hc57; exact ⟨rfl, rfl⟩
theorem pl_2 : plainFor (⟨"com/example/resolvent/resolvent/term/CharClassIsDecimalDigitPinLaw", "law", "(II)Z"⟩ : MethodName) = true := plainFor_of_name (by first | (simp [plainName, overriddenIn]; done) | decide +kernel)
theorem pd_0 : parseMethodDescriptor "(I)Z" = some ⟨[.int], some .boolean⟩ := by decide +kernel
set_option maxRecDepth 65536 in
set_option maxHeartbeats 40000000 in
theorem rm0 (l : Launch) (Z : State) (a0 : Array Value) (hw : ∀ d ∈ tables_1, d.before a0 Z = true) (c1 k1 : Int32) (h0 : Heap) (n0 : Nat) (Z0 : n0 ≤ h0.size)  :
    Met l Z x code maxLocals ret tables_1 room_1 #[(.int c1), (.int k1)] h0 n0 (fun v h => v = some (.int 1)) := by
  refine Met.of (Ls0 := #[.val (.int c1), .val (.int k1), .unset, .unset, .unset]) pl_2 (by first | rfl | simp [argsToLocals, Value.category]) ?_
  intro p e s m below meth c hx hby hml hret hlk hown hnm hZ
  refine Go.bipush (q := 2) (z := (40 : Int32)) hx (hb hby at_0) rfl rfl ?_
  refine Go.iloadN (q := 3) hx (hb hby at_2) rfl rfl ?_
  refine Go.bipush (q := 5) (z := (31 : Int32)) hx (hb hby at_3) rfl rfl ?_
  refine Go.iand (q := 6) hx (hb hby at_5) rfl ?_
  refine Go.iadd (q := 7) hx (hb hby at_6) rfl ?_
  refine Go.istoreN (q := 8) (l' := #[.val (.int c1), .val (.int k1), .val (.int ((40 : Int32) + (k1 &&& (31 : Int32)))), .unset, .unset]) hx (hb hby at_7) rfl rfl ?_
  refine Go.iloadN (q := 9) hx (hb hby at_8) rfl rfl ?_
  refine Go.callS (q := 12) hx hZ (argsL := [(.int c1)]) (rest := []) hown (hw _ (List.mem_of_getElem? (i := 0) rfl)) (hw _ (List.mem_of_getElem? (i := 1) rfl)) (hw _ (List.mem_of_getElem? (i := 2) rfl)) (hw _ (List.mem_of_getElem? (i := 3) rfl)) (by decide) (rm1 l Z a0 hw c1 h0 n0 Z0) (by rw [hml]; rfl) pd_0 rfl rfl (hb hby at_9) rfl (by decide) (Nat.le_of_ble_eq_true rfl) (ce' := 0) (sl' := 0) rfl rfl (by decide) (by decide) (fun v1 h2 hQ3 => ?_)
  obtain ⟨rfl, rfl⟩ := hQ3
  show Go _ _ _ _ _ _ _ _ _ _ _ _ _ _ _ 0 0 12 #[.val (.int c1), .val (.int k1), .val (.int ((40 : Int32) + (k1 &&& (31 : Int32)))), .unset, .unset] [(.int (digit c1))]
  refine Go.iloadN (q := 13) hx (hb hby at_12) rfl rfl ?_
  refine Go.callS (q := 16) hx hZ (argsL := [(.int c1)]) (rest := [(.int (digit c1))]) hown (hw _ (List.mem_of_getElem? (i := 4) rfl)) (hw _ (List.mem_of_getElem? (i := 5) rfl)) (hw _ (List.mem_of_getElem? (i := 6) rfl)) (hw _ (List.mem_of_getElem? (i := 7) rfl)) (by decide) (rm2 l Z a0 hw c1 h0 n0 Z0) (by rw [hml]; rfl) pd_0 rfl rfl (hb hby at_13) rfl (by decide) (Nat.le_of_ble_eq_true rfl) (ce' := 0) (sl' := 0) rfl rfl (by decide) (by decide) (fun v4 h5 hQ6 => ?_)
  obtain ⟨rfl, rfl⟩ := hQ6
  show Go _ _ _ _ _ _ _ _ _ _ _ _ _ _ _ 0 0 16 #[.val (.int c1), .val (.int k1), .val (.int ((40 : Int32) + (k1 &&& (31 : Int32)))), .unset, .unset] [(.int (digit c1)), (.int (digit c1))]
  refine Go.icmp_ne (q := 19) (t := 23) hx (hb hby at_16) (by decide) rfl rfl (fun hc16 => absurd rfl hc16) (fun hc16 => ?_)
  refine Go.iconst (q := 20) (z := (1 : Int32)) hx (hb hby at_19) rfl rfl ?_
  refine Go.goto (q := 24) hx (hb hby at_20) (by decide) rfl ?_
  refine Go.istoreN (q := 25) (l' := #[.val (.int c1), .val (.int k1), .val (.int ((40 : Int32) + (k1 &&& (31 : Int32)))), .val (.int (1 : Int32)), .unset]) hx (hb hby at_24) rfl rfl ?_
  refine Go.iloadN (q := 26) hx (hb hby at_25) rfl rfl ?_
  refine Go.callS (q := 29) hx hZ (argsL := [(.int ((40 : Int32) + (k1 &&& (31 : Int32))))]) (rest := []) hown (hw _ (List.mem_of_getElem? (i := 0) rfl)) (hw _ (List.mem_of_getElem? (i := 1) rfl)) (hw _ (List.mem_of_getElem? (i := 2) rfl)) (hw _ (List.mem_of_getElem? (i := 3) rfl)) (by decide) (rm1 l Z a0 hw ((40 : Int32) + (k1 &&& (31 : Int32))) h0 n0 Z0) (by rw [hml]; rfl) pd_0 rfl rfl (hb hby at_26) rfl (by decide) (Nat.le_of_ble_eq_true rfl) (ce' := 0) (sl' := 0) rfl rfl (by decide) (by decide) (fun v7 h8 hQ9 => ?_)
  obtain ⟨rfl, rfl⟩ := hQ9
  show Go _ _ _ _ _ _ _ _ _ _ _ _ _ _ _ 0 0 29 #[.val (.int c1), .val (.int k1), .val (.int ((40 : Int32) + (k1 &&& (31 : Int32)))), .val (.int (1 : Int32)), .unset] [(.int (digit ((40 : Int32) + (k1 &&& (31 : Int32)))))]
  refine Go.iloadN (q := 30) hx (hb hby at_29) rfl rfl ?_
  refine Go.callS (q := 33) hx hZ (argsL := [(.int ((40 : Int32) + (k1 &&& (31 : Int32))))]) (rest := [(.int (digit ((40 : Int32) + (k1 &&& (31 : Int32)))))]) hown (hw _ (List.mem_of_getElem? (i := 4) rfl)) (hw _ (List.mem_of_getElem? (i := 5) rfl)) (hw _ (List.mem_of_getElem? (i := 6) rfl)) (hw _ (List.mem_of_getElem? (i := 7) rfl)) (by decide) (rm2 l Z a0 hw ((40 : Int32) + (k1 &&& (31 : Int32))) h0 n0 Z0) (by rw [hml]; rfl) pd_0 rfl rfl (hb hby at_30) rfl (by decide) (Nat.le_of_ble_eq_true rfl) (ce' := 0) (sl' := 0) rfl rfl (by decide) (by decide) (fun v10 h11 hQ12 => ?_)
  obtain ⟨rfl, rfl⟩ := hQ12
  show Go _ _ _ _ _ _ _ _ _ _ _ _ _ _ _ 0 0 33 #[.val (.int c1), .val (.int k1), .val (.int ((40 : Int32) + (k1 &&& (31 : Int32)))), .val (.int (1 : Int32)), .unset] [(.int (digit ((40 : Int32) + (k1 &&& (31 : Int32))))), (.int (digit ((40 : Int32) + (k1 &&& (31 : Int32)))))]
  refine Go.icmp_ne (q := 36) (t := 40) hx (hb hby at_33) (by decide) rfl rfl (fun hc33 => absurd rfl hc33) (fun hc33 => ?_)
  refine Go.iconst (q := 37) (z := (1 : Int32)) hx (hb hby at_36) rfl rfl ?_
  refine Go.goto (q := 41) hx (hb hby at_37) (by decide) rfl ?_
  refine Go.istore (q := 43) (l' := #[.val (.int c1), .val (.int k1), .val (.int ((40 : Int32) + (k1 &&& (31 : Int32)))), .val (.int (1 : Int32)), .val (.int (1 : Int32))]) hx (hb hby at_41) rfl rfl ?_
  refine Go.iloadN (q := 44) hx (hb hby at_43) rfl rfl ?_
  refine Go.if_eq (q := 47) (t := 56) hx (hb hby at_44) (by decide) rfl rfl (fun hc44 => absurd hc44 (by decide)) (fun hc44 => ?_)
  refine Go.iload (q := 49) hx (hb hby at_47) rfl rfl ?_
  refine Go.if_eq (q := 52) (t := 56) hx (hb hby at_49) (by decide) rfl rfl (fun hc49 => absurd hc49 (by decide)) (fun hc49 => ?_)
  refine Go.iconst (q := 53) (z := (1 : Int32)) hx (hb hby at_52) rfl rfl ?_
  refine Go.goto (q := 57) hx (hb hby at_53) (by decide) rfl ?_
  refine Go.retN hx (t := .boolean) hret (by simp) hlk (hb hby at_57) (by decide) (by decide) ?_
  rfl
set_option maxRecDepth 65536 in
set_option maxHeartbeats 40000000 in
theorem comes_1 {Post : Tables → Env → Array Value → State → Outcome → State → Prop} (hpost : ∀ tb e args s v u, (limb_1_1.after args s (.returned v) u = true ∧ limb_1_2.after args s (.returned v) u = true ∧ True) → FrameEnd s (.returned v) u (Jvm.fieldLocs frame_1_writes args s ++ Jvm.arrayLocs frame_1_arrays args s ++ Jvm.staticLocs frame_1_statics s) 0 0 → Post tb e args s (.returned v) u) :
    ArmFor flags0 classFile x code maxLocals ret World_1 tables_1 room_1 Calls_1 rest_1 Pre_1 Post := by
  intro l hfl _ _ p e ha hc hk s m args below hf hA hF happ hP
  obtain ⟨hcalls, hrest, hpre⟩ := hP
  obtain ⟨-, -, -, hnamed, -, -, -, hat⟩ := (Spec.applies_iff hf).mp happ
  obtain ⟨hg, hn⟩ := and_e (Cond.before_iff.mp (show (Jvm.Cond.and given_1 narrow_1).before args s = true from hpre))
  obtain ⟨hcnt, hk0⟩ := and_e hg
  obtain ⟨ha0, hk1⟩ := and_e hk0
  obtain ⟨w0, w1, rfl⟩ : ∃ w0 w1 : Value, args = #[w0, w1] := by
    have hs : args.size = 2 := by simpa [Cond.value, given_1] using hcnt
    obtain ⟨L⟩ := args
    match L, hs with
    | [w0, w1], _ => exact ⟨w0, w1, rfl⟩
  have hw := fun d (hd : d ∈ tables_1) => atoms_spec (ws := Jvm.Cond.code x code maxLocals ret :: tables_1) hat d (List.mem_cons_of_mem _ hd)
  have hfit : Fit s := fun {y c} hc i hi => by
    obtain ⟨ha, rfl⟩ := Array.getElem?_eq_some_iff.mp hc
    have q := List.all_eq_true.mp ((Array.all_eq_true_iff_forall_mem.mp hF) _ (Array.getElem_mem ha)) i (List.mem_range.mpr hi)
    simpa [Array.getElem?_eq_getElem hi] using q
  obtain ⟨i0, ei0⟩ := is_v ha0
  obtain rfl : w0 = (.int i0) := Option.some.inj ei0
  obtain ⟨i1, ei1⟩ := is_v hk1
  obtain rfl : w1 = (.int i1) := Option.some.inj ei1
  obtain ⟨n, o, h1, h2, h3, _, L, rfl, ⟨rfl, N⟩, hq⟩ := rm0 l s _ hw i0 i1 s.heap s.heap.size (Nat.le_refl _)  p e ha hc hk s m _ below hf ((Spec.applies_iff_loose hf).mp happ).1 ⟨rfl, State.Warmed39.refl s, rfl⟩ trivial
  refine ⟨n, _, h1, h2, h3, hpost _ _ _ _ _ _ ⟨Cond.after_iff.mpr rfl, Cond.after_iff.mpr (eq_i res_at (Term.int_eval (1)) rfl), trivial⟩ ⟨hq.1, hq.2.1, (hq.2.2.sift fun y hy => Or.inr (N y hy)).mono (by decide) (by decide)⟩⟩
theorem main_1_1 : Claimed_1_1 := comes_1 fun _ _ _ _ _ _ h hF => ⟨h.1, hF⟩
theorem main_1_2 : Claimed_1_2 := comes_1 fun _ _ _ _ _ _ h hF => ⟨h.2.1, hF⟩
end Jvm.Pilot.@@N@@
namespace Jvm.Pilot.@@N@@
open Jvm Jvm.ClassFile Sem Op Lib Jvm.Free Jvm.Stand Jvm.Pilot.@@N@@.Jvm.D
/-! MADE BY PROGRAM (witnessworld.py) out of the Statement's table words and the real class files: 9 classes; the members and pool entries that the words name. The judged class is class 1, her method 2. -/
namespace start1
open Jvm.ClassFile
def u (s : String) : CpInfo := .utf8 (stringToUtf16 s)
/-- a pool by its gaps: so many unusable entries, then the entry; so many at the end -/
def gap : Nat → List CpInfo → List CpInfo
  | 0, r => r
  | n + 1, r => .unusable :: gap n r
def poolList (es : List (Nat × CpInfo)) (last : Nat) : List CpInfo := es.foldr (fun e r => gap e.1 (e.2 :: r)) (gap last [])
def pool (es : List (Nat × CpInfo)) (last : Nat) : Array CpInfo := ⟨poolList es last⟩
def fileOf (pool : Array CpInfo) (this : Nat) (attrs : Array Attribute := #[]) (ms : Array MethodInfo := #[]) (fl : Nat := 33) (sup : Nat := 0) (ifs : Array Nat := #[]) (fds : Array FieldInfo := #[]) : ClassFile where
  minorVersion := 0
  majorVersion := 65
  constantPool := pool
  accessFlags := fl
  thisClass := this
  superClass := sup
  interfaces := ifs
  fields := fds
  methods := ms
  attributes := attrs
def plain (name : String) (sup : Option ClassId) : Class where
  name := name
  kind := .ordinary
  loader := none
  accessFlags := 33
  super := sup
  interfaces := #[]
  cf := none
  fields := #[]
  methods := #[]
  instanceTypes := #[]
  staticTypes := #[]
  resolved := #[]
  callSites := []
  init := .initialized
  statics := none
  mirror := none

def pool0 : Array CpInfo := pool [(5, u "<init>"), (0, u "()V"), (1, .class_ 10), (1, u "java/lang/Object")] 113

def k0m0 : Method := { name := "<init>", desc := "()V", sig := { parameters := [], returnType := none }, accessFlags := 1, code := none }
/-- java/lang/Object -/
def k0 : Class := { plain "java/lang/Object" none with
  accessFlags := 33
  interfaces := #[]
  cf := some (fileOf pool0 8 #[] #[{ accessFlags := 1, nameIndex := 5, descriptorIndex := 6, attributes := #[] }] 33 0 #[] #[])
  fields := #[]
  methods := #[k0m0]
  instanceTypes := #[]
  staticTypes := #[]
  resolved := Array.replicate 124 none
  statics := none }

def pool1 : Array CpInfo := pool [(2, .class_ 4), (1, u "java/lang/Object"), (0, u "<init>"), (0, u "()V"), (0, .methodref 8 9), (0, .class_ 10), (0, .nameAndType 11 12), (0, u "com/example/resolvent/resolvent/term/CharClass"), (0, u "isDecimalDigit"), (0, u "(I)Z"), (0, .methodref 14 15), (0, .class_ 16), (0, .nameAndType 17 12), (0, u "com/example/resolvent/resolvent/term/CharClassIsDecimalDigitPinLaw"), (0, u "ref"), (3, u "law"), (0, u "(II)Z")] 2

def k1m0 : Method := { name := "<init>", desc := "()V", sig := { parameters := [], returnType := none }, accessFlags := 2, code := none }
def k1c1 : Code := { maxStack := 2, maxLocals := 1, code := method_2_code, exceptionTable := #[], attributes := #[] }
def k1m1 : Method := { name := "ref", desc := "(I)Z", sig := { parameters := [.int], returnType := some .boolean }, accessFlags := 10, code := some k1c1 }
def k1c2 : Code := { maxStack := 3, maxLocals := 5, code := code, exceptionTable := #[], attributes := #[] }
def k1m2 : Method := { name := "law", desc := "(II)Z", sig := { parameters := [.int, .int], returnType := some .boolean }, accessFlags := 9, code := some k1c2 }
/-- com/example/resolvent/resolvent/term/CharClassIsDecimalDigitPinLaw -/
def k1 : Class := { plain "com/example/resolvent/resolvent/term/CharClassIsDecimalDigitPinLaw" (some 0) with
  accessFlags := 49
  interfaces := #[]
  cf := some (fileOf pool1 14 #[] #[{ accessFlags := 2, nameIndex := 5, descriptorIndex := 6, attributes := #[] }, { accessFlags := 10, nameIndex := 17, descriptorIndex := 12, attributes := #[] }, { accessFlags := 9, nameIndex := 21, descriptorIndex := 22, attributes := #[] }] 49 2 #[] #[])
  fields := #[]
  methods := #[k1m0, k1m1, k1m2]
  instanceTypes := #[]
  staticTypes := #[]
  resolved := Array.replicate 25 none
  statics := none }

def pool2 : Array CpInfo := pool [(2, .class_ 4), (1, u "java/lang/Object"), (0, u "<init>"), (0, u "()V"), (5, u "(I)Z"), (7, .class_ 21), (0, u "com/example/resolvent/resolvent/term/CharClass"), (35, u "GRAPHIC"), (0, u "Ljava/lang/String;"), (4, u "isDecimalDigit")] 27

def k2m0 : Method := { name := "<init>", desc := "()V", sig := { parameters := [], returnType := none }, accessFlags := 2, code := none }
def k2c1 : Code := { maxStack := 2, maxLocals := 1, code := prog_86_method_4_code, exceptionTable := #[], attributes := #[] }
def k2m1 : Method := { name := "isDecimalDigit", desc := "(I)Z", sig := { parameters := [.int], returnType := some .boolean }, accessFlags := 8, code := some k2c1 }
/-- com/example/resolvent/resolvent/term/CharClass -/
def k2 : Class := { plain "com/example/resolvent/resolvent/term/CharClass" (some 0) with
  accessFlags := 48
  interfaces := #[]
  cf := some (fileOf pool2 20 #[] #[{ accessFlags := 2, nameIndex := 5, descriptorIndex := 6, attributes := #[] }, { accessFlags := 8, nameIndex := 63, descriptorIndex := 12, attributes := #[] }] 48 2 #[] #[{ accessFlags := 26, nameIndex := 57, descriptorIndex := 58, attributes := #[] }])
  fields := #[{ name := "GRAPHIC", type := (.object "java/lang/String"), accessFlags := 26, slot := 0, constantValue := 0 }]
  methods := #[k2m0, k2m1]
  instanceTypes := #[]
  staticTypes := #[(.object "java/lang/String")]
  resolved := Array.replicate 91 none
  statics := none }

def pool3 : Array CpInfo := pool [(1, u "java/lang/Cloneable"), (0, .class_ 1), (0, u "java/lang/Object"), (0, .class_ 3)] 3

/-- java/lang/Cloneable -/
def k3 : Class := { plain "java/lang/Cloneable" (some 0) with
  accessFlags := 1537
  interfaces := #[]
  cf := some (fileOf pool3 2 #[] #[] 1537 4 #[] #[])
  fields := #[]
  methods := #[]
  instanceTypes := #[]
  staticTypes := #[]
  resolved := Array.replicate 8 none
  statics := none }

def pool4 : Array CpInfo := pool [(1, u "java/io/Serializable"), (0, .class_ 1), (0, u "java/lang/Object"), (0, .class_ 3)] 3

/-- java/io/Serializable -/
def k4 : Class := { plain "java/io/Serializable" (some 0) with
  accessFlags := 1537
  interfaces := #[]
  cf := some (fileOf pool4 2 #[] #[] 1537 4 #[] #[])
  fields := #[]
  methods := #[]
  instanceTypes := #[]
  staticTypes := #[]
  resolved := Array.replicate 8 none
  statics := none }

/-- the primitive byte -/
def k5 : Class := { plain "byte" none with kind := .primitive 'B', accessFlags := 0x411 }
/-- [B -/
def k6 : Class := { plain "[B" (some 0) with kind := .array 5 .byte, interfaces := #[3, 4], accessFlags := 1041 }

/-- the primitive int -/
def k7 : Class := { plain "int" none with kind := .primitive 'I', accessFlags := 0x411 }
/-- [I -/
def k8 : Class := { plain "[I" (some 0) with kind := .array 7 .int, interfaces := #[3, 4], accessFlags := 1041 }

def heap : Heap := #[]
def classes : Array Class := #[k0, k1, k2, k3, k4, k5, k6, k7, k8]
def interned : List (Array UInt16 × Addr) := []
def slotsUsed : Nat := 0
def theMethod : MethodId := ⟨1, 2⟩
def args0 : Array Value := #[.int 5, .int 300]
def aboutOver (below : List Frame) : State where
  vm := { classes := classes, interned := interned.toArray }
  heap := heap
  slotsUsed := slotsUsed
  threads := #[{ frames := .invoking theMethod args0 :: below }]
def below0 : List Frame := [.native { method := ⟨0, 0⟩, args := #[] }]
def about1 : State := aboutOver below0
def p0 : Program := .bare "" "" ""
def e0 : Env := launch0.env 0 0 0
theorem w_frames : about1.frames = Frame.invoking theMethod args0 :: below0 := rfl
set_option maxRecDepth 65536 in
theorem w_args : argsFit about1.vm theMethod args0 = true := by decide +kernel
set_option maxRecDepth 65536 in
theorem w_heap : heapFits about1 = true := by decide +kernel
set_option maxRecDepth 65536 in
theorem w_runnable : about1.curStatus? = some .runnable := by decide +kernel
set_option maxRecDepth 65536 in
theorem w_alone : about1.alone = true := by decide +kernel
set_option maxRecDepth 65536 in
theorem w_named : about1.methodNamed? x = some theMethod := by decide +kernel
set_option maxRecDepth 65536 in
theorem w_hears : about1.hears theMethod below0 = true := by decide +kernel
set_option maxRecDepth 65536 in
theorem w_ripe : about1.ripe theMethod args0 below0 = true := by decide +kernel
theorem w_running : about1.status = .running := rfl
set_option maxRecDepth 65536 in
theorem w_room : about1.hasRoom e0.platform room_1 = true :=
  launch0.hasRoom_least _ room_1 (by decide +kernel) (by decide +kernel) (by decide +kernel) (by decide +kernel) (by decide +kernel) (by decide +kernel)
theorem allAtoms_all (ts : List Jvm.Cond) (a : Array Jvm.Value) (st : Jvm.State) : (allAtoms ts).before a st = ts.all (fun c => c.before a st) := by
  induction ts with
  | nil => rfl
  | cons c t ih =>
    show (Jvm.Cond.and c (allAtoms t)).before a st = _
    rw [Jvm.Cond.before_and, ih, List.all_cons]
def words1 : List Jvm.Cond := Jvm.Cond.code x code maxLocals ret :: tables_1
/-- a 'code' word, met by the world's own term for the bytes: nothing is compared byte by byte -/
theorem code_word {y : MethodName} {bytes : ByteArray} {mx : Nat} {rt : Option FieldType} {a : Array Value} {s : State} {m : MethodId} {meth : Method} {c : Code} (h1 : s.methodNamed? y = some m) (h2 : s.vm.method? m = some meth) (h3 : meth.code = some c) (h4 : c.code = bytes)
    (h5 : (c.maxLocals == mx && c.exceptionTable.isEmpty && decide (c.maxStack ≤ mostOperands) && decide (meth.sig.returnType = rt) && !meth.locks && decide (parseMethodDescriptor y.desc = some meth.sig)) = true) : (Jvm.Cond.code y bytes mx rt).before a s = true := by
  simp only [Bool.and_eq_true, beq_iff_eq, Bool.not_eq_true', decide_eq_true_eq] at h5
  obtain ⟨⟨⟨⟨⟨g1, g2⟩, g3⟩, g4⟩, g5⟩, g6⟩ := h5
  simp [Cond.before, Cond.holds, Cond.value, h1, h2, h3, h4, g1, g2, g3, g4, g5, g6]
def isCode : Jvm.Cond → Bool
  | .code _ _ _ _ => true
  | _ => false
theorem all_split {L : List Jvm.Cond} {P : Jvm.Cond → Bool} (h1 : L.all (fun c => isCode c || P c) = true) (h2 : ∀ c ∈ L.filter isCode, P c = true) : L.all P = true := by
  refine List.all_eq_true.mpr fun c hc => ?_
  have h := List.all_eq_true.mp h1 c hc
  rcases Bool.eq_false_or_eq_true (isCode c) with hi | hi
  · exact h2 c (List.mem_filter.mpr ⟨hc, hi⟩)
  · simpa [hi] using h
set_option maxRecDepth 65536 in
theorem w_c0 : (Jvm.Cond.code x code maxLocals ret).before args0 about1 = true := code_word (m := ⟨1, 2⟩) (meth := k1m2) (c := k1c2) (by decide +kernel) rfl rfl rfl (by decide +kernel)
set_option maxRecDepth 65536 in
theorem w_c1 : (Jvm.Cond.code ({ cls := "com/example/resolvent/resolvent/term/CharClass", name := "isDecimalDigit", desc := "(I)Z" } : Jvm.MethodName) prog_86_method_4_code (1 : Nat) (Option.some Jvm.ClassFile.FieldType.boolean)).before args0 about1 = true := code_word (m := ⟨2, 1⟩) (meth := k2m1) (c := k2c1) (by decide +kernel) rfl rfl rfl (by decide +kernel)
set_option maxRecDepth 65536 in
theorem w_c2 : (Jvm.Cond.code ({ cls := "com/example/resolvent/resolvent/term/CharClassIsDecimalDigitPinLaw", name := "ref", desc := "(I)Z" } : Jvm.MethodName) method_2_code (1 : Nat) (Option.some Jvm.ClassFile.FieldType.boolean)).before args0 about1 = true := code_word (m := ⟨1, 1⟩) (meth := k1m1) (c := k1c1) (by decide +kernel) rfl rfl rfl (by decide +kernel)
def codes1 : List Jvm.Cond := [Jvm.Cond.code x code maxLocals ret, Jvm.Cond.code ({ cls := "com/example/resolvent/resolvent/term/CharClass", name := "isDecimalDigit", desc := "(I)Z" } : Jvm.MethodName) prog_86_method_4_code (1 : Nat) (Option.some Jvm.ClassFile.FieldType.boolean), Jvm.Cond.code ({ cls := "com/example/resolvent/resolvent/term/CharClassIsDecimalDigitPinLaw", name := "ref", desc := "(I)Z" } : Jvm.MethodName) method_2_code (1 : Nat) (Option.some Jvm.ClassFile.FieldType.boolean)]
set_option maxRecDepth 65536 in
theorem codes_eq : words1.filter isCode = codes1 := rfl
theorem w_codes : ∀ c ∈ words1.filter isCode, c.before args0 about1 = true := by
  rw [codes_eq]
  intro c hc
  simp only [codes1, List.mem_cons, List.not_mem_nil, or_false] at hc
  rcases hc with rfl | rfl | rfl
  · exact w_c0
  · exact w_c1
  · exact w_c2
set_option maxRecDepth 65536 in
theorem w_t1 : words1.all (fun c => isCode c || c.before args0 about1) = true := by decide +kernel
theorem w_tables : (allAtoms (Jvm.Cond.code x code maxLocals ret :: tables_1)).before args0 about1 = true := by
  rw [allAtoms_all]
  show words1.all (fun c => c.before args0 about1) = true
  refine all_split ?_ w_codes
  rw [w_t1]
set_option maxRecDepth 65536 in
theorem w_case : (Jvm.Cond.and given_1 narrow_1).before args0 about1 = true := by decide +kernel
theorem w_applies : (headSpec (Jvm.Cond.code x code maxLocals ret :: tables_1) room_1).applies x e0.platform about1 = true :=
  (Spec.applies_iff w_frames).mpr ⟨w_running, w_runnable, w_alone, w_named, w_hears, w_ripe, w_room, w_tables⟩
theorem atStart : AtStart classFile x code maxLocals ret World_1 tables_1 room_1 Calls_1 rest_1 Pre_1 launch0 p0 e0 about1 theMethod args0 below0 :=
  ⟨lists_1, trivial, launch0.admits_env _ _ _, launch0.least_env, fairChoices_fair.cas, fairChoices_fair.clock, w_frames, w_args, w_heap, w_applies, trivial, trivial, w_case⟩
end start1
theorem witness_1 : WitnessClaimed_1 := ⟨start1.p0, start1.e0, start1.about1, start1.theMethod, start1.args0, start1.below0, start1.atStart⟩
end Jvm.Pilot.@@N@@
