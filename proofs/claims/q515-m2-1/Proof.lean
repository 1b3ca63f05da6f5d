import JvmDerived
import JvmDerived.Pilot.@@N@@Statement
import JvmDerived.Pilot.@@N@@Code
set_option linter.unusedVariables false
set_option linter.unusedSimpArgs false
@@BLOCK:NumsL.lean.txt@@
namespace Jvm.Pilot.@@N@@
open Jvm Jvm.ClassFile Sem Op Lib Jvm.Free Jvm.Stand Jvm.LawKit Jvm.RoadKit Bundle Jvm.Pilot.@@N@@.Jvm.D
section OwnKit
variable {p : Program} {l : Launch} {e : Env} {R : Room} {s : State} {m : MethodId} {args : Array Value} {below : List Frame} {meth : Method} {c : Code} {n0 C N : Nat} {Q : Option Value → Heap → Prop} {h : Heap} {ce sl pc q : Nat} {Ls : Array Slot} {st : List Value} {Z : State} {a0 : Array Value} {EL : List (String × Nat)} {hh0 : Heap} {SF : List Addr}
theorem wZ {vm0 : Vm} {k0 : Nat} (hZ : Z.Warmed39 s.vm) (hS : s.Since vm0 k0) : Z.Warmed39 (s.setVm vm0).vm := State.Warmed39.trans (t := s) hZ hS.1
theorem wO {vm0 : Vm} {k0 : Nat} {own : String} (hown : s.vm.findClass own = some m.cls) (hS : s.Since vm0 k0) : (s.setVm vm0).vm.findClass own = some m.cls := by
  show vm0.findClass own = _
  rw [hS.1.alike.findClass]; exact hown
theorem safe_new {vm : Vm} {h' : Heap} {a : Addr} (H : CHv Z EL vm h) (E : Ext h h') (ha : h.size ≤ a) : Safe Z EL vm h' a := fun B => Safe.new ha ((H.step fun _ _ _ q => E.2 _ _ q).2 _ B)
/-- the walk that stands at pc, with these locals, this stack and this heap, comes to its end as Q says (wide: it may load String constants; EL: the entries whose texts are held; SF: the cells that are no constant's) -/
def Go (p : Program) (l : Launch) (e : Env) (R : Room) (s : State) (m : MethodId) (args : Array Value) (below : List Frame) (meth : Method) (c : Code) (n0 C N : Nat) (Q : Option Value → Heap → Prop) (Z : State) (a0 : Array Value) (EL : List (String × Nat)) (hh0 : Heap) (SF : List Addr) (h : Heap) (ce sl pc : Nat) (Ls : Array Slot) (st : List Value) : Prop :=
  ∀ (T : State) (vm0 : Vm) (locs : List Loc) (k0 : Nat), Z.Warmed39 s.vm → EW Z a0 EL → Stand p l e R (s.setVm vm0) m args below meth c T locs ce sl → s.Since vm0 k0 → k0 ≤ h.size → CHr Z EL s.vm hh0 vm0 h → (∀ x ∈ SF, x < h.size ∧ Safe Z EL vm0 h x) → Fr n0 locs → T.heap = h →
    ∃ (s₂ : State) (v : Option Value) (L : List Loc), Steps p.tables e below (T.setTop (mkF m pc Ls st)) s₂ ∧ s₂.status = .running ∧ Ended s₂ below (.returned v) ∧ (Q v s₂.heap ∧ Fr n0 L) ∧ CHr Z EL s.vm hh0 s₂.vm s₂.heap ∧ ReturnedEndW s (.returned v) s₂ L C N
/-- a method's contract, at given arguments and a given heap -/
abbrev Met (l : Launch) (Z : State) (EL : List (String × Nat)) (SF : List Addr) (y : MethodName) (bytes : ByteArray) (maxL : Nat) (rt : Option FieldType) (ws : List Cond) (rm : Room) (as : Array Value) (h0 : Heap) (n0 : Nat) (Q : Option Value → Heap → Prop) : Prop :=
  MetFree l y (head1 (Cond.code y bytes maxL rt :: ws) rm) (fun a U => a = as ∧ Z.Warmed39 U.vm ∧ U.heap = h0 ∧ CHv Z EL U.vm h0 ∧ ∀ x ∈ SF, x < h0.size ∧ Safe Z EL U.vm h0 x) (fun _ _ _ _ _ => True) (fun _ U o U' => ∃ v L, o = .returned v ∧ (Q v U'.heap ∧ Fr n0 L) ∧ CHr Z EL U.vm U.heap U'.vm U'.heap ∧ ReturnedEndW U o U' L rm.cells rm.slots)
theorem Met.of {y : MethodName} {bytes : ByteArray} {maxL : Nat} {rt : Option FieldType} {ws : List Cond} {rm : Room} {as : Array Value} {h0 : Heap} {Ls0 : Array Slot} (hpl : plainFor y = true) (hent : argsToLocals as maxL = Ls0) (hel : EW Z a0 EL)
    (body : ∀ (p : Program) (e : Env) (s : State) (m : MethodId) (below : List Frame) (meth : Method) (c : Code), p.tables.exec = Jvm.exec → c.code = bytes → c.maxLocals = maxL → meth.sig.returnType = rt → meth.locks = false → s.vm.findClass y.cls = some m.cls → meth.name = y.name → Z.Warmed39 s.vm →
      Go p l e rm s m as below meth c n0 rm.cells rm.slots Q Z a0 EL h0 SF h0 0 0 0 Ls0 []) : Met l Z EL SF y bytes maxL rt ws rm as h0 n0 Q := by
  refine MetFree.of_bodySF hpl hisR ?_
  intro p e s m args below meth c s₁ Bd hml0 hP hK
  obtain ⟨rfl, hZ, hh, hCH, hSF⟩ := hP
  have e0 : s₁.heap = h0 := by rw [← hh, Bd.state]; rfl
  obtain ⟨s₂, v, L, S, r1, r2, hq, hc, fe⟩ := body p e s m below meth c Bd.exec Bd.bytes hml0 Bd.returns Bd.notSynchronized (findClass_of_methodNamed Bd.named) (name_of_methodNamed Bd.named Bd.method).1 hZ s₁ s.vm [] h0.size hZ hel (Stand.of_body Bd) ((State.WarmedH.refl s).since _) (Nat.le_refl _) (CHr.refl hCH) hSF (Fr.nil _) e0
  have ef : entryFrame m args maxL = mkF m 0 Ls0 [] := by simp only [entryFrame, mkF, hent]
  exact ⟨s₂, _, castTop ef S, r1, r2, v, L, rfl, hq, by rw [hh]; exact hc, fe⟩
theorem backOfSF {vm0 : Vm} {y : MethodName} {bytes : ByteArray} {maxL : Nat} {ret : Option FieldType} {rm : Room} {len W : Nat} {SFc : List Addr} {as' : Array Value} {Q : Option Value → Heap → List Loc → Prop}
    (hM : MetFree l y (head1 [Cond.code y bytes maxL ret] rm) (fun a U => a = as' ∧ Z.Warmed39 U.vm ∧ U.heap = h ∧ CHv Z EL U.vm h ∧ ∀ x ∈ SFc, x < h.size ∧ Safe Z EL U.vm h x) (fun _ _ _ _ _ => True) (fun _ U o U' => ∃ v L, o = .returned v ∧ Q v U'.heap L ∧ CHr Z EL U.vm U.heap U'.vm U'.heap ∧ ReturnedEndW U o U' L rm.cells rm.slots))
    (hZ : Z.Warmed39 vm0) (wc : (Cond.code y bytes maxL ret).before a0 Z = true) (wz : (Cond.initialized y.cls).before a0 Z = true) (hf : rm.frames + 1 ≤ R.frames) (hl : W + (maxL + 11) + rm.locals ≤ R.locals) (hEL : EW Z a0 EL) (hSF : ∀ x ∈ SFc, x < h.size ∧ Safe Z EL vm0 h x) (H : CHv Z EL vm0 h) :
    BackS l R p e below (s.setVm vm0) args y len W (fun A a => a = as' ∧ A.U.heap = h ∧ A.cells + rm.cells ≤ R.cells ∧ A.slots + rm.slots ≤ R.slots)
      (fun A _ v B => ∃ L, Q v B.U.heap L ∧ B.locs = A.locs ++ L ∧ B.cells = A.cells + rm.cells ∧ B.slots = A.slots + rm.slots ∧ CHr Z EL vm0 h B.U.vm B.U.heap) :=
  BackS.of_freeW (bytes := bytes) (maxL := maxL) (ret := ret) (E := fun _ first o t L k n => k = rm.cells ∧ n = rm.slots ∧ (∃ v, o = .returned v ∧ Q v t.heap L) ∧ CHr Z EL first.vm first.heap t.vm t.heap) hM hf hl
    (fun m meth c A a Y hp => have hU : Z.Warmed39 A.U.vm := wtrans (s := s.setVm vm0) hZ Y.warmed
      ⟨by show (Cond.and _ .tt).before a A.U = true; rw [Cond.before_and, mv hU wc]; rfl, mv hU wc, mv hU wz, hp.2.2.1, hp.2.2.2⟩)
    (fun m meth c A a g mk Y hp => ⟨hp.1, wtrans (s := s.setVm vm0) hZ Y.warmed, hp.2.1, (CHv.at Y hZ hEL H).1, fun x hx => ⟨(hSF x hx).1, (CHv.at Y hZ hEL H).safe (hSF x hx).1 (hSF x hx).2⟩⟩) (fun _ _ _ _ _ _ _ _ _ => trivial)
    (fun _ _ _ _ ⟨v, L, h1, h2, h3, h4⟩ => ⟨L, _, _, h4, rfl, rfl, ⟨v, h1, h2⟩, h3⟩)
    (fun m meth c A a g mk v t L k n Y hp _ _ ⟨e1, e2, ⟨v', e3, e4⟩, e5⟩ => by
      cases e3; subst e1 e2
      refine ⟨L, e4, rfl, rfl, rfl, (CHv.at Y hZ hEL H).trans ?_⟩
      rw [← hp.2.1]; exact e5)
theorem Go.mono {ce' sl' : Nat} (hc : ce ≤ ce') (hs : sl ≤ sl') (G : Go p l e R s m args below meth c n0 C N Q Z a0 EL hh0 SF h ce' sl' pc Ls st) : Go p l e R s m args below meth c n0 C N Q Z a0 EL hh0 SF h ce sl pc Ls st :=
  fun T vm0 locs k0 hz hel X => G T vm0 locs k0 hz hel (X.more hc hs)
theorem Go.step {q' : Nat} {Ls' : Array Slot} {st' : List Value} (H : ∀ (T : State) (vm0 : Vm) (k0 : Nat) (locs : List Loc) (target : State), Stand p l e R (s.setVm vm0) m args below meth c T locs ce sl → s.Since vm0 k0 → T.heap = h → Steps p.tables e below (T.setTop (mkF m q' Ls' st')) target → Steps p.tables e below (T.setTop (mkF m pc Ls st)) target)
    (G : Go p l e R s m args below meth c n0 C N Q Z a0 EL hh0 SF h ce sl q' Ls' st') : Go p l e R s m args below meth c n0 C N Q Z a0 EL hh0 SF h ce sl pc Ls st := fun T vm0 locs k0 hz hel X hS hk hC hF Nf eT => by
  obtain ⟨s₂, v, L, S, r⟩ := G T vm0 locs k0 hz hel X hS hk hC hF Nf eT
  exact ⟨s₂, v, L, H T vm0 k0 locs s₂ X hS eT S, r⟩
theorem Go.law {ce' sl' q' : Nat} {Ls' : Array Slot} {st' : List Value} (H : ∀ (T : State) (vm0 : Vm) (k0 : Nat) (locs : List Loc), Stand p l e R (s.setVm vm0) m args below meth c T locs ce sl → s.Since vm0 k0 → T.heap = h → ∃ T', Stand p l e R (s.setVm vm0) m args below meth c T' locs ce' sl' ∧ T'.heap = h ∧ ∀ target, Steps p.tables e below (T'.setTop (mkF m q' Ls' st')) target → Steps p.tables e below (T.setTop (mkF m pc Ls st)) target)
    (G : Go p l e R s m args below meth c n0 C N Q Z a0 EL hh0 SF h ce' sl' q' Ls' st') : Go p l e R s m args below meth c n0 C N Q Z a0 EL hh0 SF h ce sl pc Ls st := fun T vm0 locs k0 hz hel X hS hk hC hF Nf eT => by
  obtain ⟨T', X', eT', hs⟩ := H T vm0 k0 locs X hS eT
  obtain ⟨s₂, v, L, S, r⟩ := G T' vm0 locs k0 hz hel X' hS hk hC hF Nf eT'
  exact ⟨s₂, v, L, hs _ S, r⟩
/-- over an Ext that makes a -/
theorem sf_ext {vm0 : Vm} {h' : Heap} {a : Addr} (hC : CHv Z EL vm0 h) (E : Ext h h') (hF : ∀ x ∈ SF, x < h.size ∧ Safe Z EL vm0 h x) (ha : a = h.size) (hlt : a < h'.size) : ∀ x ∈ a :: SF, x < h'.size ∧ Safe Z EL vm0 h' x := fun x hx => by
  rcases List.mem_cons.mp hx with rfl | hx
  · exact ⟨hlt, safe_new hC E (Nat.le_of_eq ha.symm)⟩
  · exact ⟨Nat.lt_of_lt_of_le (hF x hx).1 E.1, (CHr.ext E hC).safe (hF x hx).1 (hF x hx).2⟩
theorem sf_wr {vm0 : Vm} {h' : Heap} {a : Addr} {k : Nat} {v : Value} (hC : CHv Z EL vm0 h) (W : Wr h h' a k v) (ha : a ∈ SF) (hF : ∀ x ∈ SF, x < h.size ∧ Safe Z EL vm0 h x) : ∀ x ∈ SF, x < h'.size ∧ Safe Z EL vm0 h' x := fun x hx =>
  ⟨by rw [W.size]; exact (hF x hx).1, (CHr.wr W (hF a ha).2 hC).safe (hF x hx).1 (hF x hx).2⟩
theorem Go.iloadN (hx : p.tables.exec = Jvm.exec) {k : Fin 4} {v : Int32} (hd : decode c.code pc = .ok (.iload_n k, 1)) (hl : Ls[k.val]? = some (.val (.int v))) (hq : q = pc + 1) (G : Go p l e R s m args below meth c n0 C N Q Z a0 EL hh0 SF h ce sl q Ls (.int v :: st)) : Go p l e R s m args below meth c n0 C N Q Z a0 EL hh0 SF h ce sl pc Ls (st) := by
  subst hq
  exact Go.step (fun T vm0 k0 locs target X hS _ S => XS.iloadN X.here hx rfl hd hl S) G
theorem Go.iload (hx : p.tables.exec = Jvm.exec) {k : Nat} {v : Int32} (hd : decode c.code pc = .ok (.iload k, 2)) (hl : Ls[k]? = some (.val (.int v))) (hq : q = pc + 2) (G : Go p l e R s m args below meth c n0 C N Q Z a0 EL hh0 SF h ce sl q Ls (.int v :: st)) : Go p l e R s m args below meth c n0 C N Q Z a0 EL hh0 SF h ce sl pc Ls (st) := by
  subst hq
  exact Go.step (fun T vm0 k0 locs target X hS _ S => XS.iload X.here hx rfl hd hl S) G
theorem Go.aloadN (hx : p.tables.exec = Jvm.exec) {k : Fin 4} {v : Value} (hd : decode c.code pc = .ok (.aload_n k, 1)) (hl : Ls[k.val]? = some (.val v)) (hv : v.isRef = true) (hq : q = pc + 1) (G : Go p l e R s m args below meth c n0 C N Q Z a0 EL hh0 SF h ce sl q Ls (v :: st)) : Go p l e R s m args below meth c n0 C N Q Z a0 EL hh0 SF h ce sl pc Ls (st) := by
  subst hq
  exact Go.step (fun T vm0 k0 locs target X hS _ S => XS.aloadN X.here hx rfl hd hl hv S) G
theorem Go.aload (hx : p.tables.exec = Jvm.exec) {k : Nat} {v : Value} (hd : decode c.code pc = .ok (.aload k, 2)) (hl : Ls[k]? = some (.val v)) (hv : v.isRef = true) (hq : q = pc + 2) (G : Go p l e R s m args below meth c n0 C N Q Z a0 EL hh0 SF h ce sl q Ls (v :: st)) : Go p l e R s m args below meth c n0 C N Q Z a0 EL hh0 SF h ce sl pc Ls (st) := by
  subst hq
  exact Go.step (fun T vm0 k0 locs target X hS _ S => XS.aload X.here hx rfl hd hl hv S) G
theorem Go.lloadN (hx : p.tables.exec = Jvm.exec) {k : Fin 4} {v : Int64} (hd : decode c.code pc = .ok (.lload_n k, 1)) (hl : Ls[k.val]? = some (.val (.long v))) (hq : q = pc + 1) (G : Go p l e R s m args below meth c n0 C N Q Z a0 EL hh0 SF h ce sl q Ls (.long v :: st)) : Go p l e R s m args below meth c n0 C N Q Z a0 EL hh0 SF h ce sl pc Ls (st) := by
  subst hq
  exact Go.step (fun T vm0 k0 locs target X hS _ S => XT.lloadN X.here hx rfl hd hl S) G
theorem Go.lload (hx : p.tables.exec = Jvm.exec) {k : Nat} {v : Int64} (hd : decode c.code pc = .ok (.lload k, 2)) (hl : Ls[k]? = some (.val (.long v))) (hq : q = pc + 2) (G : Go p l e R s m args below meth c n0 C N Q Z a0 EL hh0 SF h ce sl q Ls (.long v :: st)) : Go p l e R s m args below meth c n0 C N Q Z a0 EL hh0 SF h ce sl pc Ls (st) := by
  subst hq
  exact Go.step (fun T vm0 k0 locs target X hS _ S => XT.lload X.here hx rfl hd hl S) G
theorem Go.istoreN (hx : p.tables.exec = Jvm.exec) {k : Fin 4} {x : Int32} {l' : Array Slot} (hd : decode c.code pc = .ok (.istore_n k, 1)) (hl : storeLocals Ls k.val (.int x) = some l') (hq : q = pc + 1) (G : Go p l e R s m args below meth c n0 C N Q Z a0 EL hh0 SF h ce sl q l' (st)) : Go p l e R s m args below meth c n0 C N Q Z a0 EL hh0 SF h ce sl pc Ls (.int x :: st) := by
  subst hq
  exact Go.step (fun T vm0 k0 locs target X hS _ S => XS.istoreN X.here hx rfl hd rfl hl S) G
theorem Go.istore (hx : p.tables.exec = Jvm.exec) {k : Nat} {x : Int32} {l' : Array Slot} (hd : decode c.code pc = .ok (.istore k, 2)) (hl : storeLocals Ls k (.int x) = some l') (hq : q = pc + 2) (G : Go p l e R s m args below meth c n0 C N Q Z a0 EL hh0 SF h ce sl q l' (st)) : Go p l e R s m args below meth c n0 C N Q Z a0 EL hh0 SF h ce sl pc Ls (.int x :: st) := by
  subst hq
  exact Go.step (fun T vm0 k0 locs target X hS _ S => XS.istore X.here hx rfl hd rfl hl S) G
theorem Go.lstoreN (hx : p.tables.exec = Jvm.exec) {k : Fin 4} {x : Int64} {l' : Array Slot} (hd : decode c.code pc = .ok (.lstore_n k, 1)) (hl : storeLocals Ls k.val (.long x) = some l') (hq : q = pc + 1) (G : Go p l e R s m args below meth c n0 C N Q Z a0 EL hh0 SF h ce sl q l' (st)) : Go p l e R s m args below meth c n0 C N Q Z a0 EL hh0 SF h ce sl pc Ls (.long x :: st) := by
  subst hq
  exact Go.step (fun T vm0 k0 locs target X hS _ S => XT.lstoreN X.here hx rfl hd rfl hl S) G
theorem Go.lstore (hx : p.tables.exec = Jvm.exec) {k : Nat} {x : Int64} {l' : Array Slot} (hd : decode c.code pc = .ok (.lstore k, 2)) (hl : storeLocals Ls k (.long x) = some l') (hq : q = pc + 2) (G : Go p l e R s m args below meth c n0 C N Q Z a0 EL hh0 SF h ce sl q l' (st)) : Go p l e R s m args below meth c n0 C N Q Z a0 EL hh0 SF h ce sl pc Ls (.long x :: st) := by
  subst hq
  exact Go.step (fun T vm0 k0 locs target X hS _ S => XT.lstore X.here hx rfl hd rfl hl S) G
theorem Go.astoreN (hx : p.tables.exec = Jvm.exec) {k : Fin 4} {x : Value} {l' : Array Slot} (hd : decode c.code pc = .ok (.astore_n k, 1)) (hv : x.isRef = true) (hl : storeLocals Ls k.val x = some l') (hq : q = pc + 1) (G : Go p l e R s m args below meth c n0 C N Q Z a0 EL hh0 SF h ce sl q l' (st)) : Go p l e R s m args below meth c n0 C N Q Z a0 EL hh0 SF h ce sl pc Ls (x :: st) := by
  subst hq
  exact Go.step (fun T vm0 k0 locs target X hS _ S => XS.astoreN X.here hx rfl hd rfl hv hl S) G
theorem Go.astore (hx : p.tables.exec = Jvm.exec) {k : Nat} {x : Value} {l' : Array Slot} (hd : decode c.code pc = .ok (.astore k, 2)) (hv : x.isRef = true) (hl : storeLocals Ls k x = some l') (hq : q = pc + 2) (G : Go p l e R s m args below meth c n0 C N Q Z a0 EL hh0 SF h ce sl q l' (st)) : Go p l e R s m args below meth c n0 C N Q Z a0 EL hh0 SF h ce sl pc Ls (x :: st) := by
  subst hq
  exact Go.step (fun T vm0 k0 locs target X hS _ S => XS.astore X.here hx rfl hd rfl hv hl S) G
theorem Go.iinc (hx : p.tables.exec = Jvm.exec) {k : Nat} {cst : Int} {x : Int32} {l' : Array Slot} (hd : decode c.code pc = .ok (.iinc k cst, 3)) (hl : Ls[k]? = some (.val (.int x))) (hl' : storeLocals Ls k (.int (x + Int32.ofInt cst)) = some l') (hq : q = pc + 3) (G : Go p l e R s m args below meth c n0 C N Q Z a0 EL hh0 SF h ce sl q l' (st)) : Go p l e R s m args below meth c n0 C N Q Z a0 EL hh0 SF h ce sl pc Ls (st) := by
  subst hq
  exact Go.step (fun T vm0 k0 locs target X hS _ S => XS.iinc X.here hx rfl hd hl hl' S) G
theorem Go.iconst (hx : p.tables.exec = Jvm.exec) {i : Int} {z : Int32} (hd : decode c.code pc = .ok (.iconst i, 1)) (hz : Int32.ofInt i = z) (hq : q = pc + 1) (G : Go p l e R s m args below meth c n0 C N Q Z a0 EL hh0 SF h ce sl q Ls (.int z :: st)) : Go p l e R s m args below meth c n0 C N Q Z a0 EL hh0 SF h ce sl pc Ls (st) := by
  subst hq
  exact Go.step (fun T vm0 k0 locs target X hS _ S => XS.iconst X.here hx rfl hd (by rw [hz]; exact S)) G
theorem Go.bipush (hx : p.tables.exec = Jvm.exec) {i : Int} {z : Int32} (hd : decode c.code pc = .ok (.bipush i, 2)) (hz : (Int8.ofInt i).toInt32 = z) (hq : q = pc + 2) (G : Go p l e R s m args below meth c n0 C N Q Z a0 EL hh0 SF h ce sl q Ls (.int z :: st)) : Go p l e R s m args below meth c n0 C N Q Z a0 EL hh0 SF h ce sl pc Ls (st) := by
  subst hq
  exact Go.step (fun T vm0 k0 locs target X hS _ S => XS.bipush X.here hx rfl hd (by rw [hz]; exact S)) G
theorem Go.sipush (hx : p.tables.exec = Jvm.exec) {i : Int} {z : Int32} (hd : decode c.code pc = .ok (.sipush i, 3)) (hz : (Int16.ofInt i).toInt32 = z) (hq : q = pc + 3) (G : Go p l e R s m args below meth c n0 C N Q Z a0 EL hh0 SF h ce sl q Ls (.int z :: st)) : Go p l e R s m args below meth c n0 C N Q Z a0 EL hh0 SF h ce sl pc Ls (st) := by
  subst hq
  exact Go.step (fun T vm0 k0 locs target X hS _ S => XS.sipush X.here hx rfl hd (by rw [hz]; exact S)) G
theorem Go.aconstNull (hx : p.tables.exec = Jvm.exec)  (hd : decode c.code pc = .ok (.aconst_null, 1))  (hq : q = pc + 1) (G : Go p l e R s m args below meth c n0 C N Q Z a0 EL hh0 SF h ce sl q Ls (.null :: st)) : Go p l e R s m args below meth c n0 C N Q Z a0 EL hh0 SF h ce sl pc Ls (st) := by
  subst hq
  exact Go.step (fun T vm0 k0 locs target X hS _ S => XS.aconstNull X.here hx rfl hd S) G
theorem Go.lconst (hx : p.tables.exec = Jvm.exec) {k : Fin 2} {z : Int64} (hd : decode c.code pc = .ok (.lconst k, 1)) (hz : Int64.ofNat k = z) (hq : q = pc + 1) (G : Go p l e R s m args below meth c n0 C N Q Z a0 EL hh0 SF h ce sl q Ls (.long z :: st)) : Go p l e R s m args below meth c n0 C N Q Z a0 EL hh0 SF h ce sl pc Ls (st) := by
  subst hq
  exact Go.step (fun T vm0 k0 locs target X hS _ S => XT.lconst X.here hx rfl hd (by rw [hz]; exact S)) G
theorem Go.ldcInt (hx : p.tables.exec = Jvm.exec) (hZ : Z.Warmed39 s.vm) {own : String} {index : Nat} {v : Int32} (hown : s.vm.findClass own = some m.cls) (hw : (Cond.constant own index v).before a0 Z = true) (hd : decode c.code pc = .ok (.ldc index, 2)) (hq : q = pc + 2) (G : Go p l e R s m args below meth c n0 C N Q Z a0 EL hh0 SF h ce sl q Ls (.int v :: st)) : Go p l e R s m args below meth c n0 C N Q Z a0 EL hh0 SF h ce sl pc Ls st := by
  subst hq
  exact Go.step (fun T vm0 k0 locs target X hS _ S => X.ldcInt hx (wO hown hS) (mvT (wZ hZ hS) hw) (g := mkF m pc Ls st) rfl hd target S) G
theorem Go.ldc2Long (hx : p.tables.exec = Jvm.exec) (hZ : Z.Warmed39 s.vm) {own : String} {index : Nat} {v : Int64} (hown : s.vm.findClass own = some m.cls) (hw : (Cond.constantLong own index v).before a0 Z = true) (hd : decode c.code pc = .ok (.ldc2_w index, 3)) (hq : q = pc + 3) (G : Go p l e R s m args below meth c n0 C N Q Z a0 EL hh0 SF h ce sl q Ls (.long v :: st)) : Go p l e R s m args below meth c n0 C N Q Z a0 EL hh0 SF h ce sl pc Ls st := by
  subst hq
  exact Go.step (fun T vm0 k0 locs target X hS _ S => X.ldc2Long hx (wO hown hS) (mvT (wZ hZ hS) hw) (g := mkF m pc Ls st) rfl hd target S) G
theorem Go.iadd (hx : p.tables.exec = Jvm.exec) {x y : Int32} (hd : decode c.code pc = .ok (.iadd, 1))  (hq : q = pc + 1) (G : Go p l e R s m args below meth c n0 C N Q Z a0 EL hh0 SF h ce sl q Ls (.int (x + y) :: st)) : Go p l e R s m args below meth c n0 C N Q Z a0 EL hh0 SF h ce sl pc Ls (.int y :: .int x :: st) := by
  subst hq
  exact Go.step (fun T vm0 k0 locs target X hS _ S => XS.iadd X.here hx rfl hd rfl S) G
theorem Go.isub (hx : p.tables.exec = Jvm.exec) {x y : Int32} (hd : decode c.code pc = .ok (.isub, 1))  (hq : q = pc + 1) (G : Go p l e R s m args below meth c n0 C N Q Z a0 EL hh0 SF h ce sl q Ls (.int (x - y) :: st)) : Go p l e R s m args below meth c n0 C N Q Z a0 EL hh0 SF h ce sl pc Ls (.int y :: .int x :: st) := by
  subst hq
  exact Go.step (fun T vm0 k0 locs target X hS _ S => XS.isub X.here hx rfl hd rfl S) G
theorem Go.iand (hx : p.tables.exec = Jvm.exec) {x y : Int32} (hd : decode c.code pc = .ok (.iand, 1))  (hq : q = pc + 1) (G : Go p l e R s m args below meth c n0 C N Q Z a0 EL hh0 SF h ce sl q Ls (.int (x &&& y) :: st)) : Go p l e R s m args below meth c n0 C N Q Z a0 EL hh0 SF h ce sl pc Ls (.int y :: .int x :: st) := by
  subst hq
  exact Go.step (fun T vm0 k0 locs target X hS _ S => XS.iand X.here hx rfl hd rfl S) G
theorem Go.imul (hx : p.tables.exec = Jvm.exec) {x y : Int32} (hd : decode c.code pc = .ok (.imul, 1))  (hq : q = pc + 1) (G : Go p l e R s m args below meth c n0 C N Q Z a0 EL hh0 SF h ce sl q Ls (.int (x * y) :: st)) : Go p l e R s m args below meth c n0 C N Q Z a0 EL hh0 SF h ce sl pc Ls (.int y :: .int x :: st) := by
  subst hq
  exact Go.step (fun T vm0 k0 locs target X hS _ S => XS.imul X.here hx rfl hd rfl S) G
theorem Go.idiv (hx : p.tables.exec = Jvm.exec) {x y : Int32} (hd : decode c.code pc = .ok (.idiv, 1)) (hy : y ≠ 0) (hq : q = pc + 1) (G : Go p l e R s m args below meth c n0 C N Q Z a0 EL hh0 SF h ce sl q Ls (.int (x / y) :: st)) : Go p l e R s m args below meth c n0 C N Q Z a0 EL hh0 SF h ce sl pc Ls (.int y :: .int x :: st) := by
  subst hq
  exact Go.step (fun T vm0 k0 locs target X hS _ S => XS.idiv X.here hx rfl hd rfl hy S) G
theorem Go.irem (hx : p.tables.exec = Jvm.exec) {x y : Int32} (hd : decode c.code pc = .ok (.irem, 1)) (hy : y ≠ 0) (hq : q = pc + 1) (G : Go p l e R s m args below meth c n0 C N Q Z a0 EL hh0 SF h ce sl q Ls (.int (x % y) :: st)) : Go p l e R s m args below meth c n0 C N Q Z a0 EL hh0 SF h ce sl pc Ls (.int y :: .int x :: st) := by
  subst hq
  exact Go.step (fun T vm0 k0 locs target X hS _ S => iremM X hx rfl hd rfl hy S) G
theorem Go.ineg (hx : p.tables.exec = Jvm.exec) {x : Int32} (hd : decode c.code pc = .ok (.ineg, 1))  (hq : q = pc + 1) (G : Go p l e R s m args below meth c n0 C N Q Z a0 EL hh0 SF h ce sl q Ls (.int (-x) :: st)) : Go p l e R s m args below meth c n0 C N Q Z a0 EL hh0 SF h ce sl pc Ls (.int x :: st) := by
  subst hq
  exact Go.step (fun T vm0 k0 locs target X hS _ S => XS.ineg X.here hx rfl hd rfl S) G
theorem Go.ixor (hx : p.tables.exec = Jvm.exec) {x y : Int32} (hd : decode c.code pc = .ok (.ixor, 1))  (hq : q = pc + 1) (G : Go p l e R s m args below meth c n0 C N Q Z a0 EL hh0 SF h ce sl q Ls (.int (x ^^^ y) :: st)) : Go p l e R s m args below meth c n0 C N Q Z a0 EL hh0 SF h ce sl pc Ls (.int y :: .int x :: st) := by
  subst hq
  exact Go.step (fun T vm0 k0 locs target X hS _ S => XT.ixor X.here hx rfl hd rfl S) G
theorem Go.ior (hx : p.tables.exec = Jvm.exec) {x y : Int32} (hd : decode c.code pc = .ok (.ior, 1))  (hq : q = pc + 1) (G : Go p l e R s m args below meth c n0 C N Q Z a0 EL hh0 SF h ce sl q Ls (.int (x ||| y) :: st)) : Go p l e R s m args below meth c n0 C N Q Z a0 EL hh0 SF h ce sl pc Ls (.int y :: .int x :: st) := by
  subst hq
  exact Go.step (fun T vm0 k0 locs target X hS _ S => XT.ior X.here hx rfl hd rfl S) G
theorem Go.ishl (hx : p.tables.exec = Jvm.exec) {x y : Int32} (hd : decode c.code pc = .ok (.ishl, 1))  (hq : q = pc + 1) (G : Go p l e R s m args below meth c n0 C N Q Z a0 EL hh0 SF h ce sl q Ls (.int (x <<< (y &&& 31)) :: st)) : Go p l e R s m args below meth c n0 C N Q Z a0 EL hh0 SF h ce sl pc Ls (.int y :: .int x :: st) := by
  subst hq
  exact Go.step (fun T vm0 k0 locs target X hS _ S => XT.ishl X.here hx rfl hd rfl S) G
theorem Go.ishr (hx : p.tables.exec = Jvm.exec) {x y : Int32} (hd : decode c.code pc = .ok (.ishr, 1))  (hq : q = pc + 1) (G : Go p l e R s m args below meth c n0 C N Q Z a0 EL hh0 SF h ce sl q Ls (.int (x >>> (y &&& 31)) :: st)) : Go p l e R s m args below meth c n0 C N Q Z a0 EL hh0 SF h ce sl pc Ls (.int y :: .int x :: st) := by
  subst hq
  exact Go.step (fun T vm0 k0 locs target X hS _ S => XT.ishr X.here hx rfl hd rfl S) G
theorem Go.iushr (hx : p.tables.exec = Jvm.exec) {x y : Int32} (hd : decode c.code pc = .ok (.iushr, 1))  (hq : q = pc + 1) (G : Go p l e R s m args below meth c n0 C N Q Z a0 EL hh0 SF h ce sl q Ls (.int (XT.ushr x y) :: st)) : Go p l e R s m args below meth c n0 C N Q Z a0 EL hh0 SF h ce sl pc Ls (.int y :: .int x :: st) := by
  subst hq
  exact Go.step (fun T vm0 k0 locs target X hS _ S => XT.iushr X.here hx rfl hd rfl S) G
theorem Go.ladd (hx : p.tables.exec = Jvm.exec) {x y : Int64} (hd : decode c.code pc = .ok (.ladd, 1))  (hq : q = pc + 1) (G : Go p l e R s m args below meth c n0 C N Q Z a0 EL hh0 SF h ce sl q Ls (.long (x + y) :: st)) : Go p l e R s m args below meth c n0 C N Q Z a0 EL hh0 SF h ce sl pc Ls (.long y :: .long x :: st) := by
  subst hq
  exact Go.step (fun T vm0 k0 locs target X hS _ S => XT.ladd X.here hx rfl hd rfl S) G
theorem Go.lsub (hx : p.tables.exec = Jvm.exec) {x y : Int64} (hd : decode c.code pc = .ok (.lsub, 1))  (hq : q = pc + 1) (G : Go p l e R s m args below meth c n0 C N Q Z a0 EL hh0 SF h ce sl q Ls (.long (x - y) :: st)) : Go p l e R s m args below meth c n0 C N Q Z a0 EL hh0 SF h ce sl pc Ls (.long y :: .long x :: st) := by
  subst hq
  exact Go.step (fun T vm0 k0 locs target X hS _ S => XT.lsub X.here hx rfl hd rfl S) G
theorem Go.lmul (hx : p.tables.exec = Jvm.exec) {x y : Int64} (hd : decode c.code pc = .ok (.lmul, 1))  (hq : q = pc + 1) (G : Go p l e R s m args below meth c n0 C N Q Z a0 EL hh0 SF h ce sl q Ls (.long (x * y) :: st)) : Go p l e R s m args below meth c n0 C N Q Z a0 EL hh0 SF h ce sl pc Ls (.long y :: .long x :: st) := by
  subst hq
  exact Go.step (fun T vm0 k0 locs target X hS _ S => XT.lmul X.here hx rfl hd rfl S) G
theorem Go.land (hx : p.tables.exec = Jvm.exec) {x y : Int64} (hd : decode c.code pc = .ok (.land, 1))  (hq : q = pc + 1) (G : Go p l e R s m args below meth c n0 C N Q Z a0 EL hh0 SF h ce sl q Ls (.long (x &&& y) :: st)) : Go p l e R s m args below meth c n0 C N Q Z a0 EL hh0 SF h ce sl pc Ls (.long y :: .long x :: st) := by
  subst hq
  exact Go.step (fun T vm0 k0 locs target X hS _ S => XT.land X.here hx rfl hd rfl S) G
theorem Go.lor (hx : p.tables.exec = Jvm.exec) {x y : Int64} (hd : decode c.code pc = .ok (.lor, 1))  (hq : q = pc + 1) (G : Go p l e R s m args below meth c n0 C N Q Z a0 EL hh0 SF h ce sl q Ls (.long (x ||| y) :: st)) : Go p l e R s m args below meth c n0 C N Q Z a0 EL hh0 SF h ce sl pc Ls (.long y :: .long x :: st) := by
  subst hq
  exact Go.step (fun T vm0 k0 locs target X hS _ S => XT.lor X.here hx rfl hd rfl S) G
theorem Go.lxor (hx : p.tables.exec = Jvm.exec) {x y : Int64} (hd : decode c.code pc = .ok (.lxor, 1))  (hq : q = pc + 1) (G : Go p l e R s m args below meth c n0 C N Q Z a0 EL hh0 SF h ce sl q Ls (.long (x ^^^ y) :: st)) : Go p l e R s m args below meth c n0 C N Q Z a0 EL hh0 SF h ce sl pc Ls (.long y :: .long x :: st) := by
  subst hq
  exact Go.step (fun T vm0 k0 locs target X hS _ S => XT.lxor X.here hx rfl hd rfl S) G
theorem Go.lshl (hx : p.tables.exec = Jvm.exec) {x : Int64} {y : Int32} (hd : decode c.code pc = .ok (.lshl, 1))  (hq : q = pc + 1) (G : Go p l e R s m args below meth c n0 C N Q Z a0 EL hh0 SF h ce sl q Ls (.long (x <<< (y.toInt64 &&& 63)) :: st)) : Go p l e R s m args below meth c n0 C N Q Z a0 EL hh0 SF h ce sl pc Ls (.int y :: .long x :: st) := by
  subst hq
  exact Go.step (fun T vm0 k0 locs target X hS _ S => XT.lshl X.here hx rfl hd rfl S) G
theorem Go.lshr (hx : p.tables.exec = Jvm.exec) {x : Int64} {y : Int32} (hd : decode c.code pc = .ok (.lshr, 1))  (hq : q = pc + 1) (G : Go p l e R s m args below meth c n0 C N Q Z a0 EL hh0 SF h ce sl q Ls (.long (x >>> (y.toInt64 &&& 63)) :: st)) : Go p l e R s m args below meth c n0 C N Q Z a0 EL hh0 SF h ce sl pc Ls (.int y :: .long x :: st) := by
  subst hq
  exact Go.step (fun T vm0 k0 locs target X hS _ S => XT.lshr X.here hx rfl hd rfl S) G
theorem Go.lushr (hx : p.tables.exec = Jvm.exec) {x : Int64} {y : Int32} (hd : decode c.code pc = .ok (.lushr, 1))  (hq : q = pc + 1) (G : Go p l e R s m args below meth c n0 C N Q Z a0 EL hh0 SF h ce sl q Ls (.long (XT.ushrL x y) :: st)) : Go p l e R s m args below meth c n0 C N Q Z a0 EL hh0 SF h ce sl pc Ls (.int y :: .long x :: st) := by
  subst hq
  exact Go.step (fun T vm0 k0 locs target X hS _ S => XT.lushr X.here hx rfl hd rfl S) G
theorem Go.lrem (hx : p.tables.exec = Jvm.exec) {x y : Int64} (hd : decode c.code pc = .ok (.lrem, 1)) (hy : y ≠ 0) (hq : q = pc + 1) (G : Go p l e R s m args below meth c n0 C N Q Z a0 EL hh0 SF h ce sl q Ls (.long (x - (x / y) * y) :: st)) : Go p l e R s m args below meth c n0 C N Q Z a0 EL hh0 SF h ce sl pc Ls (.long y :: .long x :: st) := by
  subst hq
  exact Go.step (fun T vm0 k0 locs target X hS _ S => XT.lrem X.here hx rfl hd rfl hy S) G
theorem Go.ldiv (hx : p.tables.exec = Jvm.exec) {x y : Int64} (hd : decode c.code pc = .ok (.ldiv, 1)) (hy : y ≠ 0) (hq : q = pc + 1) (G : Go p l e R s m args below meth c n0 C N Q Z a0 EL hh0 SF h ce sl q Ls (.long (x / y) :: st)) : Go p l e R s m args below meth c n0 C N Q Z a0 EL hh0 SF h ce sl pc Ls (.long y :: .long x :: st) := by
  subst hq
  exact Go.step (fun T vm0 k0 locs target X hS _ S => XT.ldiv X.here hx rfl hd rfl hy S) G
theorem Go.lneg (hx : p.tables.exec = Jvm.exec) {x : Int64} (hd : decode c.code pc = .ok (.lneg, 1))  (hq : q = pc + 1) (G : Go p l e R s m args below meth c n0 C N Q Z a0 EL hh0 SF h ce sl q Ls (.long (-x) :: st)) : Go p l e R s m args below meth c n0 C N Q Z a0 EL hh0 SF h ce sl pc Ls (.long x :: st) := by
  subst hq
  exact Go.step (fun T vm0 k0 locs target X hS _ S => XT.lneg X.here hx rfl hd rfl S) G
theorem Go.lcmp (hx : p.tables.exec = Jvm.exec) {x y : Int64} (hd : decode c.code pc = .ok (.lcmp, 1))  (hq : q = pc + 1) (G : Go p l e R s m args below meth c n0 C N Q Z a0 EL hh0 SF h ce sl q Ls (.int (XT.cmpL x y) :: st)) : Go p l e R s m args below meth c n0 C N Q Z a0 EL hh0 SF h ce sl pc Ls (.long y :: .long x :: st) := by
  subst hq
  exact Go.step (fun T vm0 k0 locs target X hS _ S => XT.lcmp X.here hx rfl hd rfl S) G
theorem Go.i2l (hx : p.tables.exec = Jvm.exec) {x : Int32} (hd : decode c.code pc = .ok (.i2l, 1))  (hq : q = pc + 1) (G : Go p l e R s m args below meth c n0 C N Q Z a0 EL hh0 SF h ce sl q Ls (.long (x.toInt64) :: st)) : Go p l e R s m args below meth c n0 C N Q Z a0 EL hh0 SF h ce sl pc Ls (.int x :: st) := by
  subst hq
  exact Go.step (fun T vm0 k0 locs target X hS _ S => XT.i2l X.here hx rfl hd rfl S) G
theorem Go.l2i (hx : p.tables.exec = Jvm.exec) {x : Int64} (hd : decode c.code pc = .ok (.l2i, 1))  (hq : q = pc + 1) (G : Go p l e R s m args below meth c n0 C N Q Z a0 EL hh0 SF h ce sl q Ls (.int (x.toInt32) :: st)) : Go p l e R s m args below meth c n0 C N Q Z a0 EL hh0 SF h ce sl pc Ls (.long x :: st) := by
  subst hq
  exact Go.step (fun T vm0 k0 locs target X hS _ S => XT.l2i X.here hx rfl hd rfl S) G
theorem Go.i2b (hx : p.tables.exec = Jvm.exec) {x : Int32} (hd : decode c.code pc = .ok (.i2b, 1))  (hq : q = pc + 1) (G : Go p l e R s m args below meth c n0 C N Q Z a0 EL hh0 SF h ce sl q Ls (.int (x.toInt8.toInt32) :: st)) : Go p l e R s m args below meth c n0 C N Q Z a0 EL hh0 SF h ce sl pc Ls (.int x :: st) := by
  subst hq
  exact Go.step (fun T vm0 k0 locs target X hS _ S => XT.i2b X.here hx rfl hd rfl S) G
theorem Go.i2c (hx : p.tables.exec = Jvm.exec) {x : Int32} (hd : decode c.code pc = .ok (.i2c, 1))  (hq : q = pc + 1) (G : Go p l e R s m args below meth c n0 C N Q Z a0 EL hh0 SF h ce sl q Ls (.int (x.toUInt32.toUInt16.toUInt32.toInt32) :: st)) : Go p l e R s m args below meth c n0 C N Q Z a0 EL hh0 SF h ce sl pc Ls (.int x :: st) := by
  subst hq
  exact Go.step (fun T vm0 k0 locs target X hS _ S => XT.i2c X.here hx rfl hd rfl S) G
theorem Go.i2s (hx : p.tables.exec = Jvm.exec) {x : Int32} (hd : decode c.code pc = .ok (.i2s, 1))  (hq : q = pc + 1) (G : Go p l e R s m args below meth c n0 C N Q Z a0 EL hh0 SF h ce sl q Ls (.int (x.toInt16.toInt32) :: st)) : Go p l e R s m args below meth c n0 C N Q Z a0 EL hh0 SF h ce sl pc Ls (.int x :: st) := by
  subst hq
  exact Go.step (fun T vm0 k0 locs target X hS _ S => XT.i2s X.here hx rfl hd rfl S) G
theorem Go.dup (hx : p.tables.exec = Jvm.exec) {x : Value} (hd : decode c.code pc = .ok (.dup, 1)) (hc : x.category = 1) (hq : q = pc + 1) (G : Go p l e R s m args below meth c n0 C N Q Z a0 EL hh0 SF h ce sl q Ls (x :: x :: st)) : Go p l e R s m args below meth c n0 C N Q Z a0 EL hh0 SF h ce sl pc Ls (x :: st) := by
  subst hq
  exact Go.step (fun T vm0 k0 locs target X hS _ S => XS.dup X.here hx rfl hd rfl hc S) G
theorem Go.pop (hx : p.tables.exec = Jvm.exec) {x : Value} (hd : decode c.code pc = .ok (.pop, 1)) (hc : x.category = 1) (hq : q = pc + 1) (G : Go p l e R s m args below meth c n0 C N Q Z a0 EL hh0 SF h ce sl q Ls (st)) : Go p l e R s m args below meth c n0 C N Q Z a0 EL hh0 SF h ce sl pc Ls (x :: st) := by
  subst hq
  exact Go.step (fun T vm0 k0 locs target X hS _ S => XT.pop X.here hx rfl hd rfl hc S) G
theorem Go.dupX1 (hx : p.tables.exec = Jvm.exec) {x y : Value} (hd : decode c.code pc = .ok (.dup_x1, 1)) (hc : x.category = 1) (hc' : y.category = 1) (hq : q = pc + 1) (G : Go p l e R s m args below meth c n0 C N Q Z a0 EL hh0 SF h ce sl q Ls (x :: y :: x :: st)) : Go p l e R s m args below meth c n0 C N Q Z a0 EL hh0 SF h ce sl pc Ls (x :: y :: st) := by
  subst hq
  exact Go.step (fun T vm0 k0 locs target X hS _ S => XT.dupX1 X.here hx rfl hd rfl hc hc' S) G
theorem Go.dup2 (hx : p.tables.exec = Jvm.exec) {x y : Value} (hd : decode c.code pc = .ok (.dup2, 1)) (hc : x.category = 1) (hc' : y.category = 1) (hq : q = pc + 1) (G : Go p l e R s m args below meth c n0 C N Q Z a0 EL hh0 SF h ce sl q Ls (x :: y :: x :: y :: st)) : Go p l e R s m args below meth c n0 C N Q Z a0 EL hh0 SF h ce sl pc Ls (x :: y :: st) := by
  subst hq
  exact Go.step (fun T vm0 k0 locs target X hS _ S => XT.dup2 X.here hx rfl hd rfl hc hc' S) G
theorem Go.dup2L (hx : p.tables.exec = Jvm.exec) {x : Int64} (hd : decode c.code pc = .ok (.dup2, 1))  (hq : q = pc + 1) (G : Go p l e R s m args below meth c n0 C N Q Z a0 EL hh0 SF h ce sl q Ls (.long x :: .long x :: st)) : Go p l e R s m args below meth c n0 C N Q Z a0 EL hh0 SF h ce sl pc Ls (.long x :: st) := by
  subst hq
  exact Go.step (fun T vm0 k0 locs target X hS _ S => XT.dup2L X.here hx rfl hd rfl S) G
theorem Go.goto (hx : p.tables.exec = Jvm.exec) {o : Int} (hd : decode c.code pc = .ok (.goto o, 3)) (ho : 0 ≤ (pc : Int) + o) (hq : ((pc : Int) + o).toNat = q) (G : Go p l e R s m args below meth c n0 C N Q Z a0 EL hh0 SF h ce sl q Ls st) : Go p l e R s m args below meth c n0 C N Q Z a0 EL hh0 SF h ce sl pc Ls st :=
  Go.step (fun T vm0 k0 locs target X hS _ S => XS.goto X.here hx rfl rfl hd ho hq S) G
theorem Go.icmp_eq (hx : p.tables.exec = Jvm.exec) {x y : Int32} {o : Int} {t : Nat} (hd : decode c.code pc = .ok (.if_icmp .eq o, 3)) (ho : 0 ≤ (pc : Int) + o) (ht : ((pc : Int) + o).toNat = t) (hq : q = pc + 3) (Gt : x = y → Go p l e R s m args below meth c n0 C N Q Z a0 EL hh0 SF h ce sl t Ls st) (Gf : ¬ x = y → Go p l e R s m args below meth c n0 C N Q Z a0 EL hh0 SF h ce sl q Ls st) : Go p l e R s m args below meth c n0 C N Q Z a0 EL hh0 SF h ce sl pc Ls (.int y :: .int x :: st) := by
  subst hq
  by_cases hc : x = y
  · exact Go.step (fun T vm0 k0 locs target X hS _ S => XS.icmpYes X.here hx rfl rfl hd rfl (teq hc).1 ho ht S) (Gt hc)
  · exact Go.step (fun T vm0 k0 locs target X hS _ S => XS.icmpNo X.here hx rfl hd rfl (feq hc).1 S) (Gf hc)
theorem Go.if_eq (hx : p.tables.exec = Jvm.exec) {x : Int32} {o : Int} {t : Nat} (hd : decode c.code pc = .ok (.ifCond .eq o, 3)) (ho : 0 ≤ (pc : Int) + o) (ht : ((pc : Int) + o).toNat = t) (hq : q = pc + 3) (Gt : x = 0 → Go p l e R s m args below meth c n0 C N Q Z a0 EL hh0 SF h ce sl t Ls st) (Gf : ¬ x = 0 → Go p l e R s m args below meth c n0 C N Q Z a0 EL hh0 SF h ce sl q Ls st) : Go p l e R s m args below meth c n0 C N Q Z a0 EL hh0 SF h ce sl pc Ls (.int x :: st) := by
  subst hq
  by_cases hc : x = 0
  · exact Go.step (fun T vm0 k0 locs target X hS _ S => XS.ifYes X.here hx rfl rfl hd rfl ((if0 _ _).trans (teq hc).1) ho ht S) (Gt hc)
  · exact Go.step (fun T vm0 k0 locs target X hS _ S => XS.ifNo X.here hx rfl hd rfl ((if0 _ _).trans (feq hc).1) S) (Gf hc)
theorem Go.icmp_ne (hx : p.tables.exec = Jvm.exec) {x y : Int32} {o : Int} {t : Nat} (hd : decode c.code pc = .ok (.if_icmp .ne o, 3)) (ho : 0 ≤ (pc : Int) + o) (ht : ((pc : Int) + o).toNat = t) (hq : q = pc + 3) (Gt : ¬ x = y → Go p l e R s m args below meth c n0 C N Q Z a0 EL hh0 SF h ce sl t Ls st) (Gf : x = y → Go p l e R s m args below meth c n0 C N Q Z a0 EL hh0 SF h ce sl q Ls st) : Go p l e R s m args below meth c n0 C N Q Z a0 EL hh0 SF h ce sl pc Ls (.int y :: .int x :: st) := by
  subst hq
  by_cases hc : x = y
  · exact Go.step (fun T vm0 k0 locs target X hS _ S => XS.icmpNo X.here hx rfl hd rfl (teq hc).2 S) (Gf hc)
  · exact Go.step (fun T vm0 k0 locs target X hS _ S => XS.icmpYes X.here hx rfl rfl hd rfl (feq hc).2 ho ht S) (Gt hc)
theorem Go.if_ne (hx : p.tables.exec = Jvm.exec) {x : Int32} {o : Int} {t : Nat} (hd : decode c.code pc = .ok (.ifCond .ne o, 3)) (ho : 0 ≤ (pc : Int) + o) (ht : ((pc : Int) + o).toNat = t) (hq : q = pc + 3) (Gt : ¬ x = 0 → Go p l e R s m args below meth c n0 C N Q Z a0 EL hh0 SF h ce sl t Ls st) (Gf : x = 0 → Go p l e R s m args below meth c n0 C N Q Z a0 EL hh0 SF h ce sl q Ls st) : Go p l e R s m args below meth c n0 C N Q Z a0 EL hh0 SF h ce sl pc Ls (.int x :: st) := by
  subst hq
  by_cases hc : x = 0
  · exact Go.step (fun T vm0 k0 locs target X hS _ S => XS.ifNo X.here hx rfl hd rfl ((if0 _ _).trans (teq hc).2) S) (Gf hc)
  · exact Go.step (fun T vm0 k0 locs target X hS _ S => XS.ifYes X.here hx rfl rfl hd rfl ((if0 _ _).trans (feq hc).2) ho ht S) (Gt hc)
theorem Go.icmp_lt (hx : p.tables.exec = Jvm.exec) {x y : Int32} {o : Int} {t : Nat} (hd : decode c.code pc = .ok (.if_icmp .lt o, 3)) (ho : 0 ≤ (pc : Int) + o) (ht : ((pc : Int) + o).toNat = t) (hq : q = pc + 3) (Gt : x < y → Go p l e R s m args below meth c n0 C N Q Z a0 EL hh0 SF h ce sl t Ls st) (Gf : ¬ x < y → Go p l e R s m args below meth c n0 C N Q Z a0 EL hh0 SF h ce sl q Ls st) : Go p l e R s m args below meth c n0 C N Q Z a0 EL hh0 SF h ce sl pc Ls (.int y :: .int x :: st) := by
  subst hq
  by_cases hc : x < y
  · exact Go.step (fun T vm0 k0 locs target X hS _ S => XS.icmpYes X.here hx rfl rfl hd rfl (tlt hc).1 ho ht S) (Gt hc)
  · exact Go.step (fun T vm0 k0 locs target X hS _ S => XS.icmpNo X.here hx rfl hd rfl (flt hc).1 S) (Gf hc)
theorem Go.if_lt (hx : p.tables.exec = Jvm.exec) {x : Int32} {o : Int} {t : Nat} (hd : decode c.code pc = .ok (.ifCond .lt o, 3)) (ho : 0 ≤ (pc : Int) + o) (ht : ((pc : Int) + o).toNat = t) (hq : q = pc + 3) (Gt : x < 0 → Go p l e R s m args below meth c n0 C N Q Z a0 EL hh0 SF h ce sl t Ls st) (Gf : ¬ x < 0 → Go p l e R s m args below meth c n0 C N Q Z a0 EL hh0 SF h ce sl q Ls st) : Go p l e R s m args below meth c n0 C N Q Z a0 EL hh0 SF h ce sl pc Ls (.int x :: st) := by
  subst hq
  by_cases hc : x < 0
  · exact Go.step (fun T vm0 k0 locs target X hS _ S => XS.ifYes X.here hx rfl rfl hd rfl ((if0 _ _).trans (tlt hc).1) ho ht S) (Gt hc)
  · exact Go.step (fun T vm0 k0 locs target X hS _ S => XS.ifNo X.here hx rfl hd rfl ((if0 _ _).trans (flt hc).1) S) (Gf hc)
theorem Go.icmp_ge (hx : p.tables.exec = Jvm.exec) {x y : Int32} {o : Int} {t : Nat} (hd : decode c.code pc = .ok (.if_icmp .ge o, 3)) (ho : 0 ≤ (pc : Int) + o) (ht : ((pc : Int) + o).toNat = t) (hq : q = pc + 3) (Gt : ¬ x < y → Go p l e R s m args below meth c n0 C N Q Z a0 EL hh0 SF h ce sl t Ls st) (Gf : x < y → Go p l e R s m args below meth c n0 C N Q Z a0 EL hh0 SF h ce sl q Ls st) : Go p l e R s m args below meth c n0 C N Q Z a0 EL hh0 SF h ce sl pc Ls (.int y :: .int x :: st) := by
  subst hq
  by_cases hc : x < y
  · exact Go.step (fun T vm0 k0 locs target X hS _ S => XS.icmpNo X.here hx rfl hd rfl (tlt hc).2.1 S) (Gf hc)
  · exact Go.step (fun T vm0 k0 locs target X hS _ S => XS.icmpYes X.here hx rfl rfl hd rfl (flt hc).2.1 ho ht S) (Gt hc)
theorem Go.if_ge (hx : p.tables.exec = Jvm.exec) {x : Int32} {o : Int} {t : Nat} (hd : decode c.code pc = .ok (.ifCond .ge o, 3)) (ho : 0 ≤ (pc : Int) + o) (ht : ((pc : Int) + o).toNat = t) (hq : q = pc + 3) (Gt : ¬ x < 0 → Go p l e R s m args below meth c n0 C N Q Z a0 EL hh0 SF h ce sl t Ls st) (Gf : x < 0 → Go p l e R s m args below meth c n0 C N Q Z a0 EL hh0 SF h ce sl q Ls st) : Go p l e R s m args below meth c n0 C N Q Z a0 EL hh0 SF h ce sl pc Ls (.int x :: st) := by
  subst hq
  by_cases hc : x < 0
  · exact Go.step (fun T vm0 k0 locs target X hS _ S => XS.ifNo X.here hx rfl hd rfl ((if0 _ _).trans (tlt hc).2.1) S) (Gf hc)
  · exact Go.step (fun T vm0 k0 locs target X hS _ S => XS.ifYes X.here hx rfl rfl hd rfl ((if0 _ _).trans (flt hc).2.1) ho ht S) (Gt hc)
theorem Go.icmp_gt (hx : p.tables.exec = Jvm.exec) {x y : Int32} {o : Int} {t : Nat} (hd : decode c.code pc = .ok (.if_icmp .gt o, 3)) (ho : 0 ≤ (pc : Int) + o) (ht : ((pc : Int) + o).toNat = t) (hq : q = pc + 3) (Gt : y < x → Go p l e R s m args below meth c n0 C N Q Z a0 EL hh0 SF h ce sl t Ls st) (Gf : ¬ y < x → Go p l e R s m args below meth c n0 C N Q Z a0 EL hh0 SF h ce sl q Ls st) : Go p l e R s m args below meth c n0 C N Q Z a0 EL hh0 SF h ce sl pc Ls (.int y :: .int x :: st) := by
  subst hq
  by_cases hc : y < x
  · exact Go.step (fun T vm0 k0 locs target X hS _ S => XS.icmpYes X.here hx rfl rfl hd rfl (tlt hc).2.2.1 ho ht S) (Gt hc)
  · exact Go.step (fun T vm0 k0 locs target X hS _ S => XS.icmpNo X.here hx rfl hd rfl (flt hc).2.2.1 S) (Gf hc)
theorem Go.if_gt (hx : p.tables.exec = Jvm.exec) {x : Int32} {o : Int} {t : Nat} (hd : decode c.code pc = .ok (.ifCond .gt o, 3)) (ho : 0 ≤ (pc : Int) + o) (ht : ((pc : Int) + o).toNat = t) (hq : q = pc + 3) (Gt : 0 < x → Go p l e R s m args below meth c n0 C N Q Z a0 EL hh0 SF h ce sl t Ls st) (Gf : ¬ 0 < x → Go p l e R s m args below meth c n0 C N Q Z a0 EL hh0 SF h ce sl q Ls st) : Go p l e R s m args below meth c n0 C N Q Z a0 EL hh0 SF h ce sl pc Ls (.int x :: st) := by
  subst hq
  by_cases hc : 0 < x
  · exact Go.step (fun T vm0 k0 locs target X hS _ S => XS.ifYes X.here hx rfl rfl hd rfl ((if0 _ _).trans (tlt hc).2.2.1) ho ht S) (Gt hc)
  · exact Go.step (fun T vm0 k0 locs target X hS _ S => XS.ifNo X.here hx rfl hd rfl ((if0 _ _).trans (flt hc).2.2.1) S) (Gf hc)
theorem Go.icmp_le (hx : p.tables.exec = Jvm.exec) {x y : Int32} {o : Int} {t : Nat} (hd : decode c.code pc = .ok (.if_icmp .le o, 3)) (ho : 0 ≤ (pc : Int) + o) (ht : ((pc : Int) + o).toNat = t) (hq : q = pc + 3) (Gt : ¬ y < x → Go p l e R s m args below meth c n0 C N Q Z a0 EL hh0 SF h ce sl t Ls st) (Gf : y < x → Go p l e R s m args below meth c n0 C N Q Z a0 EL hh0 SF h ce sl q Ls st) : Go p l e R s m args below meth c n0 C N Q Z a0 EL hh0 SF h ce sl pc Ls (.int y :: .int x :: st) := by
  subst hq
  by_cases hc : y < x
  · exact Go.step (fun T vm0 k0 locs target X hS _ S => XS.icmpNo X.here hx rfl hd rfl (tlt hc).2.2.2 S) (Gf hc)
  · exact Go.step (fun T vm0 k0 locs target X hS _ S => XS.icmpYes X.here hx rfl rfl hd rfl (flt hc).2.2.2 ho ht S) (Gt hc)
theorem Go.if_le (hx : p.tables.exec = Jvm.exec) {x : Int32} {o : Int} {t : Nat} (hd : decode c.code pc = .ok (.ifCond .le o, 3)) (ho : 0 ≤ (pc : Int) + o) (ht : ((pc : Int) + o).toNat = t) (hq : q = pc + 3) (Gt : ¬ 0 < x → Go p l e R s m args below meth c n0 C N Q Z a0 EL hh0 SF h ce sl t Ls st) (Gf : 0 < x → Go p l e R s m args below meth c n0 C N Q Z a0 EL hh0 SF h ce sl q Ls st) : Go p l e R s m args below meth c n0 C N Q Z a0 EL hh0 SF h ce sl pc Ls (.int x :: st) := by
  subst hq
  by_cases hc : 0 < x
  · exact Go.step (fun T vm0 k0 locs target X hS _ S => XS.ifNo X.here hx rfl hd rfl ((if0 _ _).trans (tlt hc).2.2.2) S) (Gf hc)
  · exact Go.step (fun T vm0 k0 locs target X hS _ S => XS.ifYes X.here hx rfl rfl hd rfl ((if0 _ _).trans (flt hc).2.2.2) ho ht S) (Gt hc)
theorem Go.ifnullT (hx : p.tables.exec = Jvm.exec) {b : Addr} {o : Int} {t : Nat} (hd : decode c.code pc = .ok (.ifnull o, 3)) (ho : 0 ≤ (pc : Int) + o) (ht : ((pc : Int) + o).toNat = t) (G : Go p l e R s m args below meth c n0 C N Q Z a0 EL hh0 SF h ce sl t Ls st) : Go p l e R s m args below meth c n0 C N Q Z a0 EL hh0 SF h ce sl pc Ls (.null :: st) :=
  Go.step (fun T vm0 k0 locs target X hS _ S => XS.ifnullYes X.here hx rfl rfl hd rfl ho ht S) G
theorem Go.ifnullF (hx : p.tables.exec = Jvm.exec) {b : Addr} {o : Int} (hd : decode c.code pc = .ok (.ifnull o, 3)) (hq : q = pc + 3) (G : Go p l e R s m args below meth c n0 C N Q Z a0 EL hh0 SF h ce sl q Ls st) : Go p l e R s m args below meth c n0 C N Q Z a0 EL hh0 SF h ce sl pc Ls (.ref b :: st) := by
  subst hq
  exact Go.step (fun T vm0 k0 locs target X hS _ S => XS.ifnullNo X.here hx rfl hd rfl S) G
theorem Go.ifnonnullT (hx : p.tables.exec = Jvm.exec) {b : Addr} {o : Int} {t : Nat} (hd : decode c.code pc = .ok (.ifnonnull o, 3)) (ho : 0 ≤ (pc : Int) + o) (ht : ((pc : Int) + o).toNat = t) (G : Go p l e R s m args below meth c n0 C N Q Z a0 EL hh0 SF h ce sl t Ls st) : Go p l e R s m args below meth c n0 C N Q Z a0 EL hh0 SF h ce sl pc Ls (.ref b :: st) :=
  Go.step (fun T vm0 k0 locs target X hS _ S => XT.ifnonnullYes X.here hx rfl rfl hd rfl ho ht S) G
theorem Go.ifnonnullF (hx : p.tables.exec = Jvm.exec) {b : Addr} {o : Int} (hd : decode c.code pc = .ok (.ifnonnull o, 3)) (hq : q = pc + 3) (G : Go p l e R s m args below meth c n0 C N Q Z a0 EL hh0 SF h ce sl q Ls st) : Go p l e R s m args below meth c n0 C N Q Z a0 EL hh0 SF h ce sl pc Ls (.null :: st) := by
  subst hq
  exact Go.step (fun T vm0 k0 locs target X hS _ S => XT.ifnonnullNo X.here hx rfl hd rfl S) G
theorem Go.acmp_eq (hx : p.tables.exec = Jvm.exec) {x y : Value} {o : Int} {t : Nat} (hvx : x.isRef = true) (hvy : y.isRef = true) (hd : decode c.code pc = .ok (.if_acmp .eq o, 3)) (ho : 0 ≤ (pc : Int) + o) (ht : ((pc : Int) + o).toNat = t) (hq : q = pc + 3) (Gt : x = y → Go p l e R s m args below meth c n0 C N Q Z a0 EL hh0 SF h ce sl t Ls st) (Gf : ¬ x = y → Go p l e R s m args below meth c n0 C N Q Z a0 EL hh0 SF h ce sl q Ls st) : Go p l e R s m args below meth c n0 C N Q Z a0 EL hh0 SF h ce sl pc Ls (y :: x :: st) := by
  subst hq
  by_cases hc : x = y
  · exact Go.step (fun T vm0 k0 locs target X hS _ S => XT.acmpYes X.here hx rfl rfl hd rfl hvx hvy (by simp [XT.acmp, hc]) ho ht S) (Gt hc)
  · exact Go.step (fun T vm0 k0 locs target X hS _ S => XT.acmpNo X.here hx rfl hd rfl hvx hvy (by simp [XT.acmp, hc]) S) (Gf hc)
theorem Go.acmp_ne (hx : p.tables.exec = Jvm.exec) {x y : Value} {o : Int} {t : Nat} (hvx : x.isRef = true) (hvy : y.isRef = true) (hd : decode c.code pc = .ok (.if_acmp .ne o, 3)) (ho : 0 ≤ (pc : Int) + o) (ht : ((pc : Int) + o).toNat = t) (hq : q = pc + 3) (Gt : ¬ x = y → Go p l e R s m args below meth c n0 C N Q Z a0 EL hh0 SF h ce sl t Ls st) (Gf : x = y → Go p l e R s m args below meth c n0 C N Q Z a0 EL hh0 SF h ce sl q Ls st) : Go p l e R s m args below meth c n0 C N Q Z a0 EL hh0 SF h ce sl pc Ls (y :: x :: st) := by
  subst hq
  by_cases hc : x = y
  · exact Go.step (fun T vm0 k0 locs target X hS _ S => XT.acmpNo X.here hx rfl hd rfl hvx hvy (by simp [XT.acmp, hc]) S) (Gf hc)
  · exact Go.step (fun T vm0 k0 locs target X hS _ S => XT.acmpYes X.here hx rfl rfl hd rfl hvx hvy (by simp [XT.acmp, hc]) ho ht S) (Gt hc)
theorem Go.retV (hx : p.tables.exec = Jvm.exec) {wv : Value} {t : FieldType} {i : Instr} (hret : meth.sig.returnType = some t) (hlk : meth.locks = false) (hn : narrow t wv = wv)
    (hi : (i = .ireturn ∧ (t = .int ∨ t = .boolean ∨ t = .byte ∨ t = .char ∨ t = .short) ∧ ∃ z, wv = .int z) ∨ (i = .lreturn ∧ t = .long ∧ ∃ z, wv = .long z) ∨ (i = .dreturn ∧ t = .double ∧ ∃ z, wv = .double z) ∨ (i = .freturn ∧ t = .float ∧ ∃ z, wv = .float z) ∨ (i = .areturn ∧ t.isReference = true ∧ wv.isRef = true))
    (hd : decode c.code pc = .ok (i, 1)) (hc : ce ≤ C) (hs : sl ≤ N) (hQ : Q (some wv) h) : Go p l e R s m args below meth c n0 C N Q Z a0 EL hh0 SF h ce sl pc Ls (wv :: st) := fun T vm0 locs k0 hz hel X hS hk hC hF Nf eT => by
  obtain ⟨fs, hr, hrun, hended, hRW⟩ := X.leaveW hS (by rw [eT]; exact hk) (v := some wv) (fun hh => by rw [hret] at hh; cases hh)
  refine ⟨_, _, _, retOut X hx hret hn hi hd hr, hrun, hended, ⟨?_, Nf⟩, ?_, hRW.1, hRW.2.1, hRW.2.2.1, hRW.2.2.2.mono hc hs⟩
  · show Q _ T.heap
    rw [eT]; exact hQ
  · show CHr Z EL s.vm hh0 T.vm T.heap
    rw [eT]; exact hC.trans (CHv.at X (wZ hz hS) hel hC.1)
theorem Go.retI (hx : p.tables.exec = Jvm.exec) {z : Int32} (hret : meth.sig.returnType = some .int) (hlk : meth.locks = false) (hd : decode c.code pc = .ok (.ireturn, 1)) (hc : ce ≤ C) (hs : sl ≤ N) (hQ : Q (some (.int z)) h) : Go p l e R s m args below meth c n0 C N Q Z a0 EL hh0 SF h ce sl pc Ls (.int z :: st) :=
  Go.retV hx hret hlk rfl (Or.inl ⟨rfl, Or.inl rfl, _, rfl⟩) hd hc hs hQ
theorem Go.retL (hx : p.tables.exec = Jvm.exec) {z : Int64} (hret : meth.sig.returnType = some .long) (hlk : meth.locks = false) (hd : decode c.code pc = .ok (.lreturn, 1)) (hc : ce ≤ C) (hs : sl ≤ N) (hQ : Q (some (.long z)) h) : Go p l e R s m args below meth c n0 C N Q Z a0 EL hh0 SF h ce sl pc Ls (.long z :: st) :=
  Go.retV hx hret hlk rfl (Or.inr (Or.inl ⟨rfl, rfl, _, rfl⟩)) hd hc hs hQ
theorem Go.retA (hx : p.tables.exec = Jvm.exec) {wv : Value} {t : FieldType} (hret : meth.sig.returnType = some t) (ht : t.isReference = true) (hv : wv.isRef = true) (hlk : meth.locks = false) (hd : decode c.code pc = .ok (.areturn, 1)) (hc : ce ≤ C) (hs : sl ≤ N) (hQ : Q (some wv) h) : Go p l e R s m args below meth c n0 C N Q Z a0 EL hh0 SF h ce sl pc Ls (wv :: st) :=
  Go.retV hx hret hlk (by cases wv <;> cases t <;> simp_all [Value.isRef, FieldType.isReference, narrow]) (Or.inr (Or.inr (Or.inr (Or.inr ⟨rfl, ht, hv⟩)))) hd hc hs hQ
theorem Go.retN (hx : p.tables.exec = Jvm.exec) {z : Int32} {t : FieldType} (hret : meth.sig.returnType = some t) (ht : t = .boolean ∨ t = .byte ∨ t = .char ∨ t = .short) (hlk : meth.locks = false) (hd : decode c.code pc = .ok (.ireturn, 1)) (hc : ce ≤ C) (hs : sl ≤ N) (hQ : Q (some (.int (nar t z))) h) : Go p l e R s m args below meth c n0 C N Q Z a0 EL hh0 SF h ce sl pc Ls (.int z :: st) := fun T vm0 locs k0 hz hel X hS hk hC hF Nf eT => by
  obtain ⟨fs, hr, hrun, hended, hRW⟩ := X.leaveW hS (by rw [eT]; exact hk) (v := some (.int (nar t z))) (fun hh => by rw [hret] at hh; cases hh)
  refine ⟨_, _, _, Jvm.RoadKit.retN X hx hret ht hd hr, hrun, hended, ⟨?_, Nf⟩, ?_, hRW.1, hRW.2.1, hRW.2.2.1, hRW.2.2.2.mono hc hs⟩
  · show Q _ T.heap
    rw [eT]; exact hQ
  · show CHr Z EL s.vm hh0 T.vm T.heap
    rw [eT]; exact hC.trans (CHv.at X (wZ hz hS) hel hC.1)
theorem Go.ret0 (hx : p.tables.exec = Jvm.exec) (hret : meth.sig.returnType = none) (hlk : meth.locks = false) (hd : decode c.code pc = .ok (.return_, 1)) (hc : ce ≤ C) (hs : sl ≤ N) (hQ : Q none h) : Go p l e R s m args below meth c n0 C N Q Z a0 EL hh0 SF h ce sl pc Ls [] := fun T vm0 locs k0 hz hel X hS hk hC hF Nf eT => by
  obtain ⟨fs, hr, hrun, hended, hRW⟩ := X.leaveW hS (by rw [eT]; exact hk) (v := none) (fun _ => rfl)
  refine ⟨_, _, _, X.returnOut hx hret hd hr, hrun, hended, ⟨?_, Nf⟩, ?_, hRW.1, hRW.2.1, hRW.2.2.1, hRW.2.2.2.mono hc hs⟩
  · show Q _ T.heap
    rw [eT]; exact hQ
  · show CHr Z EL s.vm hh0 T.vm T.heap
    rw [eT]; exact hC.trans (CHv.at X (wZ hz hS) hel hC.1)
theorem Go.getF (hx : p.tables.exec = Jvm.exec) (hZ : Z.Warmed39 s.vm) {own R0 O n d host : String} {index : Nat} (hown : s.vm.findClass own = some m.cls) (hw : (Cond.fieldLink own index R0 n d).before a0 Z = true ∨ (Cond.fieldLinkNest own index R0 n d host).before a0 Z = true) (via : Via Z R0 O n d) {a : Addr} {v : Value} (F : Fld Z h a O n d v) (hd : decode c.code pc = .ok (.getfield index, 3)) (hq : q = pc + 3) (G : Go p l e R s m args below meth c n0 C N Q Z a0 EL hh0 SF h ce sl q Ls (v :: st)) : Go p l e R s m args below meth c n0 C N Q Z a0 EL hh0 SF h ce sl pc Ls (.ref a :: st) := by
  subst hq
  exact Go.law (fun T vm0 k0 locs X hS eT => Jvm.RoadKit.getF X hx (wZ hZ hS) (wO hown hS) hw via eT F (g := mkF m pc Ls (.ref a :: st)) rfl rfl hd) G
theorem Go.getS (hx : p.tables.exec = Jvm.exec) (hZ : Z.Warmed39 s.vm) {own R0 O n d host : String} {index : Nat} (hown : s.vm.findClass own = some m.cls) (hw : (Cond.fieldLink own index R0 n d).before a0 Z = true ∨ (Cond.fieldLinkNest own index R0 n d host).before a0 Z = true) (via : Via Z R0 O n d) {v : Value} (F : Sta Z h O n d v) (hd : decode c.code pc = .ok (.getstatic index, 3)) (hq : q = pc + 3) (G : Go p l e R s m args below meth c n0 C N Q Z a0 EL hh0 SF h ce sl q Ls (v :: st)) : Go p l e R s m args below meth c n0 C N Q Z a0 EL hh0 SF h ce sl pc Ls st := by
  subst hq
  exact Go.law (fun T vm0 k0 locs X hS eT => Jvm.RoadKit.getS2 (host := host) X hx (wZ hZ hS) (wO hown hS) hw via eT F (g := mkF m pc Ls st) rfl hd) G
theorem Go.putF (hx : p.tables.exec = Jvm.exec) (hZ : Z.Warmed39 s.vm) {own R0 O n d host C' : String} {index kk : Nat} {ty : FieldType} (hown : s.vm.findClass own = some m.cls) (hw : (Cond.fieldLink own index R0 n d).before a0 Z = true ∨ (Cond.fieldLinkNest own index R0 n d host).before a0 Z = true) (via : Via Z R0 O n d) {a : Addr} {v old : Value} (F : Fld Z h a O n d old) (E : Exa Z h a C') (L : (Cond.lays C' O n d).before a0 Z = true ∨ ((Cond.laysFinal C' O n d).before a0 Z = true ∧ own = O ∧ meth.name = "<init>")) (wi : (Cond.instantiable C' kk).before a0 Z = true)
    (hty : parseFieldDescriptor d = some ty) (hn : narrow ty v = v) (hf : fits ty v = true) (ha : n0 ≤ a) (hsf : a ∈ SF) (hd : decode c.code pc = .ok (.putfield index, 3)) (hq : q = pc + 3) (G : ∀ h', Wr h h' a (Jvm.RoadKit.slotOf Z O n d) v → Go p l e R s m args below meth c n0 C N Q Z a0 EL hh0 SF h' ce sl q Ls st) : Go p l e R s m args below meth c n0 C N Q Z a0 EL hh0 SF h ce sl pc Ls (v :: .ref a :: st) := fun T vm0 locs k0 hz hel X hS hk hC hF Nf eT => by
  subst hq
  obtain ⟨T', h', X', eT', W, hs⟩ := Jvm.RoadKit.putF X hx (wZ hZ hS) (wO hown hS) hw via eT F E L wi hty hn hf (g := mkF m pc Ls (v :: .ref a :: st)) rfl rfl hd
  obtain ⟨s₂, v', L', S, r⟩ := G h' W T' vm0 _ k0 hz hel X' hS (by rw [W.size]; exact hk) (hC.trans (CHr.wr W (hF a hsf).2 hC.1)) (sf_wr hC.1 W hsf hF) (Fr.snoc X' Nf ha) eT'
  exact ⟨s₂, v', L', hs _ S, r⟩
theorem Go.newO (hx : p.tables.exec = Jvm.exec) (hZ : Z.Warmed39 s.vm) {own C' : String} {index n ce' sl' : Nat} (hown : s.vm.findClass own = some m.cls) (w1 : (Cond.classLink own index C').before a0 Z = true) (wi : (Cond.instantiable C' n).before a0 Z = true) (wz : (Cond.initialized C').before a0 Z = true) (hd : decode c.code pc = .ok (.new index, 3)) (hq : q = pc + 3) (hce : ce + 1 = ce') (hsl : sl + n = sl') (hc : ce' ≤ R.cells) (hl : sl' ≤ R.slots)
    (G : ∀ (h' : Heap) (a : Addr), a = h.size → Ext h h' → Exa Z h' a C' → (∀ {O nm d : String} {ty : FieldType}, Laid Z a0 C' O nm d → parseFieldDescriptor d = some ty → Fld Z h' a O nm d (defaultValue ty)) → Go p l e R s m args below meth c n0 C N Q Z a0 EL hh0 (a :: SF) h' ce' sl' q Ls (.ref a :: st)) : Go p l e R s m args below meth c n0 C N Q Z a0 EL hh0 SF h ce sl pc Ls st := fun T vm0 locs k0 hz hel X hS hk hC hF Nf eT => by
  subst hq hce hsl
  obtain ⟨T', h', X', eT', E, A, D, -, hs⟩ := Jvm.RoadKit.newO X hx (wZ hZ hS) (wO hown hS) w1 wi wz eT (g := mkF m pc Ls st) rfl hd hc hl
  obtain ⟨s₂, v', L', S, r⟩ := G h' _ rfl E A D T' vm0 _ k0 hz hel X' hS (Nat.le_trans hk E.1) (hC.trans (CHr.ext E hC.1)) (sf_ext hC.1 E hF rfl A.lt) Nf eT'
  exact ⟨s₂, v', L', hs _ S, r⟩
theorem Go.newP (hx : p.tables.exec = Jvm.exec) (hZ : Z.Warmed39 s.vm) {aty : ArrayType} {cap ce' sl' : Nat} (wa : (Cond.arrayClass (newarray.typeOf aty)).before a0 Z = true) {n : Int32} (hn : ¬ n < 0) (hcap : n.toNatClampNeg ≤ cap) (hd : decode c.code pc = .ok (.newarray aty, 2)) (hq : q = pc + 2) (hb : cap * 8 ≤ 536870912) (hce : ce + 1 = ce') (hsl : sl + cap = sl') (hc : ce' ≤ R.cells) (hl : sl' ≤ R.slots)
    (G : ∀ (h' : Heap) (a : Addr) (k : ClassId), a = h.size → Ext h h' → Arv Z h' a k (newarray.typeOf aty) n [] (defaultValue (newarray.typeOf aty)) → Go p l e R s m args below meth c n0 C N Q Z a0 EL hh0 (a :: SF) h' ce' sl' q Ls (.ref a :: st)) : Go p l e R s m args below meth c n0 C N Q Z a0 EL hh0 SF h ce sl pc Ls (.int n :: st) := fun T vm0 locs k0 hz hel X hS hk hC hF Nf eT => by
  subst hq hce hsl
  obtain ⟨T', h', k, X', eT', E, A, hs⟩ := Jvm.RoadKit.newP X hx (wZ hZ hS) wa eT (g := mkF m pc Ls (.int n :: st)) rfl hd rfl hn hcap hb hc hl
  obtain ⟨s₂, v', L', S, r⟩ := G h' _ k rfl E (Arv.new A hn) T' vm0 _ k0 hz hel X' hS (Nat.le_trans hk E.1) (hC.trans (CHr.ext E hC.1)) (sf_ext hC.1 E hF rfl A.lt) Nf eT'
  exact ⟨s₂, v', L', hs _ S, r⟩
theorem Go.newR (hx : p.tables.exec = Jvm.exec) (hZ : Z.Warmed39 s.vm) {own C' : String} {index cap ce' sl' : Nat} (hown : s.vm.findClass own = some m.cls) (w1 : (Cond.classLink own index C').before a0 Z = true) (w2 : (Cond.arrayOver (.object C')).before a0 Z = true) {n : Int32} (hn : ¬ n < 0) (hcap : n.toNatClampNeg ≤ cap) (hd : decode c.code pc = .ok (.anewarray index, 3)) (hq : q = pc + 3) (hb : cap * 8 ≤ 536870912) (hce : ce + 1 = ce') (hsl : sl + cap = sl') (hc : ce' ≤ R.cells) (hl : sl' ≤ R.slots)
    (G : ∀ (h' : Heap) (a : Addr) (k : ClassId), a = h.size → Ext h h' → Arv Z h' a k (.object C') n [] .null → Ovr Z k C' → Go p l e R s m args below meth c n0 C N Q Z a0 EL hh0 (a :: SF) h' ce' sl' q Ls (.ref a :: st)) : Go p l e R s m args below meth c n0 C N Q Z a0 EL hh0 SF h ce sl pc Ls (.int n :: st) := fun T vm0 locs k0 hz hel X hS hk hC hF Nf eT => by
  subst hq hce hsl
  obtain ⟨T', h', k, X', eT', E, A, O, hs⟩ := Jvm.RoadKit.newR X hx (wZ hZ hS) (wO hown hS) w1 w2 eT (g := mkF m pc Ls (.int n :: st)) rfl hd rfl hn hcap hb hc hl
  obtain ⟨s₂, v', L', S, r⟩ := G h' _ k rfl E (Arv.new A hn) O T' vm0 _ k0 hz hel X' hS (Nat.le_trans hk E.1) (hC.trans (CHr.ext E hC.1)) (sf_ext hC.1 E hF rfl A.lt) Nf eT'
  exact ⟨s₂, v', L', hs _ S, r⟩
theorem Go.initO (hx : p.tables.exec = Jvm.exec) (hZ : Z.Warmed39 s.vm) {own : String} {idx : Nat} (hown : s.vm.findClass own = some m.cls) (w1 : (Cond.methodLink own idx Lib.objectInit).before a0 Z = true) (w2 : (Cond.instanceMethod Lib.objectInit).before a0 Z = true) (w3 : (Cond.code Lib.objectInit ⟨#[0xb1]⟩ 1 none).before a0 Z = true) (hsize : Ls.size = c.maxLocals) {a : Addr} (hd : decode c.code pc = .ok (.invokespecial idx, 3)) (hq : q = pc + 3) (hf : 1 ≤ R.frames) (hl : (st.map fun v => v.category).sum + 12 ≤ R.locals) (G : Go p l e R s m args below meth c n0 C N Q Z a0 EL hh0 SF h ce sl q Ls st) : Go p l e R s m args below meth c n0 C N Q Z a0 EL hh0 SF h ce sl pc Ls (.ref a :: st) := by
  subst hq
  exact Go.law (fun T vm0 k0 locs X hS eT => Jvm.RoadKit.initO X hx (wZ hZ hS) (wO hown hS) w1 w2 w3 eT (g := mkF m pc Ls (.ref a :: st)) rfl hsize rfl hd hf (W := (st.map fun v => v.category).sum) (by show 2 * 0 + _ ≤ _; omega) hl) G
theorem Go.castY (hx : p.tables.exec = Jvm.exec) (hZ : Z.Warmed39 s.vm) {own K : String} {index : Nat} (hown : s.vm.findClass own = some m.cls) (w1 : (Cond.classLink own index K).before a0 Z = true) {a : Addr} (F : Ins Z h a K true) (hd : decode c.code pc = .ok (.checkcast index, 3)) (hq : q = pc + 3) (G : Go p l e R s m args below meth c n0 C N Q Z a0 EL hh0 SF h ce sl q Ls (.ref a :: st)) : Go p l e R s m args below meth c n0 C N Q Z a0 EL hh0 SF h ce sl pc Ls (.ref a :: st) := by
  subst hq
  exact Go.law (fun T vm0 k0 locs X hS eT => Jvm.RoadKit.castY X hx (wZ hZ hS) (wO hown hS) w1 eT F (g := mkF m pc Ls (.ref a :: st)) rfl rfl hd) G
theorem Go.instY (hx : p.tables.exec = Jvm.exec) (hZ : Z.Warmed39 s.vm) {own K : String} {index : Nat} (hown : s.vm.findClass own = some m.cls) (w1 : (Cond.classLink own index K).before a0 Z = true) {a : Addr} (F : Ins Z h a K true) (hd : decode c.code pc = .ok (.instanceof index, 3)) (hq : q = pc + 3) (G : Go p l e R s m args below meth c n0 C N Q Z a0 EL hh0 SF h ce sl q Ls (.int 1 :: st)) : Go p l e R s m args below meth c n0 C N Q Z a0 EL hh0 SF h ce sl pc Ls (.ref a :: st) := by
  subst hq
  exact Go.law (fun T vm0 k0 locs X hS eT => Jvm.RoadKit.instY X hx (wZ hZ hS) (wO hown hS) w1 eT F (g := mkF m pc Ls (.ref a :: st)) rfl rfl hd) G
theorem Go.alen (hx : p.tables.exec = Jvm.exec) (hZ : Z.Warmed39 s.vm) {a : Addr} {k : ClassId} {ty : FieldType} {n : Int32} {vs : List Value} {dv : Value} (A : Arv Z h a k ty n vs dv) (hd : decode c.code pc = .ok (.arraylength, 1)) (hq : q = pc + 1) (G : Go p l e R s m args below meth c n0 C N Q Z a0 EL hh0 SF h ce sl q Ls (.int n :: st)) : Go p l e R s m args below meth c n0 C N Q Z a0 EL hh0 SF h ce sl pc Ls (.ref a :: st) := by
  subst hq
  obtain ⟨cl, Ar, q1, S1, N1, H1, F1⟩ := A
  refine Go.step (fun T vm0 k0 locs target X hS eT S => X.arraylength hx (by rw [eT]; exact Ar.1) (State.isArrayOf_alike (wZ hZ hS).alike Ar.2.1) (g := mkF m pc Ls (.ref a :: st)) rfl rfl hd target ?_) G
  rw [len_of S1 N1]; exact S
theorem Go.baload (hx : p.tables.exec = Jvm.exec) (hZ : Z.Warmed39 s.vm) {a : Addr} {k : ClassId} {n j : Int32} {vs : List Value} {dv v : Value} (A : Arv Z h a k .byte n vs dv) (hj : ¬ j < 0 ∧ j < n) (hv : vs.getD j.toNatClampNeg dv = v) (hd : decode c.code pc = .ok (.baload, 1)) (hq : q = pc + 1) (G : Go p l e R s m args below meth c n0 C N Q Z a0 EL hh0 SF h ce sl q Ls (v :: st)) : Go p l e R s m args below meth c n0 C N Q Z a0 EL hh0 SF h ce sl pc Ls (.int j :: .ref a :: st) := by
  subst hq
  obtain ⟨cl, Ar, q1, S1, N1, H1, F1⟩ := A
  exact Go.step (fun T vm0 k0 locs target X hS eT S => X.baloadBytes hx (by rw [eT]; exact Ar.1) (State.isArrayOf_alike (wZ hZ hS).alike Ar.2.1) Ar.2.2 (inb_of S1 hj) (H1.at (inb_of S1 hj) hv) (g := mkF m pc Ls (.int j :: .ref a :: st)) rfl rfl hd target S) G
theorem Go.zaload (hx : p.tables.exec = Jvm.exec) (hZ : Z.Warmed39 s.vm) {a : Addr} {k : ClassId} {n j : Int32} {vs : List Value} {dv v : Value} (A : Arv Z h a k .boolean n vs dv) (hj : ¬ j < 0 ∧ j < n) (hv : vs.getD j.toNatClampNeg dv = v) (hd : decode c.code pc = .ok (.baload, 1)) (hq : q = pc + 1) (G : Go p l e R s m args below meth c n0 C N Q Z a0 EL hh0 SF h ce sl q Ls (v :: st)) : Go p l e R s m args below meth c n0 C N Q Z a0 EL hh0 SF h ce sl pc Ls (.int j :: .ref a :: st) := by
  subst hq
  obtain ⟨cl, Ar, q1, S1, N1, H1, F1⟩ := A
  exact Go.step (fun T vm0 k0 locs target X hS eT S => X.baloadBooleans hx (by rw [eT]; exact Ar.1) (State.isArrayOf_alike (wZ hZ hS).alike Ar.2.1) Ar.2.2 (inb_of S1 hj) (H1.at (inb_of S1 hj) hv) (g := mkF m pc Ls (.int j :: .ref a :: st)) rfl rfl hd target S) G
theorem Go.caload (hx : p.tables.exec = Jvm.exec) (hZ : Z.Warmed39 s.vm) {a : Addr} {k : ClassId} {n j : Int32} {vs : List Value} {dv v : Value} (A : Arv Z h a k .char n vs dv) (hj : ¬ j < 0 ∧ j < n) (hv : vs.getD j.toNatClampNeg dv = v) (hd : decode c.code pc = .ok (.caload, 1)) (hq : q = pc + 1) (G : Go p l e R s m args below meth c n0 C N Q Z a0 EL hh0 SF h ce sl q Ls (v :: st)) : Go p l e R s m args below meth c n0 C N Q Z a0 EL hh0 SF h ce sl pc Ls (.int j :: .ref a :: st) := by
  subst hq
  obtain ⟨cl, Ar, q1, S1, N1, H1, F1⟩ := A
  exact Go.step (fun T vm0 k0 locs target X hS eT S => X.caload hx (by rw [eT]; exact Ar.1) (State.isArrayOf_alike (wZ hZ hS).alike Ar.2.1) Ar.2.2 (inb_of S1 hj) (H1.at (inb_of S1 hj) hv) (g := mkF m pc Ls (.int j :: .ref a :: st)) rfl rfl hd target S) G
theorem Go.saload (hx : p.tables.exec = Jvm.exec) (hZ : Z.Warmed39 s.vm) {a : Addr} {k : ClassId} {n j : Int32} {vs : List Value} {dv v : Value} (A : Arv Z h a k .short n vs dv) (hj : ¬ j < 0 ∧ j < n) (hv : vs.getD j.toNatClampNeg dv = v) (hd : decode c.code pc = .ok (.saload, 1)) (hq : q = pc + 1) (G : Go p l e R s m args below meth c n0 C N Q Z a0 EL hh0 SF h ce sl q Ls (v :: st)) : Go p l e R s m args below meth c n0 C N Q Z a0 EL hh0 SF h ce sl pc Ls (.int j :: .ref a :: st) := by
  subst hq
  obtain ⟨cl, Ar, q1, S1, N1, H1, F1⟩ := A
  exact Go.step (fun T vm0 k0 locs target X hS eT S => X.saload hx (by rw [eT]; exact Ar.1) (State.isArrayOf_alike (wZ hZ hS).alike Ar.2.1) Ar.2.2 (inb_of S1 hj) (H1.at (inb_of S1 hj) hv) (g := mkF m pc Ls (.int j :: .ref a :: st)) rfl rfl hd target S) G
theorem Go.iaload (hx : p.tables.exec = Jvm.exec) (hZ : Z.Warmed39 s.vm) {a : Addr} {k : ClassId} {n j : Int32} {vs : List Value} {dv v : Value} (A : Arv Z h a k .int n vs dv) (hj : ¬ j < 0 ∧ j < n) (hv : vs.getD j.toNatClampNeg dv = v) (hd : decode c.code pc = .ok (.iaload, 1)) (hq : q = pc + 1) (G : Go p l e R s m args below meth c n0 C N Q Z a0 EL hh0 SF h ce sl q Ls (v :: st)) : Go p l e R s m args below meth c n0 C N Q Z a0 EL hh0 SF h ce sl pc Ls (.int j :: .ref a :: st) := by
  subst hq
  obtain ⟨cl, Ar, q1, S1, N1, H1, F1⟩ := A
  exact Go.step (fun T vm0 k0 locs target X hS eT S => X.iaload hx (by rw [eT]; exact Ar.1) (State.isArrayOf_alike (wZ hZ hS).alike Ar.2.1) Ar.2.2 (inb_of S1 hj) (H1.at (inb_of S1 hj) hv) (g := mkF m pc Ls (.int j :: .ref a :: st)) rfl rfl hd target S) G
theorem Go.laload (hx : p.tables.exec = Jvm.exec) (hZ : Z.Warmed39 s.vm) {a : Addr} {k : ClassId} {n j : Int32} {vs : List Value} {dv v : Value} (A : Arv Z h a k .long n vs dv) (hj : ¬ j < 0 ∧ j < n) (hv : vs.getD j.toNatClampNeg dv = v) (hd : decode c.code pc = .ok (.laload, 1)) (hq : q = pc + 1) (G : Go p l e R s m args below meth c n0 C N Q Z a0 EL hh0 SF h ce sl q Ls (v :: st)) : Go p l e R s m args below meth c n0 C N Q Z a0 EL hh0 SF h ce sl pc Ls (.int j :: .ref a :: st) := by
  subst hq
  obtain ⟨cl, Ar, q1, S1, N1, H1, F1⟩ := A
  exact Go.step (fun T vm0 k0 locs target X hS eT S => X.laload hx (by rw [eT]; exact Ar.1) (State.isArrayOf_alike (wZ hZ hS).alike Ar.2.1) Ar.2.2 (inb_of S1 hj) (H1.at (inb_of S1 hj) hv) (g := mkF m pc Ls (.int j :: .ref a :: st)) rfl rfl hd target S) G
theorem Go.aaload (hx : p.tables.exec = Jvm.exec) (hZ : Z.Warmed39 s.vm) {a : Addr} {k : ClassId} {ty : FieldType} {n j : Int32} {vs : List Value} {dv v : Value} (A : Arv Z h a k ty n vs dv) (hty : ty.isReference = true) (hj : ¬ j < 0 ∧ j < n) (hv : vs.getD j.toNatClampNeg dv = v) (hd : decode c.code pc = .ok (.aaload, 1)) (hq : q = pc + 1) (G : Go p l e R s m args below meth c n0 C N Q Z a0 EL hh0 SF h ce sl q Ls (v :: st)) : Go p l e R s m args below meth c n0 C N Q Z a0 EL hh0 SF h ce sl pc Ls (.int j :: .ref a :: st) := by
  subst hq
  obtain ⟨cl, Ar, q1, S1, N1, H1, F1⟩ := A
  exact Go.step (fun T vm0 k0 locs target X hS eT S => X.aaload hx (by rw [eT]; exact Ar.1) (State.isArrayOf_alike (wZ hZ hS).alike Ar.2.1) hty Ar.2.2 (inb_of S1 hj) (H1.at (inb_of S1 hj) hv) (g := mkF m pc Ls (.int j :: .ref a :: st)) rfl rfl hd target S) G
theorem Go.bastore (hx : p.tables.exec = Jvm.exec) (hZ : Z.Warmed39 s.vm) {a : Addr} {k : ClassId} {n j x : Int32} {vs : List Value} {dv : Value} (A : Arv Z h a k .byte n vs dv) (hj : ¬ j < 0 ∧ j < n) (i : Nat) (hi : j.toNatClampNeg = i) (hlen : i < vs.length) (ha : n0 ≤ a) (hsf : a ∈ SF) (hd : decode c.code pc = .ok (.bastore, 1)) (hq : q = pc + 1)
    (G : ∀ h', Wr h h' a j.toNatClampNeg (.int (nar .byte x)) → Arv Z h' a k .byte n (vs.set i (.int (nar .byte x))) dv → Go p l e R s m args below meth c n0 C N Q Z a0 EL hh0 SF h' ce sl q Ls st) : Go p l e R s m args below meth c n0 C N Q Z a0 EL hh0 SF h ce sl pc Ls (.int x :: .int j :: .ref a :: st) := fun T vm0 locs k0 hz hel X hS hk hC hF Nf eT => by
  subst hq
  obtain ⟨cl, Ar, q1, S1, N1, H1, F1⟩ := A
  obtain ⟨T', h', X', eT', W, hs⟩ := stB X hx (wZ hZ hS) eT Ar (inb_of S1 hj) (g := mkF m pc Ls (.int x :: .int j :: .ref a :: st)) rfl rfl hd
  obtain ⟨s₂, v', L', S, r⟩ := G h' W (Arv.set Ar q1 S1 N1 H1 F1 (fits_nar_byte _) W i hi hlen) T' vm0 _ k0 hz hel X' hS (by rw [W.size]; exact hk) (hC.trans (CHr.wr W (hF a hsf).2 hC.1)) (sf_wr hC.1 W hsf hF) (Fr.snoc X' Nf ha) eT'
  exact ⟨s₂, v', L', hs _ S, r⟩
theorem Go.zastore (hx : p.tables.exec = Jvm.exec) (hZ : Z.Warmed39 s.vm) {a : Addr} {k : ClassId} {n j x : Int32} {vs : List Value} {dv : Value} (A : Arv Z h a k .boolean n vs dv) (hj : ¬ j < 0 ∧ j < n) (i : Nat) (hi : j.toNatClampNeg = i) (hlen : i < vs.length) (ha : n0 ≤ a) (hsf : a ∈ SF) (hd : decode c.code pc = .ok (.bastore, 1)) (hq : q = pc + 1)
    (G : ∀ h', Wr h h' a j.toNatClampNeg (.int (nar .boolean x)) → Arv Z h' a k .boolean n (vs.set i (.int (nar .boolean x))) dv → Go p l e R s m args below meth c n0 C N Q Z a0 EL hh0 SF h' ce sl q Ls st) : Go p l e R s m args below meth c n0 C N Q Z a0 EL hh0 SF h ce sl pc Ls (.int x :: .int j :: .ref a :: st) := fun T vm0 locs k0 hz hel X hS hk hC hF Nf eT => by
  subst hq
  obtain ⟨cl, Ar, q1, S1, N1, H1, F1⟩ := A
  obtain ⟨T', h', X', eT', W, hs⟩ := stZ X hx (wZ hZ hS) eT Ar (inb_of S1 hj) (g := mkF m pc Ls (.int x :: .int j :: .ref a :: st)) rfl rfl hd
  obtain ⟨s₂, v', L', S, r⟩ := G h' W (Arv.set Ar q1 S1 N1 H1 F1 (fits_nar_bool _) W i hi hlen) T' vm0 _ k0 hz hel X' hS (by rw [W.size]; exact hk) (hC.trans (CHr.wr W (hF a hsf).2 hC.1)) (sf_wr hC.1 W hsf hF) (Fr.snoc X' Nf ha) eT'
  exact ⟨s₂, v', L', hs _ S, r⟩
theorem Go.castore (hx : p.tables.exec = Jvm.exec) (hZ : Z.Warmed39 s.vm) {a : Addr} {k : ClassId} {n j x : Int32} {vs : List Value} {dv : Value} (A : Arv Z h a k .char n vs dv) (hj : ¬ j < 0 ∧ j < n) (i : Nat) (hi : j.toNatClampNeg = i) (hlen : i < vs.length) (ha : n0 ≤ a) (hsf : a ∈ SF) (hd : decode c.code pc = .ok (.castore, 1)) (hq : q = pc + 1)
    (G : ∀ h', Wr h h' a j.toNatClampNeg (.int (nar .char x)) → Arv Z h' a k .char n (vs.set i (.int (nar .char x))) dv → Go p l e R s m args below meth c n0 C N Q Z a0 EL hh0 SF h' ce sl q Ls st) : Go p l e R s m args below meth c n0 C N Q Z a0 EL hh0 SF h ce sl pc Ls (.int x :: .int j :: .ref a :: st) := fun T vm0 locs k0 hz hel X hS hk hC hF Nf eT => by
  subst hq
  obtain ⟨cl, Ar, q1, S1, N1, H1, F1⟩ := A
  obtain ⟨T', h', X', eT', W, hs⟩ := stC X hx (wZ hZ hS) eT Ar (inb_of S1 hj) (g := mkF m pc Ls (.int x :: .int j :: .ref a :: st)) rfl rfl hd
  obtain ⟨s₂, v', L', S, r⟩ := G h' W (Arv.set Ar q1 S1 N1 H1 F1 (fits_nar_char _) W i hi hlen) T' vm0 _ k0 hz hel X' hS (by rw [W.size]; exact hk) (hC.trans (CHr.wr W (hF a hsf).2 hC.1)) (sf_wr hC.1 W hsf hF) (Fr.snoc X' Nf ha) eT'
  exact ⟨s₂, v', L', hs _ S, r⟩
theorem Go.sastore (hx : p.tables.exec = Jvm.exec) (hZ : Z.Warmed39 s.vm) {a : Addr} {k : ClassId} {n j x : Int32} {vs : List Value} {dv : Value} (A : Arv Z h a k .short n vs dv) (hj : ¬ j < 0 ∧ j < n) (i : Nat) (hi : j.toNatClampNeg = i) (hlen : i < vs.length) (ha : n0 ≤ a) (hsf : a ∈ SF) (hd : decode c.code pc = .ok (.sastore, 1)) (hq : q = pc + 1)
    (G : ∀ h', Wr h h' a j.toNatClampNeg (.int (nar .short x)) → Arv Z h' a k .short n (vs.set i (.int (nar .short x))) dv → Go p l e R s m args below meth c n0 C N Q Z a0 EL hh0 SF h' ce sl q Ls st) : Go p l e R s m args below meth c n0 C N Q Z a0 EL hh0 SF h ce sl pc Ls (.int x :: .int j :: .ref a :: st) := fun T vm0 locs k0 hz hel X hS hk hC hF Nf eT => by
  subst hq
  obtain ⟨cl, Ar, q1, S1, N1, H1, F1⟩ := A
  obtain ⟨T', h', X', eT', W, hs⟩ := stS X hx (wZ hZ hS) eT Ar (inb_of S1 hj) (g := mkF m pc Ls (.int x :: .int j :: .ref a :: st)) rfl rfl hd
  obtain ⟨s₂, v', L', S, r⟩ := G h' W (Arv.set Ar q1 S1 N1 H1 F1 (fits_nar_short _) W i hi hlen) T' vm0 _ k0 hz hel X' hS (by rw [W.size]; exact hk) (hC.trans (CHr.wr W (hF a hsf).2 hC.1)) (sf_wr hC.1 W hsf hF) (Fr.snoc X' Nf ha) eT'
  exact ⟨s₂, v', L', hs _ S, r⟩
theorem Go.iastore (hx : p.tables.exec = Jvm.exec) (hZ : Z.Warmed39 s.vm) {a : Addr} {k : ClassId} {n j x : Int32} {vs : List Value} {dv : Value} (A : Arv Z h a k .int n vs dv) (hj : ¬ j < 0 ∧ j < n) (i : Nat) (hi : j.toNatClampNeg = i) (hlen : i < vs.length) (ha : n0 ≤ a) (hsf : a ∈ SF) (hd : decode c.code pc = .ok (.iastore, 1)) (hq : q = pc + 1)
    (G : ∀ h', Wr h h' a j.toNatClampNeg (.int x) → Arv Z h' a k .int n (vs.set i (.int x)) dv → Go p l e R s m args below meth c n0 C N Q Z a0 EL hh0 SF h' ce sl q Ls st) : Go p l e R s m args below meth c n0 C N Q Z a0 EL hh0 SF h ce sl pc Ls (.int x :: .int j :: .ref a :: st) := fun T vm0 locs k0 hz hel X hS hk hC hF Nf eT => by
  subst hq
  obtain ⟨cl, Ar, q1, S1, N1, H1, F1⟩ := A
  obtain ⟨T', h', X', eT', W, hs⟩ := stI X hx (wZ hZ hS) eT Ar (inb_of S1 hj) (g := mkF m pc Ls (.int x :: .int j :: .ref a :: st)) rfl rfl hd
  obtain ⟨s₂, v', L', S, r⟩ := G h' W (Arv.set Ar q1 S1 N1 H1 F1 (rfl) W i hi hlen) T' vm0 _ k0 hz hel X' hS (by rw [W.size]; exact hk) (hC.trans (CHr.wr W (hF a hsf).2 hC.1)) (sf_wr hC.1 W hsf hF) (Fr.snoc X' Nf ha) eT'
  exact ⟨s₂, v', L', hs _ S, r⟩
theorem Go.aastore (hx : p.tables.exec = Jvm.exec) (hZ : Z.Warmed39 s.vm) {a : Addr} {k : ClassId} {C' : String} {n j : Int32} {x : Value} {vs : List Value} {dv : Value} (A : Arv Z h a k (.object C') n vs dv) (F : Sto Z h a x) (hxr : x.isRef = true) (hj : ¬ j < 0 ∧ j < n) (i : Nat) (hi : j.toNatClampNeg = i) (hlen : i < vs.length) (ha : n0 ≤ a) (hsf : a ∈ SF) (hd : decode c.code pc = .ok (.aastore, 1)) (hq : q = pc + 1)
    (G : ∀ h', Wr h h' a j.toNatClampNeg x → Arv Z h' a k (.object C') n (vs.set i x) dv → Go p l e R s m args below meth c n0 C N Q Z a0 EL hh0 SF h' ce sl q Ls st) : Go p l e R s m args below meth c n0 C N Q Z a0 EL hh0 SF h ce sl pc Ls (x :: .int j :: .ref a :: st) := fun T vm0 locs k0 hz hel X hS hk hC hF Nf eT => by
  subst hq
  obtain ⟨cl, Ar, q1, S1, N1, H1, F1⟩ := A
  obtain ⟨T', h', X', eT', W, hs⟩ := stR X hx (wZ hZ hS) eT Ar (inb_of S1 hj) rfl F (g := mkF m pc Ls (x :: .int j :: .ref a :: st)) rfl rfl hd
  obtain ⟨s₂, v', L', S, r⟩ := G h' W (Arv.set Ar q1 S1 N1 H1 F1 (by rcases ref_cases hxr with rfl | ⟨y, rfl⟩ <;> rfl) W i hi hlen) T' vm0 _ k0 hz hel X' hS (by rw [W.size]; exact hk) (hC.trans (CHr.wr W (hF a hsf).2 hC.1)) (sf_wr hC.1 W hsf hF) (Fr.snoc X' Nf ha) eT'
  exact ⟨s₂, v', L', hs _ S, r⟩
theorem Go.callS (hx : p.tables.exec = Jvm.exec) (hZ : Z.Warmed39 s.vm) {own : String} {index : Nat} {y : MethodName} {bytes : ByteArray} {maxL : Nat} {rt r' : Option FieldType} {ps : List FieldType} {rm : Room} {SFc : List Addr} {Qc : Option Value → Heap → Prop} {argsL rest : List Value} {ce' sl' : Nat} (hown : s.vm.findClass own = some m.cls) (w1 : (Cond.methodLink own index y).before a0 Z = true) (w2 : (Cond.static y).before a0 Z = true) (w3 : (Cond.initialized y.cls).before a0 Z = true) (w4 : (Cond.code y bytes maxL rt).before a0 Z = true) (hy : y.cls ≠ "java/lang/invoke/MethodHandle" ∧ y.cls ≠ "java/lang/invoke/VarHandle")
    (hM : Met l Z EL SFc y bytes maxL rt [] rm argsL.toArray h n0 Qc) (hsub : ∀ x ∈ SFc, x ∈ SF) (hsize : Ls.size = c.maxLocals) (hpd : parseMethodDescriptor y.desc = some ⟨ps, r'⟩) (hlen : argsL.length = ps.length) (hst : st = argsL.reverse ++ rest) (hd : decode c.code pc = .ok (.invokestatic index, 3)) (hq : q = pc + 3) (hf : rm.frames + 1 ≤ R.frames) (hl : (rest.map fun v => v.category).sum + (maxL + 11) + rm.locals ≤ R.locals) (hce : ce + rm.cells = ce') (hsl : sl + rm.slots = sl') (hc : ce' ≤ R.cells) (hs : sl' ≤ R.slots)
    (G : ∀ (v : Option Value) (h' : Heap), Qc v h' → Go p l e R s m args below meth c n0 C N Q Z a0 EL hh0 SF h' ce' sl' q Ls (v.toList ++ rest)) : Go p l e R s m args below meth c n0 C N Q Z a0 EL hh0 SF h ce sl pc Ls st := fun T vm0 locs k0 hz hel X hS hk hC hF Nf eT => by
  subst hq hce hsl
  obtain ⟨v, _, ⟨T', L', k', n'⟩, -, X', hS', hg', ⟨Lc, ⟨hQ, hF'⟩, hl1, hl2, hl3, hC'⟩, hst'⟩ := Jvm.RoadKit.callSS X hx (wO hown hS) (mvT (wZ hZ hS) w1) (mvT (wZ hZ hS) w2) (mvT (wZ hZ hS) w3) (mvT (wZ hZ hS) w4) hy (backOfSF (W := (rest.map fun v => v.category).sum) (Q := fun v h' L => Qc v h' ∧ Fr n0 L) hM (wZ hZ hS) w4 w3 hf hl hel (fun x hx => hF x (hsub x hx)) hC.1) (g := mkF m pc Ls st) rfl hsize (argsL := argsL) (rest := rest) (lenOf hpd hlen) hst (by show 2 * 0 + _ ≤ _; omega) hd (fun _ _ => ⟨rfl, eT, hc, hs⟩)
  dsimp only [Pt.U, Pt.locs, Pt.cells, Pt.slots] at X' hl1 hl2 hl3 hst' hQ hC' hS' hg'
  subst hl1 hl2 hl3
  obtain ⟨s₂, v', L'', S, r⟩ := G v _ hQ T' T'.vm _ T'.heap.size hz hel X' (foldS hS (by rw [eT]; exact hk) hS' hg') (Nat.le_refl _) (hC.trans hC') (fun x hx => ⟨Nat.lt_of_lt_of_le (hF x hx).1 hC'.2.1, hC'.safe (hF x hx).1 (hF x hx).2⟩) (Fr.app Nf hF') rfl
  exact ⟨s₂, v', L'', hst'.trans S, r⟩
theorem Go.callI (hx : p.tables.exec = Jvm.exec) (hZ : Z.Warmed39 s.vm) {own : String} {index : Nat} {y : MethodName} {bytes : ByteArray} {maxL : Nat} {r' : Option FieldType} {ps : List FieldType} {rm : Room} {SFc : List Addr} {Qc : Option Value → Heap → Prop} {a : Addr} {argsL rest : List Value} {ce' sl' : Nat} (hown : s.vm.findClass own = some m.cls) (hnm : y.name = "<init>") (w1 : (Cond.methodLink own index y).before a0 Z = true) (w2 : (Cond.instanceMethod y).before a0 Z = true) (w3 : (Cond.initialized y.cls).before a0 Z = true) (w4 : (Cond.code y bytes maxL none).before a0 Z = true) (hy : y.cls ≠ "java/lang/invoke/MethodHandle" ∧ y.cls ≠ "java/lang/invoke/VarHandle")
    (hM : Met l Z EL SFc y bytes maxL none [] rm (.ref a :: argsL).toArray h n0 Qc) (hsub : ∀ x ∈ SFc, x ∈ SF) (hsize : Ls.size = c.maxLocals) (hpd : parseMethodDescriptor y.desc = some ⟨ps, r'⟩) (hlen : argsL.length = ps.length) (hst : st = argsL.reverse ++ .ref a :: rest) (hd : decode c.code pc = .ok (.invokespecial index, 3)) (hq : q = pc + 3) (hf : rm.frames + 1 ≤ R.frames) (hl : (rest.map fun v => v.category).sum + (maxL + 11) + rm.locals ≤ R.locals) (hce : ce + rm.cells = ce') (hsl : sl + rm.slots = sl') (hc : ce' ≤ R.cells) (hs : sl' ≤ R.slots)
    (G : ∀ (v : Option Value) (h' : Heap), Qc v h' → Go p l e R s m args below meth c n0 C N Q Z a0 EL hh0 SF h' ce' sl' q Ls (v.toList ++ rest)) : Go p l e R s m args below meth c n0 C N Q Z a0 EL hh0 SF h ce sl pc Ls st := fun T vm0 locs k0 hz hel X hS hk hC hF Nf eT => by
  subst hq hce hsl
  obtain ⟨v, _, ⟨T', L', k', n'⟩, -, X', hS', hg', ⟨Lc, ⟨hQ, hF'⟩, hl1, hl2, hl3, hC'⟩, hst'⟩ := X.specialBackS hx hnm (wO hown hS) (mvT (wZ hZ hS) w1) (mvT (wZ hZ hS) w2) (mvT (wZ hZ hS) w4) hy (backOfSF (W := (rest.map fun v => v.category).sum) (Q := fun v h' L => Qc v h' ∧ Fr n0 L) hM (wZ hZ hS) w4 w3 hf hl hel (fun x hx => hF x (hsub x hx)) hC.1) (g := mkF m pc Ls st) rfl hsize (Steps.refl _) (a := a) (argsL := argsL) (rest := rest) (lenOf hpd hlen) hst (by show 2 * 0 + _ ≤ _; omega) hd (fun _ _ => ⟨rfl, eT, hc, hs⟩)
  dsimp only [Pt.U, Pt.locs, Pt.cells, Pt.slots] at X' hl1 hl2 hl3 hst' hQ hC' hS' hg'
  subst hl1 hl2 hl3
  obtain ⟨s₂, v', L'', S, r⟩ := G v _ hQ T' T'.vm _ T'.heap.size hz hel X' (foldS hS (by rw [eT]; exact hk) hS' hg') (Nat.le_refl _) (hC.trans hC') (fun x hx => ⟨Nat.lt_of_lt_of_le (hF x hx).1 hC'.2.1, hC'.safe (hF x hx).1 (hF x hx).2⟩) (Fr.app Nf hF') rfl
  exact ⟨s₂, v', L'', hst'.trans S, r⟩
theorem Go.callV (hx : p.tables.exec = Jvm.exec) (hZ : Z.Warmed39 s.vm) {own C' : String} {index : Nat} {y z : MethodName} {bytes : ByteArray} {maxL : Nat} {rt r' : Option FieldType} {ps : List FieldType} {rm : Room} {SFc : List Addr} {Qc : Option Value → Heap → Prop} {a : Addr} {argsL rest : List Value} {ce' sl' : Nat} (hown : s.vm.findClass own = some m.cls) (w1 : (Cond.methodLink own index y).before a0 Z = true) (w2 : (Cond.declares y).before a0 Z = true) (hnf : ∀ vm : Vm, Z.Warmed39 (s.setVm vm).vm → NotFace (s.setVm vm) y) (w5 : (Cond.selects C' y z).before a0 Z = true) (w6 : (Cond.instanceMethod z).before a0 Z = true) (w3 : (Cond.initialized z.cls).before a0 Z = true) (w4 : (Cond.code z bytes maxL rt).before a0 Z = true) (hy : y.cls ≠ "java/lang/invoke/MethodHandle" ∧ y.cls ≠ "java/lang/invoke/VarHandle")
    (E : Exa Z h a C') (hM : Met l Z EL SFc z bytes maxL rt [] rm (.ref a :: argsL).toArray h n0 Qc) (hsub : ∀ x ∈ SFc, x ∈ SF) (hsize : Ls.size = c.maxLocals) (hpd : parseMethodDescriptor y.desc = some ⟨ps, r'⟩) (hlen : argsL.length = ps.length) (hst : st = argsL.reverse ++ .ref a :: rest) (hd : decode c.code pc = .ok (.invokevirtual index, 3)) (hq : q = pc + 3) (hf : rm.frames + 1 ≤ R.frames) (hl : (rest.map fun v => v.category).sum + (maxL + 11) + rm.locals ≤ R.locals) (hce : ce + rm.cells = ce') (hsl : sl + rm.slots = sl') (hc : ce' ≤ R.cells) (hs : sl' ≤ R.slots)
    (G : ∀ (v : Option Value) (h' : Heap), Qc v h' → Go p l e R s m args below meth c n0 C N Q Z a0 EL hh0 SF h' ce' sl' q Ls (v.toList ++ rest)) : Go p l e R s m args below meth c n0 C N Q Z a0 EL hh0 SF h ce sl pc Ls st := fun T vm0 locs k0 hz hel X hS hk hC hF Nf eT => by
  subst hq hce hsl
  obtain ⟨cB, kB, qa, qb, qc⟩ := isOf (wZ hZ hS) eT E
  obtain ⟨v, _, ⟨T', L', k', n'⟩, -, X', hS', hg', ⟨Lc, ⟨hQ, hF'⟩, hl1, hl2, hl3, hC'⟩, hst'⟩ := X.virtualBackS hx (wO hown hS) (mvT (wZ hZ hS) w1) (mvT (wZ hZ hS) w2) (hnf vm0 (wZ hZ hS)) (mvT (wZ hZ hS) w5) (mvT (wZ hZ hS) w6) hy (backOfSF (W := (rest.map fun v => v.category).sum) (Q := fun v h' L => Qc v h' ∧ Fr n0 L) hM (wZ hZ hS) w4 w3 hf hl hel (fun x hx => hF x (hsub x hx)) hC.1) qa qc (g := mkF m pc Ls st) rfl hsize (Steps.refl _) (argsL := argsL) (rest := rest) (lenOf hpd hlen) hst (by show 2 * 0 + _ ≤ _; omega) hd (fun _ _ => ⟨rfl, eT, hc, hs⟩)
  dsimp only [Pt.U, Pt.locs, Pt.cells, Pt.slots] at X' hl1 hl2 hl3 hst' hQ hC' hS' hg'
  subst hl1 hl2 hl3
  obtain ⟨s₂, v', L'', S, r⟩ := G v _ hQ T' T'.vm _ T'.heap.size hz hel X' (foldS hS (by rw [eT]; exact hk) hS' hg') (Nat.le_refl _) (hC.trans hC') (fun x hx => ⟨Nat.lt_of_lt_of_le (hF x hx).1 hC'.2.1, hC'.safe (hF x hx).1 (hF x hx).2⟩) (Fr.app Nf hF') rfl
  exact ⟨s₂, v', L'', hst'.trans S, r⟩
theorem Go.instNull (hx : p.tables.exec = Jvm.exec) {index : Nat} (hd : decode c.code pc = .ok (.instanceof index, 3)) (hq : q = pc + 3) (G : Go p l e R s m args below meth c n0 C N Q Z a0 EL hh0 SF h ce sl q Ls (.int 0 :: st)) : Go p l e R s m args below meth c n0 C N Q Z a0 EL hh0 SF h ce sl pc Ls (.null :: st) := by
  subst hq
  exact Go.step (fun T vm0 k0 locs target X hS eT S => X.instanceofNull hx (g := mkF m pc Ls (.null :: st)) rfl rfl hd target S) G
theorem Go.castNull (hx : p.tables.exec = Jvm.exec) {index : Nat} (hd : decode c.code pc = .ok (.checkcast index, 3)) (hq : q = pc + 3) (G : Go p l e R s m args below meth c n0 C N Q Z a0 EL hh0 SF h ce sl q Ls (.null :: st)) : Go p l e R s m args below meth c n0 C N Q Z a0 EL hh0 SF h ce sl pc Ls (.null :: st) := by
  subst hq
  exact Go.step (fun T vm0 k0 locs target X hS eT S => X.checkcastNull hx (g := mkF m pc Ls (.null :: st)) rfl rfl hd target S) G
theorem Go.instNo (hx : p.tables.exec = Jvm.exec) (hZ : Z.Warmed39 s.vm) {own K C' : String} {index : Nat} (hown : s.vm.findClass own = some m.cls) (w1 : (Cond.classLink own index K).before a0 Z = true) {a : Addr} (E : Exa Z h a C') (F : ∃ c t, Z.vm.findClass C' = some c ∧ Z.vm.findClass K = some t ∧ Z.vm.assignable c t = false) (hd : decode c.code pc = .ok (.instanceof index, 3)) (hq : q = pc + 3) (G : Go p l e R s m args below meth c n0 C N Q Z a0 EL hh0 SF h ce sl q Ls (.int 0 :: st)) : Go p l e R s m args below meth c n0 C N Q Z a0 EL hh0 SF h ce sl pc Ls (.ref a :: st) := by
  subst hq
  exact Go.law (fun T vm0 k0 locs X hS eT => Jvm.RoadKit.instNo X hx (wZ hZ hS) (wO hown hS) w1 eT E F (g := mkF m pc Ls (.ref a :: st)) rfl rfl hd) G
theorem Go.aaloadC (hx : p.tables.exec = Jvm.exec) (hZ : Z.Warmed39 s.vm) {a : Addr} {cl : Cell} {ty : FieldType} {j : Int32} {v : Value} (A : Arr Z h a cl ty) (hty : ty.isReference = true) (hj : ¬ (j < 0 ∨ cl.slots.size ≤ j.toNatClampNeg)) (hv : cl.slots[j.toNatClampNeg]? = some v) (hd : decode c.code pc = .ok (.aaload, 1)) (hq : q = pc + 1) (G : Go p l e R s m args below meth c n0 C N Q Z a0 EL hh0 SF h ce sl q Ls (v :: st)) : Go p l e R s m args below meth c n0 C N Q Z a0 EL hh0 SF h ce sl pc Ls (.int j :: .ref a :: st) := by
  subst hq
  exact Go.step (fun T vm0 k0 locs target X hS eT S => X.aaload hx (by rw [eT]; exact A.1) (State.isArrayOf_alike (wZ hZ hS).alike A.2.1) hty A.2.2 hj hv (g := mkF m pc Ls (.int j :: .ref a :: st)) rfl rfl hd target S) G
theorem cat_ref {v : Value} (hv : v.isRef = true) : v.category = 1 := by rcases ref_cases hv with rfl | ⟨x, rfl⟩ <;> rfl
theorem nar_ref {v : Value} {t : FieldType} (hv : v.isRef = true) (ht : t.isReference = true) : narrow t v = v := by rcases ref_cases hv with rfl | ⟨x, rfl⟩ <;> cases t <;> rfl
theorem fits_of_ref {v : Value} {t : FieldType} (hv : v.isRef = true) (ht : t.isReference = true) : fits t v = true := by rcases ref_cases hv with rfl | ⟨x, rfl⟩ <;> cases t <;> first | rfl | cases ht
theorem cmpL_gt (x y : Int64) : (0 : Int32) < XT.cmpL x y ↔ y < x := by
  unfold XT.cmpL; split <;> (try split) <;> simp_all <;> decide
theorem cmpL_lt (x y : Int64) : XT.cmpL x y < (0 : Int32) ↔ x < y := by
  unfold XT.cmpL; split <;> (try split) <;> simp_all [Int64.lt_iff_toInt_lt, ← Int64.toInt_inj, Int32.lt_iff_toInt_lt] <;> omega
theorem cmpL_eq (x y : Int64) : XT.cmpL x y = (0 : Int32) ↔ x = y := by
  unfold XT.cmpL; split <;> (try split) <;> simp_all [Int64.lt_iff_toInt_lt, ← Int64.toInt_inj] <;> omega
theorem ns_root {K O : String} {kn : Nat} (w1 : (Cond.noSuperclass O).before a0 Z = true) (wk : (Cond.instantiable K kn).before a0 Z = true) (hn : O ≠ K) : NS Z O K := by
  obtain ⟨c, k, h1, h2, h3, -, -⟩ := Cond.noSuperclass_spec w1
  obtain ⟨t, kt, g1, -⟩ := Cond.instantiable_spec wk
  have ne := ids_ne h1 g1 hn
  refine ⟨c, t, h1, g1, fun fuel => ?_⟩
  cases fuel with
  | zero => rfl
  | succ f => simp [Vm.isSubclassAux, ne, h2, h3]
theorem ns_no {C' S K : String} {kn : Nat} (w1 : (Cond.superclass C' S).before a0 Z = true) (wk : (Cond.instantiable K kn).before a0 Z = true) (nn : NS Z C' K) (hn : C' ≠ K) : ∃ c t, Z.vm.findClass C' = some c ∧ Z.vm.findClass K = some t ∧ Z.vm.assignable c t = false := by
  obtain ⟨c, t, h0, g0, n3⟩ := nn
  obtain ⟨p, k, kp, h1, h2, h3, h4, h5, -, h7⟩ := Cond.superclass_spec h0 w1
  obtain ⟨t', kt, g1, g2, g5, g7, -⟩ := Cond.instantiable_spec wk
  cases g0.symm.trans g1
  have g8 : kt.isInterface = false := by rw [Bool.or_eq_false_iff] at g7; exact g7.1
  have ne := ids_ne h0 g0 hn
  refine ⟨c, t, h0, g0, ?_⟩
  show Z.vm.assignableAux (255 + 1) c t = false
  simp [Vm.assignableAux, ne, h2, g2, h5, g5, g8, Vm.isSubclass, n3]
theorem Go.ldcStr (hx : p.tables.exec = Jvm.exec) (hZ : Z.Warmed39 s.vm) {own text : String} {index nn ce' sl' : Nat} {vs : List Value} {z : Int32} (hown : s.vm.findClass own = some m.cls) (w1 : (Cond.stringLink own index text).before a0 Z = true) (wS : ∀ a ∈ Bundle.stringAtoms, a.before a0 Z = true) (hmem : (own, index) ∈ EL)
    (ht : (∀ c ∈ text.toList, c.toNat < 256) ∧ text.toList.map (fun c => Value.int (Jvm.Lit.byteI c.toNat.toUInt16)) = vs) (hz : ¬ z < 0) (hl : z.toNatClampNeg = vs.length) (hd : decode c.code pc = .ok (.ldc index, 2)) (hq : q = pc + 2) (hn : 4 * text.toList.length ≤ nn) (hbig : nn ≤ 536870912) (hce : ce + 2 = ce') (hsl : sl + (nn + 4) = sl') (hc : ce' ≤ R.cells) (hl' : sl' ≤ R.slots)
    (G : ∀ (h' : Heap) (a b : Addr) (k : ClassId), Ext h h' → Exa Z h' a "java/lang/String" → Fld Z h' a "java/lang/String" "coder" "B" (.int 0) → Fld Z h' a "java/lang/String" "value" "[B" (.ref b) → Arv Z h' b k .byte z vs (.int 0) → (∀ x ∈ SF, x ≠ a ∧ x ≠ b) → Go p l e R s m args below meth c n0 C N Q Z a0 EL hh0 SF h' ce' sl' q Ls (.ref a :: st)) : Go p l e R s m args below meth c n0 C N Q Z a0 EL hh0 SF h ce sl pc Ls st := fun T vm0 locs k0 hz' hel X hS hk hC hF Nf eT => by
  subst hq hce hsl
  obtain ⟨a, T', h', k1, b, k, X', eT', E, hS', hk', hZ', hown', x1, x2, x3, x4, x5, x6, hC', hL, hne, hs⟩ := ldcCH X hx (wZ hZ hS) (wO hown hS) w1 wS eT hS hk hel hmem hC.1 ht hz hl (g := mkF m pc Ls st) rfl hd hn hbig hc hl'
  have hF' : ∀ x ∈ SF, x < h'.size ∧ Safe Z EL T'.vm h' x := fun x hx => ⟨Nat.lt_of_lt_of_le (hF x hx).1 E.1, hC'.safe (hF x hx).1 (hF x hx).2⟩
  obtain ⟨s₂, v', L', S, r⟩ := G h' a b k E x1 x2 x3 x4 (fun x hx => hne x (hF' x hx).2) T' T'.vm _ k1 hz' hel X' hS' hk' (hC.trans hC') hF' Nf eT'
  exact ⟨s₂, v', L', hs _ S, r⟩
theorem Go.ldcOpq (hx : p.tables.exec = Jvm.exec) (hZ : Z.Warmed39 s.vm) {own text : String} {index nn ce' sl' : Nat} (hown : s.vm.findClass own = some m.cls) (w1 : (Cond.stringLink own index text).before a0 Z = true) (wS : ∀ a ∈ Bundle.stringAtoms, a.before a0 Z = true)
    (hd : decode c.code pc = .ok (.ldc index, 2)) (hq : q = pc + 2) (hn : 4 * text.toList.length ≤ nn) (hbig : nn ≤ 536870912) (hce : ce + 2 = ce') (hsl : sl + (nn + 4) = sl') (hc : ce' ≤ R.cells) (hl' : sl' ≤ R.slots)
    (G : ∀ (h' : Heap) (a : Addr), Ext h h' → Go p l e R s m args below meth c n0 C N Q Z a0 EL hh0 SF h' ce' sl' q Ls (.ref a :: st)) : Go p l e R s m args below meth c n0 C N Q Z a0 EL hh0 SF h ce sl pc Ls st := fun T vm0 locs k0 hz' hel X hS hk hC hF Nf eT => by
  subst hq hce hsl
  obtain ⟨a, T', h', k1, X', eT', E, hS', hk', hZ', hown', hC', hL, hs⟩ := ldcOH X hx (wZ hZ hS) (wO hown hS) w1 wS eT hS hk hel hC.1 (g := mkF m pc Ls st) rfl hd hn hbig hc hl'
  have hF' : ∀ x ∈ SF, x < h'.size ∧ Safe Z EL T'.vm h' x := fun x hx => ⟨Nat.lt_of_lt_of_le (hF x hx).1 E.1, hC'.safe (hF x hx).1 (hF x hx).2⟩
  obtain ⟨s₂, v', L', S, r⟩ := G h' a E T' T'.vm _ k1 hz' hel X' hS' hk' (hC.trans hC') hF' Nf eT'
  exact ⟨s₂, v', L', hs _ S, r⟩
end OwnKit
theorem mask255 (x : Int32) : 0 ≤ (x &&& (255 : Int32)).toInt ∧ (x &&& (255 : Int32)).toInt ≤ 255 := by
  have e1 : (x &&& 255).toInt = x.toInt % 2 ^ 8 := Jvm.Kit.i32_mask x 255 (k := 8) (by decide) (by decide)
  omega
theorem char_ok (x : Int32) : ¬ (255 : Int32) < nar .char ((x &&& (255 : Int32)).toUInt32.toUInt16.toUInt32.toInt32) := by
  simp only [nar, i2c_mask]
  have e2 : (255 : Int32).toInt = 255 := rfl
  have := mask255 x
  rw [Int32.lt_iff_toInt_lt]; omega
theorem and3 (x : Int32) : (x &&& (3 : Int32)) = (0 : Int32) ∨ (x &&& (3 : Int32)) = (1 : Int32) ∨ (x &&& (3 : Int32)) = (2 : Int32) ∨ (x &&& (3 : Int32)) = (3 : Int32) := by
  have e1 : (x &&& 3).toInt = x.toInt % 2 ^ 2 := Jvm.Kit.i32_mask x 3 (k := 2) (by decide) (by decide)
  have f0 : (0 : Int32).toInt = 0 := rfl
  have f1 : (1 : Int32).toInt = 1 := rfl
  have f2 : (2 : Int32).toInt = 2 := rfl
  have f3 : (3 : Int32).toInt = 3 := rfl
  simp only [← Int32.toInt_inj]
  omega
theorem d15_0 : decode jdk_52_method_15_code 0 = .ok (.iload_n 1, 1) := by decide +kernel
theorem d15_1 : decode jdk_52_method_15_code 1 = .ok (.aload_n 0, 1) := by decide +kernel
theorem d15_2 : decode jdk_52_method_15_code 2 = .ok (.arraylength, 1) := by decide +kernel
theorem d15_3 : decode jdk_52_method_15_code 3 = .ok (.isub, 1) := by decide +kernel
theorem d15_4 : decode jdk_52_method_15_code 4 = .ok (.bipush 31, 2) := by decide +kernel
theorem d15_6 : decode jdk_52_method_15_code 6 = .ok (.iushr, 1) := by decide +kernel
theorem d15_7 : decode jdk_52_method_15_code 7 = .ok (.i2b, 1) := by decide +kernel
theorem d15_8 : decode jdk_52_method_15_code 8 = .ok (.ireturn, 1) := by decide +kernel
theorem pl_0 : plainFor (⟨"java/lang/StringUTF16", "coderFromArrayLen", "([BI)B"⟩ : MethodName) = true := plainFor_of_name (by first | (simp [plainName, overriddenIn]; done) | decide +kernel)
set_option maxRecDepth 65536 in
set_option maxHeartbeats 40000000 in
theorem rmK (l : Launch) (Z : State) (a0 : Array Value) (hw : ∀ d ∈ tables_1, d.before a0 Z = true) (hel : EW Z a0 consts_1) (b : Addr) (kb : ClassId) (n : Int32) (vs : List Value) (h0 : Heap) (n0 : Nat) (Z0 : n0 ≤ h0.size) (B : Arv Z h0 b kb .byte n vs (.int (0 : Int32))) :
    Met l Z consts_1 [] (⟨"java/lang/StringUTF16", "coderFromArrayLen", "([BI)B"⟩ : MethodName) jdk_52_method_15_code 2 (Option.some FieldType.byte) [] ({ frames := 0, cells := 0, slots := 0, locals := 0 } : Room) #[(.ref b), (.int n)] h0 n0 (fun v h => v = some (.int (0 : Int32)) ∧ h0 = h) := by
  refine Met.of (Ls0 := #[.val (.ref b), .val (.int n)]) pl_0 (by first | (simp [argsToLocals, Value.category]; done) | rfl) hel ?_
  intro p e s m below meth c hx hby hml hret hlk hown hnm hZ
  refine Go.iloadN (q := 1) hx (hb hby d15_0) rfl rfl ?_
  refine Go.aloadN (q := 2) hx (hb hby d15_1) rfl (by rfl) rfl ?_
  refine Go.alen (q := 3) hx hZ B (hb hby d15_2) rfl ?_
  refine Go.isub (q := 4) hx (hb hby d15_3) rfl ?_
  refine Go.bipush (q := 6) (z := (31 : Int32)) hx (hb hby d15_4) rfl rfl ?_
  refine Go.iushr (q := 7) hx (hb hby d15_6) rfl ?_
  refine Go.i2b (q := 8) hx (hb hby d15_7) rfl ?_
  refine Go.retN hx (t := .byte) hret (by simp) hlk (hb hby d15_8) (by decide) (by decide) ?_
  exact ⟨by rw [Int32.sub_self]; rfl, rfl⟩
theorem d2_0 : decode jdk_42_method_149_code 0 = .ok (.aload_n 0, 1) := by decide +kernel
theorem d2_1 : decode jdk_42_method_149_code 1 = .ok (.invokespecial 1, 3) := by decide +kernel
theorem d2_4 : decode jdk_42_method_149_code 4 = .ok (.iload_n 3, 1) := by decide +kernel
theorem d2_5 : decode jdk_42_method_149_code 5 = .ok (.ifCond .ne 22, 3) := by decide +kernel
theorem d2_8 : decode jdk_42_method_149_code 8 = .ok (.aload_n 0, 1) := by decide +kernel
theorem d2_9 : decode jdk_42_method_149_code 9 = .ok (.ldc 7, 2) := by decide +kernel
theorem d2_11 : decode jdk_42_method_149_code 11 = .ok (.getfield 9, 3) := by decide +kernel
theorem d2_14 : decode jdk_42_method_149_code 14 = .ok (.putfield 9, 3) := by decide +kernel
theorem d2_17 : decode jdk_42_method_149_code 17 = .ok (.aload_n 0, 1) := by decide +kernel
theorem d2_18 : decode jdk_42_method_149_code 18 = .ok (.ldc 7, 2) := by decide +kernel
theorem d2_20 : decode jdk_42_method_149_code 20 = .ok (.getfield 15, 3) := by decide +kernel
theorem d2_23 : decode jdk_42_method_149_code 23 = .ok (.putfield 15, 3) := by decide +kernel
theorem d2_26 : decode jdk_42_method_149_code 26 = .ok (.return_, 1) := by decide +kernel
theorem d2_27 : decode jdk_42_method_149_code 27 = .ok (.getstatic 38, 3) := by decide +kernel
theorem d2_30 : decode jdk_42_method_149_code 30 = .ok (.ifCond .eq 28, 3) := by decide +kernel
theorem d2_33 : decode jdk_42_method_149_code 33 = .ok (.aload_n 1, 1) := by decide +kernel
theorem d2_34 : decode jdk_42_method_149_code 34 = .ok (.iload_n 2, 1) := by decide +kernel
theorem d2_35 : decode jdk_42_method_149_code 35 = .ok (.iload_n 3, 1) := by decide +kernel
theorem d2_36 : decode jdk_42_method_149_code 36 = .ok (.invokestatic 177, 3) := by decide +kernel
theorem d2_39 : decode jdk_42_method_149_code 39 = .ok (.astore 5, 2) := by decide +kernel
theorem d2_41 : decode jdk_42_method_149_code 41 = .ok (.aload_n 0, 1) := by decide +kernel
theorem d2_42 : decode jdk_42_method_149_code 42 = .ok (.aload 5, 2) := by decide +kernel
theorem d2_44 : decode jdk_42_method_149_code 44 = .ok (.iload_n 3, 1) := by decide +kernel
theorem d2_45 : decode jdk_42_method_149_code 45 = .ok (.invokestatic 47, 3) := by decide +kernel
theorem d2_48 : decode jdk_42_method_149_code 48 = .ok (.putfield 15, 3) := by decide +kernel
theorem d2_51 : decode jdk_42_method_149_code 51 = .ok (.aload_n 0, 1) := by decide +kernel
theorem d2_52 : decode jdk_42_method_149_code 52 = .ok (.aload 5, 2) := by decide +kernel
theorem d2_54 : decode jdk_42_method_149_code 54 = .ok (.putfield 9, 3) := by decide +kernel
theorem d2_57 : decode jdk_42_method_149_code 57 = .ok (.return_, 1) := by decide +kernel
theorem d2_58 : decode jdk_42_method_149_code 58 = .ok (.aload_n 0, 1) := by decide +kernel
theorem d2_59 : decode jdk_42_method_149_code 59 = .ok (.iconst 1, 1) := by decide +kernel
theorem d2_60 : decode jdk_42_method_149_code 60 = .ok (.putfield 15, 3) := by decide +kernel
theorem d2_63 : decode jdk_42_method_149_code 63 = .ok (.aload_n 0, 1) := by decide +kernel
theorem d2_64 : decode jdk_42_method_149_code 64 = .ok (.aload_n 1, 1) := by decide +kernel
theorem d2_65 : decode jdk_42_method_149_code 65 = .ok (.iload_n 2, 1) := by decide +kernel
theorem d2_66 : decode jdk_42_method_149_code 66 = .ok (.iload_n 3, 1) := by decide +kernel
theorem d2_67 : decode jdk_42_method_149_code 67 = .ok (.invokestatic 180, 3) := by decide +kernel
theorem d2_70 : decode jdk_42_method_149_code 70 = .ok (.putfield 9, 3) := by decide +kernel
theorem d2_73 : decode jdk_42_method_149_code 73 = .ok (.return_, 1) := by decide +kernel
theorem pl_1 : plainFor (⟨"java/lang/String", "<init>", "([CIILjava/lang/Void;)V"⟩ : MethodName) = true := plainFor_of_name (by first | (simp [plainName, overriddenIn]; done) | decide +kernel)
theorem pd_0 : parseMethodDescriptor "()V" = some ⟨[], none⟩ := by decide +kernel
theorem pd_1 : parseMethodDescriptor "([CII)[B" = some ⟨[(.array .char), .int, .int], some (.array .byte)⟩ := by decide +kernel
theorem pd_2 : parseMethodDescriptor "([BI)B" = some ⟨[(.array .byte), .int], some .byte⟩ := by decide +kernel
set_option maxRecDepth 65536 in
set_option maxHeartbeats 40000000 in
theorem rmS0 (l : Launch) (Z : State) (a0 : Array Value) (hw : ∀ d ∈ tables_1, d.before a0 Z = true) (hel : EW Z a0 consts_1) (sa a : Addr) (ka : ClassId) (cst : Int32) (h0 : Heap) (n0 : Nat) (Z0 : n0 ≤ h0.size) (gs : n0 ≤ sa) (nas : a ≠ sa) (E : Exa Z h0 sa "java/lang/String") (F1 : Fld Z h0 sa "java/lang/String" "value" "[B" .null) (F2 : Fld Z h0 sa "java/lang/String" "coder" "B" (.int (0 : Int32))) (A : Arv Z h0 a ka .char (0 : Int32) [] (.int (0 : Int32)))  (X0 : Old Z n0 h0) (SC : Sta Z Z.heap "java/lang/String" "COMPACT_STRINGS" "Z" (.int cst)) (hcs : ¬ cst = (0 : Int32)) :
    Met l Z consts_1 [sa] (⟨"java/lang/String", "<init>", "([CIILjava/lang/Void;)V"⟩ : MethodName) jdk_42_method_149_code 6 (Option.none : Option FieldType) [] ({ frames := 2, cells := 4, slots := 8, locals := 35 } : Room) #[(.ref sa), (.ref a), (.int (0 : Int32)), (.int (0 : Int32)), .null] h0 n0 (fun v h => v = none ∧ Keep h0 h [sa] ∧ ∃ b kb, Fld Z h sa "java/lang/String" "value" "[B" (.ref b) ∧ Fld Z h sa "java/lang/String" "coder" "B" (.int (0 : Int32)) ∧ Arv Z h b kb .byte (0 : Int32) [] (.int (0 : Int32))) := by
  refine Met.of (Ls0 := #[.val (.ref sa), .val (.ref a), .val (.int (0 : Int32)), .val (.int (0 : Int32)), .val .null, .unset]) pl_1 (by first | (simp [argsToLocals, Value.category]; done) | rfl) hel ?_
  have hSA : ∀ d ∈ Bundle.stringAtoms, d.before a0 Z = true := fun d hd => hw d ((by decide +kernel : ∀ d ∈ Bundle.stringAtoms, d ∈ tables_1) d hd)
  intro p e s m below meth c hx hby hml hret hlk hown hnm hZ
  refine Go.aloadN (q := 1) hx (hb hby d2_0) rfl (by rfl) rfl ?_
  refine Go.initO (q := 4) hx hZ hown (hw _ (List.mem_of_getElem? (i := 15) rfl)) (hw _ (List.mem_of_getElem? (i := 16) rfl)) (hw _ (List.mem_of_getElem? (i := 17) rfl)) (by rw [hml]; rfl) (hb hby d2_1) rfl (by decide) (Nat.le_of_ble_eq_true rfl) ?_
  refine Go.iloadN (q := 5) hx (hb hby d2_4) rfl rfl ?_
  refine Go.if_ne (q := 8) (t := 27) hx (hb hby d2_5) (by decide) rfl rfl (fun hc5 => absurd hc5 (by decide)) (fun hc5 => ?_)
  refine Go.aloadN (q := 9) hx (hb hby d2_8) rfl (by rfl) rfl ?_
  refine Go.ldcStr (q := 11) (nn := 0) (z := (0 : Int32)) (vs := []) hx hZ hown (hw _ (List.mem_of_getElem? (i := 18) rfl)) hSA (by decide) ⟨by decide, rfl⟩ (by decide) rfl (hb hby d2_9) rfl (by decide) (by decide) (ce' := 2) (sl' := 4) rfl rfl (by decide) (by decide) (fun h1 a2 b4 k5 E3 x6 x7 x8 x9 nn10 => ?_)
  refine Go.getF (q := 14) hx hZ hown (host := "") (Or.inl (hw _ (List.mem_of_getElem? (i := 24) rfl))) Via.refl x8 (hb hby d2_11) rfl ?_
  refine Go.putF (q := 17) hx hZ hown (host := "") (Or.inl (hw _ (List.mem_of_getElem? (i := 24) rfl))) Via.refl (Fld.ext E3 F1) (Exa.ext E3 E) (Or.inr ⟨(hw _ (List.mem_of_getElem? (i := 20) rfl)), rfl, hnm⟩) (hw _ (List.mem_of_getElem? (i := 5) rfl)) (ty := (.array .byte)) (by decide) rfl rfl gs (by simp) (hb hby d2_14) rfl (fun h11 W12 => ?_)
  refine Go.aloadN (q := 18) hx (hb hby d2_17) rfl (by rfl) rfl ?_
  refine Go.ldcStr (q := 20) (nn := 0) (z := (0 : Int32)) (vs := []) hx hZ hown (hw _ (List.mem_of_getElem? (i := 18) rfl)) hSA (by decide) ⟨by decide, rfl⟩ (by decide) rfl (hb hby d2_18) rfl (by decide) (by decide) (ce' := 4) (sl' := 8) rfl rfl (by decide) (by decide) (fun h13 a14 b16 k17 E15 x18 x19 x20 x21 nn22 => ?_)
  refine Go.getF (q := 23) hx hZ hown (host := "") (Or.inl (hw _ (List.mem_of_getElem? (i := 25) rfl))) Via.refl x19 (hb hby d2_20) rfl ?_
  refine Go.putF (q := 26) hx hZ hown (host := "") (Or.inl (hw _ (List.mem_of_getElem? (i := 25) rfl))) Via.refl (Fld.ext E15 (Fld.other W12 (Fld.ext E3 F2) (Or.inr (slot_ne (C := "java/lang/String") (Or.inr (hw _ (List.mem_of_getElem? (i := 21) rfl))) (Or.inr (hw _ (List.mem_of_getElem? (i := 20) rfl))) (by decide) (by decide : _ = some .byte) (by decide : _ = some (.array .byte)))))) (Exa.ext E15 (Exa.wr W12 (Exa.ext E3 E))) (Or.inr ⟨(hw _ (List.mem_of_getElem? (i := 21) rfl)), rfl, hnm⟩) (hw _ (List.mem_of_getElem? (i := 5) rfl)) (ty := .byte) (by decide) rfl rfl gs (by simp) (hb hby d2_23) rfl (fun h23 W24 => ?_)
  refine Go.ret0 hx hret hlk (hb hby d2_26) (by decide) (by decide) ?_
  exact ⟨rfl, (((((Keep.refl h0 [sa]).ext E3).wr W12 (Or.inl (by simp))).ext E15).wr W24 (Or.inl (by simp))), b4, k5, (Fld.other W24 (Fld.ext E15 (Fld.same W12 (Fld.ext E3 F1))) (Or.inr (slot_ne (C := "java/lang/String") (Or.inr (hw _ (List.mem_of_getElem? (i := 20) rfl))) (Or.inr (hw _ (List.mem_of_getElem? (i := 21) rfl))) (by decide) (by decide : _ = some (.array .byte)) (by decide : _ = some .byte)))), (Fld.same W24 (Fld.ext E15 (Fld.other W12 (Fld.ext E3 F2) (Or.inr (slot_ne (C := "java/lang/String") (Or.inr (hw _ (List.mem_of_getElem? (i := 21) rfl))) (Or.inr (hw _ (List.mem_of_getElem? (i := 20) rfl))) (by decide) (by decide : _ = some .byte) (by decide : _ = some (.array .byte))))))), (((x9.other W12 (nn10 sa (by simp)).2.symm).ext E15).other W24 (nn10 sa (by simp)).2.symm)⟩
theorem d1_0 : decode jdk_42_method_3_code 0 = .ok (.aload_n 0, 1) := by decide +kernel
theorem d1_1 : decode jdk_42_method_3_code 1 = .ok (.aload_n 1, 1) := by decide +kernel
theorem d1_2 : decode jdk_42_method_3_code 2 = .ok (.iconst 0, 1) := by decide +kernel
theorem d1_3 : decode jdk_42_method_3_code 3 = .ok (.aload_n 1, 1) := by decide +kernel
theorem d1_4 : decode jdk_42_method_3_code 4 = .ok (.arraylength, 1) := by decide +kernel
theorem d1_5 : decode jdk_42_method_3_code 5 = .ok (.aconst_null, 1) := by decide +kernel
theorem d1_6 : decode jdk_42_method_3_code 6 = .ok (.invokespecial 27, 3) := by decide +kernel
theorem d1_9 : decode jdk_42_method_3_code 9 = .ok (.return_, 1) := by decide +kernel
theorem pl_2 : plainFor (⟨"java/lang/String", "<init>", "([C)V"⟩ : MethodName) = true := plainFor_of_name (by first | (simp [plainName, overriddenIn]; done) | decide +kernel)
theorem pd_3 : parseMethodDescriptor "([CIILjava/lang/Void;)V" = some ⟨[(.array .char), .int, .int, (.object "java/lang/Void")], none⟩ := by decide +kernel
set_option maxRecDepth 65536 in
set_option maxHeartbeats 40000000 in
theorem rmI0 (l : Launch) (Z : State) (a0 : Array Value) (hw : ∀ d ∈ tables_1, d.before a0 Z = true) (hel : EW Z a0 consts_1) (sa a : Addr) (ka : ClassId) (cst : Int32) (h0 : Heap) (n0 : Nat) (Z0 : n0 ≤ h0.size) (gs : n0 ≤ sa) (nas : a ≠ sa) (E : Exa Z h0 sa "java/lang/String") (F1 : Fld Z h0 sa "java/lang/String" "value" "[B" .null) (F2 : Fld Z h0 sa "java/lang/String" "coder" "B" (.int (0 : Int32))) (A : Arv Z h0 a ka .char (0 : Int32) [] (.int (0 : Int32)))  (X0 : Old Z n0 h0) (SC : Sta Z Z.heap "java/lang/String" "COMPACT_STRINGS" "Z" (.int cst)) (hcs : ¬ cst = (0 : Int32)) :
    Met l Z consts_1 [sa] (⟨"java/lang/String", "<init>", "([C)V"⟩ : MethodName) jdk_42_method_3_code 2 (Option.none : Option FieldType) [] ({ frames := 3, cells := 4, slots := 8, locals := 52 } : Room) #[(.ref sa), (.ref a)] h0 n0 (fun v h => v = none ∧ Keep h0 h [sa] ∧ ∃ b kb, Fld Z h sa "java/lang/String" "value" "[B" (.ref b) ∧ Fld Z h sa "java/lang/String" "coder" "B" (.int (0 : Int32)) ∧ Arv Z h b kb .byte (0 : Int32) [] (.int (0 : Int32))) := by
  refine Met.of (Ls0 := #[.val (.ref sa), .val (.ref a)]) pl_2 (by first | (simp [argsToLocals, Value.category]; done) | rfl) hel ?_
  intro p e s m below meth c hx hby hml hret hlk hown hnm hZ
  refine Go.aloadN (q := 1) hx (hb hby d1_0) rfl (by rfl) rfl ?_
  refine Go.aloadN (q := 2) hx (hb hby d1_1) rfl (by rfl) rfl ?_
  refine Go.iconst (q := 3) (z := (0 : Int32)) hx (hb hby d1_2) rfl rfl ?_
  refine Go.aloadN (q := 4) hx (hb hby d1_3) rfl (by rfl) rfl ?_
  refine Go.alen (q := 5) hx hZ A (hb hby d1_4) rfl ?_
  refine Go.aconstNull (q := 6) hx (hb hby d1_5) rfl ?_
  refine Go.callI (q := 9) hx hZ (a := sa) (argsL := [(.ref a), (.int (0 : Int32)), (.int (0 : Int32)), .null]) (rest := []) hown rfl (hw _ (List.mem_of_getElem? (i := 11) rfl)) (hw _ (List.mem_of_getElem? (i := 12) rfl)) (hw _ (List.mem_of_getElem? (i := 6) rfl)) (hw _ (List.mem_of_getElem? (i := 14) rfl)) (by decide) (rmS0 l Z a0 hw hel sa a ka cst  h0 n0 Z0 gs nas E F1 F2 A  X0 SC hcs) (by simp) (by rw [hml]; rfl) pd_3 rfl rfl (hb hby d1_6) rfl (by decide) (Nat.le_of_ble_eq_true rfl) (ce' := 4) (sl' := 8) rfl rfl (by decide) (by decide) (fun v25 h26 hQ27 => ?_)
  obtain ⟨rfl, K28, Y29⟩ := hQ27
  show Go _ _ _ _ _ _ _ _ _ _ _ _ _ _ _ _ _ _ _ _ 4 8 9 #[.val (.ref sa), .val (.ref a)] []
  refine Go.ret0 hx hret hlk (hb hby d1_9) (by decide) (by decide) ?_
  exact ⟨rfl, (Keep.trans (Keep.refl h0 [sa]) K28 (allS (Or.inl (by simp)) all0)), Y29⟩
theorem d14_0 : decode jdk_52_method_21_code 0 = .ok (.iconst 0, 1) := by decide +kernel
theorem d14_1 : decode jdk_52_method_21_code 1 = .ok (.istore 5, 2) := by decide +kernel
theorem d14_3 : decode jdk_52_method_21_code 3 = .ok (.iload 5, 2) := by decide +kernel
theorem d14_5 : decode jdk_52_method_21_code 5 = .ok (.iload 4, 2) := by decide +kernel
theorem d14_7 : decode jdk_52_method_21_code 7 = .ok (.if_icmp .ge 37, 3) := by decide +kernel
theorem d14_10 : decode jdk_52_method_21_code 10 = .ok (.aload_n 0, 1) := by decide +kernel
theorem d14_11 : decode jdk_52_method_21_code 11 = .ok (.iload_n 1, 1) := by decide +kernel
theorem d14_12 : decode jdk_52_method_21_code 12 = .ok (.caload, 1) := by decide +kernel
theorem d14_13 : decode jdk_52_method_21_code 13 = .ok (.istore 6, 2) := by decide +kernel
theorem d14_15 : decode jdk_52_method_21_code 15 = .ok (.iload 6, 2) := by decide +kernel
theorem d14_17 : decode jdk_52_method_21_code 17 = .ok (.sipush 255, 3) := by decide +kernel
theorem d14_20 : decode jdk_52_method_21_code 20 = .ok (.if_icmp .le 6, 3) := by decide +kernel
theorem d14_23 : decode jdk_52_method_21_code 23 = .ok (.iload 5, 2) := by decide +kernel
theorem d14_25 : decode jdk_52_method_21_code 25 = .ok (.ireturn, 1) := by decide +kernel
theorem d14_26 : decode jdk_52_method_21_code 26 = .ok (.aload_n 2, 1) := by decide +kernel
theorem d14_27 : decode jdk_52_method_21_code 27 = .ok (.iload_n 3, 1) := by decide +kernel
theorem d14_28 : decode jdk_52_method_21_code 28 = .ok (.iload 6, 2) := by decide +kernel
theorem d14_30 : decode jdk_52_method_21_code 30 = .ok (.i2b, 1) := by decide +kernel
theorem d14_31 : decode jdk_52_method_21_code 31 = .ok (.bastore, 1) := by decide +kernel
theorem d14_32 : decode jdk_52_method_21_code 32 = .ok (.iinc 1 1, 3) := by decide +kernel
theorem d14_35 : decode jdk_52_method_21_code 35 = .ok (.iinc 3 1, 3) := by decide +kernel
theorem d14_38 : decode jdk_52_method_21_code 38 = .ok (.iinc 5 1, 3) := by decide +kernel
theorem d14_41 : decode jdk_52_method_21_code 41 = .ok (.goto (-38), 3) := by decide +kernel
theorem d14_44 : decode jdk_52_method_21_code 44 = .ok (.iload 4, 2) := by decide +kernel
theorem d14_46 : decode jdk_52_method_21_code 46 = .ok (.ireturn, 1) := by decide +kernel
theorem pl_3 : plainFor (⟨"java/lang/StringUTF16", "compress", "([CI[BII)I"⟩ : MethodName) = true := plainFor_of_name (by first | (simp [plainName, overriddenIn]; done) | decide +kernel)
set_option maxRecDepth 65536 in
set_option maxHeartbeats 40000000 in
theorem rmC1 (l : Launch) (Z : State) (a0 : Array Value) (hw : ∀ d ∈ tables_1, d.before a0 Z = true) (hel : EW Z a0 consts_1) (a b : Addr) (ka kb : ClassId) (c0 : Int32) (h0 : Heap) (n0 : Nat) (Z0 : n0 ≤ h0.size) (A : Arv Z h0 a ka .char (1 : Int32) [.int c0] (.int (0 : Int32))) (B : Arv Z h0 b kb .byte (1 : Int32) [(.int (0 : Int32))] (.int (0 : Int32))) (gb : n0 ≤ b) (nab : a ≠ b) (hp0 : ¬ (255 : Int32) < c0) :
    Met l Z consts_1 [b] (⟨"java/lang/StringUTF16", "compress", "([CI[BII)I"⟩ : MethodName) jdk_52_method_21_code 7 (Option.some FieldType.int) [] ({ frames := 0, cells := 0, slots := 0, locals := 0 } : Room) #[(.ref a), (.int (0 : Int32)), (.ref b), (.int (0 : Int32)), (.int (1 : Int32))] h0 n0 (fun v h => v = some (.int (1 : Int32)) ∧ Keep h0 h [b] ∧ Arv Z h b kb .byte (1 : Int32) [(.int (nar .byte c0.toInt8.toInt32))] (.int (0 : Int32))) := by
  refine Met.of (Ls0 := #[.val (.ref a), .val (.int (0 : Int32)), .val (.ref b), .val (.int (0 : Int32)), .val (.int (1 : Int32)), .unset, .unset]) pl_3 (by first | (simp [argsToLocals, Value.category]; done) | rfl) hel ?_
  intro p e s m below meth c hx hby hml hret hlk hown hnm hZ
  refine Go.iconst (q := 1) (z := (0 : Int32)) hx (hb hby d14_0) rfl rfl ?_
  refine Go.istore (q := 3) (l' := #[.val (.ref a), .val (.int (0 : Int32)), .val (.ref b), .val (.int (0 : Int32)), .val (.int (1 : Int32)), .val (.int (0 : Int32)), .unset]) hx (hb hby d14_1) rfl rfl ?_
  refine Go.iload (q := 5) hx (hb hby d14_3) rfl rfl ?_
  refine Go.iload (q := 7) hx (hb hby d14_5) rfl rfl ?_
  refine Go.icmp_ge (q := 10) (t := 44) hx (hb hby d14_7) (by decide) rfl rfl (fun hc7 => absurd hc7 (by decide)) (fun hc7 => ?_)
  refine Go.aloadN (q := 11) hx (hb hby d14_10) rfl (by rfl) rfl ?_
  refine Go.iloadN (q := 12) hx (hb hby d14_11) rfl rfl ?_
  refine Go.caload (q := 13) (v := (.int c0)) hx hZ A ⟨by decide, by decide⟩ rfl (hb hby d14_12) rfl ?_
  refine Go.istore (q := 15) (l' := #[.val (.ref a), .val (.int (0 : Int32)), .val (.ref b), .val (.int (0 : Int32)), .val (.int (1 : Int32)), .val (.int (0 : Int32)), .val (.int c0)]) hx (hb hby d14_13) rfl rfl ?_
  refine Go.iload (q := 17) hx (hb hby d14_15) rfl rfl ?_
  refine Go.sipush (q := 20) (z := (255 : Int32)) hx (hb hby d14_17) rfl rfl ?_
  refine Go.icmp_le (q := 23) (t := 26) hx (hb hby d14_20) (by decide) rfl rfl (fun hc20 => ?_) (fun hc20 => absurd hc20 hp0)
  refine Go.aloadN (q := 27) hx (hb hby d14_26) rfl (by rfl) rfl ?_
  refine Go.iloadN (q := 28) hx (hb hby d14_27) rfl rfl ?_
  refine Go.iload (q := 30) hx (hb hby d14_28) rfl rfl ?_
  refine Go.i2b (q := 31) hx (hb hby d14_30) rfl ?_
  refine Go.bastore (q := 32) hx hZ B ⟨by decide, by decide⟩ 0 rfl (Nat.le_of_ble_eq_true rfl) gb (by simp) (hb hby d14_31) rfl (fun h30 W31 V32 => ?_)
  refine Go.iinc (q := 35) (l' := #[.val (.ref a), .val (.int ((0 : Int32) + (1 : Int32))), .val (.ref b), .val (.int (0 : Int32)), .val (.int (1 : Int32)), .val (.int (0 : Int32)), .val (.int c0)]) hx (hb hby d14_32) rfl rfl rfl ?_
  refine Go.iinc (q := 38) (l' := #[.val (.ref a), .val (.int ((0 : Int32) + (1 : Int32))), .val (.ref b), .val (.int ((0 : Int32) + (1 : Int32))), .val (.int (1 : Int32)), .val (.int (0 : Int32)), .val (.int c0)]) hx (hb hby d14_35) rfl rfl rfl ?_
  refine Go.iinc (q := 41) (l' := #[.val (.ref a), .val (.int ((0 : Int32) + (1 : Int32))), .val (.ref b), .val (.int ((0 : Int32) + (1 : Int32))), .val (.int (1 : Int32)), .val (.int ((0 : Int32) + (1 : Int32))), .val (.int c0)]) hx (hb hby d14_38) rfl rfl rfl ?_
  refine Go.goto (q := 3) hx (hb hby d14_41) (by decide) rfl ?_
  refine Go.iload (q := 5) hx (hb hby d14_3) rfl rfl ?_
  refine Go.iload (q := 7) hx (hb hby d14_5) rfl rfl ?_
  refine Go.icmp_ge (q := 10) (t := 44) hx (hb hby d14_7) (by decide) rfl rfl (fun hc7_1 => ?_) (fun hc7_1 => absurd hc7_1 (by decide))
  refine Go.iload (q := 46) hx (hb hby d14_44) rfl rfl ?_
  refine Go.retI hx hret hlk (hb hby d14_46) (by decide) (by decide) ?_
  exact ⟨rfl, ((Keep.refl h0 [b]).wr W31 (Or.inl (by simp))), V32⟩
theorem d13_0 : decode jdk_52_method_16_code 0 = .ok (.iload_n 2, 1) := by decide +kernel
theorem d13_1 : decode jdk_52_method_16_code 1 = .ok (.newarray .byte, 2) := by decide +kernel
theorem d13_3 : decode jdk_52_method_16_code 3 = .ok (.astore_n 3, 1) := by decide +kernel
theorem d13_4 : decode jdk_52_method_16_code 4 = .ok (.aload_n 0, 1) := by decide +kernel
theorem d13_5 : decode jdk_52_method_16_code 5 = .ok (.iload_n 1, 1) := by decide +kernel
theorem d13_6 : decode jdk_52_method_16_code 6 = .ok (.aload_n 3, 1) := by decide +kernel
theorem d13_7 : decode jdk_52_method_16_code 7 = .ok (.iconst 0, 1) := by decide +kernel
theorem d13_8 : decode jdk_52_method_16_code 8 = .ok (.iload_n 2, 1) := by decide +kernel
theorem d13_9 : decode jdk_52_method_16_code 9 = .ok (.invokestatic 115, 3) := by decide +kernel
theorem d13_12 : decode jdk_52_method_16_code 12 = .ok (.istore 4, 2) := by decide +kernel
theorem d13_14 : decode jdk_52_method_16_code 14 = .ok (.iload 4, 2) := by decide +kernel
theorem d13_16 : decode jdk_52_method_16_code 16 = .ok (.iload_n 2, 1) := by decide +kernel
theorem d13_17 : decode jdk_52_method_16_code 17 = .ok (.if_icmp .eq 40, 3) := by decide +kernel
theorem d13_20 : decode jdk_52_method_16_code 20 = .ok (.aload_n 0, 1) := by decide +kernel
theorem d13_21 : decode jdk_52_method_16_code 21 = .ok (.iload_n 1, 1) := by decide +kernel
theorem d13_22 : decode jdk_52_method_16_code 22 = .ok (.iload_n 2, 1) := by decide +kernel
theorem d13_23 : decode jdk_52_method_16_code 23 = .ok (.invokestatic 119, 3) := by decide +kernel
theorem d13_26 : decode jdk_52_method_16_code 26 = .ok (.astore 5, 2) := by decide +kernel
theorem d13_28 : decode jdk_52_method_16_code 28 = .ok (.aload 5, 2) := by decide +kernel
theorem d13_30 : decode jdk_52_method_16_code 30 = .ok (.iload 4, 2) := by decide +kernel
theorem d13_32 : decode jdk_52_method_16_code 32 = .ok (.invokestatic 71, 3) := by decide +kernel
theorem d13_35 : decode jdk_52_method_16_code 35 = .ok (.sipush 255, 3) := by decide +kernel
theorem d13_38 : decode jdk_52_method_16_code 38 = .ok (.if_icmp .gt 16, 3) := by decide +kernel
theorem d13_41 : decode jdk_52_method_16_code 41 = .ok (.aload 5, 2) := by decide +kernel
theorem d13_43 : decode jdk_52_method_16_code 43 = .ok (.iconst 0, 1) := by decide +kernel
theorem d13_44 : decode jdk_52_method_16_code 44 = .ok (.aload_n 3, 1) := by decide +kernel
theorem d13_45 : decode jdk_52_method_16_code 45 = .ok (.iconst 0, 1) := by decide +kernel
theorem d13_46 : decode jdk_52_method_16_code 46 = .ok (.iload_n 2, 1) := by decide +kernel
theorem d13_47 : decode jdk_52_method_16_code 47 = .ok (.invokestatic 123, 3) := by decide +kernel
theorem d13_50 : decode jdk_52_method_16_code 50 = .ok (.iload_n 2, 1) := by decide +kernel
theorem d13_51 : decode jdk_52_method_16_code 51 = .ok (.if_icmp .eq 6, 3) := by decide +kernel
theorem d13_54 : decode jdk_52_method_16_code 54 = .ok (.aload 5, 2) := by decide +kernel
theorem d13_56 : decode jdk_52_method_16_code 56 = .ok (.areturn, 1) := by decide +kernel
theorem d13_57 : decode jdk_52_method_16_code 57 = .ok (.aload_n 3, 1) := by decide +kernel
theorem d13_58 : decode jdk_52_method_16_code 58 = .ok (.areturn, 1) := by decide +kernel
theorem pl_4 : plainFor (⟨"java/lang/StringUTF16", "compress", "([CII)[B"⟩ : MethodName) = true := plainFor_of_name (by first | (simp [plainName, overriddenIn]; done) | decide +kernel)
theorem pd_4 : parseMethodDescriptor "([CI[BII)I" = some ⟨[(.array .char), .int, (.array .byte), .int, .int], some .int⟩ := by decide +kernel
set_option maxRecDepth 65536 in
set_option maxHeartbeats 40000000 in
theorem rmD1 (l : Launch) (Z : State) (a0 : Array Value) (hw : ∀ d ∈ tables_1, d.before a0 Z = true) (hel : EW Z a0 consts_1) (a : Addr) (ka : ClassId) (c0 : Int32) (h0 : Heap) (n0 : Nat) (Z0 : n0 ≤ h0.size) (A : Arv Z h0 a ka .char (1 : Int32) [.int c0] (.int (0 : Int32))) (hp0 : ¬ (255 : Int32) < c0) :
    Met l Z consts_1 [] (⟨"java/lang/StringUTF16", "compress", "([CII)[B"⟩ : MethodName) jdk_52_method_16_code 6 (Option.some (FieldType.array FieldType.byte)) [] ({ frames := 1, cells := 1, slots := 1, locals := 18 } : Room) #[(.ref a), (.int (0 : Int32)), (.int (1 : Int32))] h0 n0 (fun v h => ∃ b kb, v = some (.ref b) ∧ h0.size ≤ b ∧ Keep h0 h [] ∧ Arv Z h b kb .byte (1 : Int32) [(.int (nar .byte c0.toInt8.toInt32))] (.int (0 : Int32))) := by
  refine Met.of (Ls0 := #[.val (.ref a), .val (.int (0 : Int32)), .val (.int (1 : Int32)), .unset, .unset, .unset]) pl_4 (by first | (simp [argsToLocals, Value.category]; done) | rfl) hel ?_
  intro p e s m below meth c hx hby hml hret hlk hown hnm hZ
  refine Go.iloadN (q := 1) hx (hb hby d13_0) rfl rfl ?_
  refine Go.newP (q := 3) (cap := 1) hx hZ (hw _ (List.mem_of_getElem? (i := 19) rfl)) (by decide) (by decide) (hb hby d13_1) rfl (by decide) (ce' := 1) (sl' := 1) rfl rfl (by decide) (by decide) (fun h33 a34 k35 g36 E37 A38 => ?_)
  have ne39 : a ≠ a34 := by rw [g36]; exact Nat.ne_of_lt (A).lt
  have gz40 : n0 ≤ a34 := by rw [g36]; exact Z0
  have gk41 : h0.size ≤ a34 := by rw [g36]; exact (Keep.refl h0 []).1
  have V42 : Arv Z h33 a34 k35 .byte (1 : Int32) [(.int (0 : Int32))] (.int (0 : Int32)) := A38.pad (pad_rep [] (.int (0 : Int32)) 1)
  refine Go.astoreN (q := 4) (l' := #[.val (.ref a), .val (.int (0 : Int32)), .val (.int (1 : Int32)), .val (.ref a34), .unset, .unset]) hx (hb hby d13_3) (by rfl) rfl rfl ?_
  refine Go.aloadN (q := 5) hx (hb hby d13_4) rfl (by rfl) rfl ?_
  refine Go.iloadN (q := 6) hx (hb hby d13_5) rfl rfl ?_
  refine Go.aloadN (q := 7) hx (hb hby d13_6) rfl (by rfl) rfl ?_
  refine Go.iconst (q := 8) (z := (0 : Int32)) hx (hb hby d13_7) rfl rfl ?_
  refine Go.iloadN (q := 9) hx (hb hby d13_8) rfl rfl ?_
  refine Go.callS (q := 12) hx hZ (argsL := [(.ref a), (.int (0 : Int32)), (.ref a34), (.int (0 : Int32)), (.int (1 : Int32))]) (rest := []) hown (hw _ (List.mem_of_getElem? (i := 93) rfl)) (hw _ (List.mem_of_getElem? (i := 94) rfl)) (hw _ (List.mem_of_getElem? (i := 91) rfl)) (hw _ (List.mem_of_getElem? (i := 95) rfl)) (by decide) (rmC1 l Z a0 hw hel a a34 ka k35 c0 h33 n0 (Nat.le_trans Z0 E37.1) (A.ext E37) V42 gz40 ne39 hp0) (by simp) (by rw [hml]; rfl) pd_4 rfl rfl (hb hby d13_9) rfl (by decide) (Nat.le_of_ble_eq_true rfl) (ce' := 1) (sl' := 1) rfl rfl (by decide) (by decide) (fun v43 h44 hQ45 => ?_)
  obtain ⟨rfl, K46, V47⟩ := hQ45
  show Go _ _ _ _ _ _ _ _ _ _ _ _ _ _ _ _ _ _ _ _ 1 1 12 #[.val (.ref a), .val (.int (0 : Int32)), .val (.int (1 : Int32)), .val (.ref a34), .unset, .unset] [(.int (1 : Int32))]
  refine Go.istore (q := 14) (l' := #[.val (.ref a), .val (.int (0 : Int32)), .val (.int (1 : Int32)), .val (.ref a34), .val (.int (1 : Int32)), .unset]) hx (hb hby d13_12) rfl rfl ?_
  refine Go.iload (q := 16) hx (hb hby d13_14) rfl rfl ?_
  refine Go.iloadN (q := 17) hx (hb hby d13_16) rfl rfl ?_
  refine Go.icmp_eq (q := 20) (t := 57) hx (hb hby d13_17) (by decide) rfl rfl (fun hc17 => ?_) (fun hc17 => absurd hc17 (by decide))
  refine Go.aloadN (q := 58) hx (hb hby d13_57) rfl (by rfl) rfl ?_
  refine Go.retA hx hret rfl (by rfl) hlk (hb hby d13_58) (by decide) (by decide) ?_
  exact ⟨a34, _, rfl, gk41, (Keep.trans ((Keep.refl h0 []).ext E37) K46 (allS (Or.inr gk41) all0)), V47⟩
set_option maxRecDepth 65536 in
set_option maxHeartbeats 40000000 in
theorem rmS1 (l : Launch) (Z : State) (a0 : Array Value) (hw : ∀ d ∈ tables_1, d.before a0 Z = true) (hel : EW Z a0 consts_1) (sa a : Addr) (ka : ClassId) (cst : Int32) (c0 : Int32) (h0 : Heap) (n0 : Nat) (Z0 : n0 ≤ h0.size) (gs : n0 ≤ sa) (nas : a ≠ sa) (E : Exa Z h0 sa "java/lang/String") (F1 : Fld Z h0 sa "java/lang/String" "value" "[B" .null) (F2 : Fld Z h0 sa "java/lang/String" "coder" "B" (.int (0 : Int32))) (A : Arv Z h0 a ka .char (1 : Int32) [.int c0] (.int (0 : Int32))) (hp0 : ¬ (255 : Int32) < c0) (X0 : Old Z n0 h0) (SC : Sta Z Z.heap "java/lang/String" "COMPACT_STRINGS" "Z" (.int cst)) (hcs : ¬ cst = (0 : Int32)) :
    Met l Z consts_1 [sa] (⟨"java/lang/String", "<init>", "([CIILjava/lang/Void;)V"⟩ : MethodName) jdk_42_method_149_code 6 (Option.none : Option FieldType) [] ({ frames := 2, cells := 1, slots := 1, locals := 35 } : Room) #[(.ref sa), (.ref a), (.int (0 : Int32)), (.int (1 : Int32)), .null] h0 n0 (fun v h => v = none ∧ Keep h0 h [sa] ∧ ∃ b kb, h0.size ≤ b ∧ Fld Z h sa "java/lang/String" "value" "[B" (.ref b) ∧ Fld Z h sa "java/lang/String" "coder" "B" (.int (0 : Int32)) ∧ Arv Z h b kb .byte (1 : Int32) [(.int (nar .byte c0.toInt8.toInt32))] (.int (0 : Int32))) := by
  refine Met.of (Ls0 := #[.val (.ref sa), .val (.ref a), .val (.int (0 : Int32)), .val (.int (1 : Int32)), .val .null, .unset]) pl_1 (by first | (simp [argsToLocals, Value.category]; done) | rfl) hel ?_
  have hSA : ∀ d ∈ Bundle.stringAtoms, d.before a0 Z = true := fun d hd => hw d ((by decide +kernel : ∀ d ∈ Bundle.stringAtoms, d ∈ tables_1) d hd)
  intro p e s m below meth c hx hby hml hret hlk hown hnm hZ
  refine Go.aloadN (q := 1) hx (hb hby d2_0) rfl (by rfl) rfl ?_
  refine Go.initO (q := 4) hx hZ hown (hw _ (List.mem_of_getElem? (i := 15) rfl)) (hw _ (List.mem_of_getElem? (i := 16) rfl)) (hw _ (List.mem_of_getElem? (i := 17) rfl)) (by rw [hml]; rfl) (hb hby d2_1) rfl (by decide) (Nat.le_of_ble_eq_true rfl) ?_
  refine Go.iloadN (q := 5) hx (hb hby d2_4) rfl rfl ?_
  refine Go.if_ne (q := 8) (t := 27) hx (hb hby d2_5) (by decide) rfl rfl (fun hc5 => ?_) (fun hc5 => absurd hc5 (by decide))
  refine Go.getS (q := 30) hx hZ hown (host := "") (Or.inl (hw _ (List.mem_of_getElem? (i := 88) rfl))) Via.refl (Sta.ext X0.2 SC) (hb hby d2_27) rfl ?_
  refine Go.if_eq (q := 33) (t := 58) hx (hb hby d2_30) (by decide) rfl rfl (fun hc30 => absurd hc30 hcs) (fun hc30 => ?_)
  refine Go.aloadN (q := 34) hx (hb hby d2_33) rfl (by rfl) rfl ?_
  refine Go.iloadN (q := 35) hx (hb hby d2_34) rfl rfl ?_
  refine Go.iloadN (q := 36) hx (hb hby d2_35) rfl rfl ?_
  refine Go.callS (q := 39) hx hZ (argsL := [(.ref a), (.int (0 : Int32)), (.int (1 : Int32))]) (rest := []) hown (hw _ (List.mem_of_getElem? (i := 89) rfl)) (hw _ (List.mem_of_getElem? (i := 90) rfl)) (hw _ (List.mem_of_getElem? (i := 91) rfl)) (hw _ (List.mem_of_getElem? (i := 92) rfl)) (by decide) (rmD1 l Z a0 hw hel a ka c0 h0 n0 Z0 A hp0) (fun _ hx => nomatch hx) (by rw [hml]; rfl) pd_1 rfl rfl (hb hby d2_36) rfl (by decide) (Nat.le_of_ble_eq_true rfl) (ce' := 1) (sl' := 1) rfl rfl (by decide) (by decide) (fun v48 h49 hQ50 => ?_)
  have lt56 := (E).lt
  obtain ⟨b51, k52, rfl, g53, K54, V55⟩ := hQ50
  have ne57 : sa ≠ b51 := Nat.ne_of_lt (Nat.lt_of_lt_of_le lt56 g53)
  show Go _ _ _ _ _ _ _ _ _ _ _ _ _ _ _ _ _ _ _ _ 1 1 39 #[.val (.ref sa), .val (.ref a), .val (.int (0 : Int32)), .val (.int (1 : Int32)), .val .null, .unset] [(.ref b51)]
  refine Go.astore (q := 41) (l' := #[.val (.ref sa), .val (.ref a), .val (.int (0 : Int32)), .val (.int (1 : Int32)), .val .null, .val (.ref b51)]) hx (hb hby d2_39) (by rfl) rfl rfl ?_
  refine Go.aloadN (q := 42) hx (hb hby d2_41) rfl (by rfl) rfl ?_
  refine Go.aload (q := 44) hx (hb hby d2_42) rfl (by rfl) rfl ?_
  refine Go.iloadN (q := 45) hx (hb hby d2_44) rfl rfl ?_
  refine Go.callS (q := 48) hx hZ (argsL := [(.ref b51), (.int (1 : Int32))]) (rest := [(.ref sa)]) hown (hw _ (List.mem_of_getElem? (i := 96) rfl)) (hw _ (List.mem_of_getElem? (i := 97) rfl)) (hw _ (List.mem_of_getElem? (i := 91) rfl)) (hw _ (List.mem_of_getElem? (i := 98) rfl)) (by decide) (rmK l Z a0 hw hel b51 k52 (1 : Int32) _ h49 n0 (Nat.le_trans Z0 K54.1) V55) (fun _ hx => nomatch hx) (by rw [hml]; rfl) pd_2 rfl rfl (hb hby d2_45) rfl (by decide) (Nat.le_of_ble_eq_true rfl) (ce' := 1) (sl' := 1) rfl rfl (by decide) (by decide) (fun v58 h59 hQ60 => ?_)
  obtain ⟨rfl, rfl⟩ := hQ60
  show Go _ _ _ _ _ _ _ _ _ _ _ _ _ _ _ _ _ _ _ _ 1 1 48 #[.val (.ref sa), .val (.ref a), .val (.int (0 : Int32)), .val (.int (1 : Int32)), .val .null, .val (.ref b51)] [(.int (0 : Int32)), (.ref sa)]
  refine Go.putF (q := 51) hx hZ hown (host := "") (Or.inl (hw _ (List.mem_of_getElem? (i := 25) rfl))) Via.refl (F2.keep K54 nin0) (E.keep K54) (Or.inr ⟨(hw _ (List.mem_of_getElem? (i := 21) rfl)), rfl, hnm⟩) (hw _ (List.mem_of_getElem? (i := 5) rfl)) (ty := .byte) (by decide) rfl rfl gs (by simp) (hb hby d2_48) rfl (fun h61 W62 => ?_)
  refine Go.aloadN (q := 52) hx (hb hby d2_51) rfl (by rfl) rfl ?_
  refine Go.aload (q := 54) hx (hb hby d2_52) rfl (by rfl) rfl ?_
  refine Go.putF (q := 57) hx hZ hown (host := "") (Or.inl (hw _ (List.mem_of_getElem? (i := 24) rfl))) Via.refl (Fld.other W62 (F1.keep K54 nin0) (Or.inr (slot_ne (C := "java/lang/String") (Or.inr (hw _ (List.mem_of_getElem? (i := 20) rfl))) (Or.inr (hw _ (List.mem_of_getElem? (i := 21) rfl))) (by decide) (by decide : _ = some (.array .byte)) (by decide : _ = some .byte)))) (Exa.wr W62 (E.keep K54)) (Or.inr ⟨(hw _ (List.mem_of_getElem? (i := 20) rfl)), rfl, hnm⟩) (hw _ (List.mem_of_getElem? (i := 5) rfl)) (ty := (.array .byte)) (by decide) rfl rfl gs (by simp) (hb hby d2_54) rfl (fun h63 W64 => ?_)
  refine Go.ret0 hx hret hlk (hb hby d2_57) (by decide) (by decide) ?_
  exact ⟨rfl, (((Keep.trans (Keep.refl h0 [sa]) K54 all0).wr W62 (Or.inl (by simp))).wr W64 (Or.inl (by simp))), b51, k52, g53, (Fld.same W64 (Fld.other W62 (F1.keep K54 nin0) (Or.inr (slot_ne (C := "java/lang/String") (Or.inr (hw _ (List.mem_of_getElem? (i := 20) rfl))) (Or.inr (hw _ (List.mem_of_getElem? (i := 21) rfl))) (by decide) (by decide : _ = some (.array .byte)) (by decide : _ = some .byte))))), (Fld.other W64 (Fld.same W62 (F2.keep K54 nin0)) (Or.inr (slot_ne (C := "java/lang/String") (Or.inr (hw _ (List.mem_of_getElem? (i := 21) rfl))) (Or.inr (hw _ (List.mem_of_getElem? (i := 20) rfl))) (by decide) (by decide : _ = some .byte) (by decide : _ = some (.array .byte))))), ((V55.other W62 ne57.symm).other W64 ne57.symm)⟩
set_option maxRecDepth 65536 in
set_option maxHeartbeats 40000000 in
theorem rmI1 (l : Launch) (Z : State) (a0 : Array Value) (hw : ∀ d ∈ tables_1, d.before a0 Z = true) (hel : EW Z a0 consts_1) (sa a : Addr) (ka : ClassId) (cst : Int32) (c0 : Int32) (h0 : Heap) (n0 : Nat) (Z0 : n0 ≤ h0.size) (gs : n0 ≤ sa) (nas : a ≠ sa) (E : Exa Z h0 sa "java/lang/String") (F1 : Fld Z h0 sa "java/lang/String" "value" "[B" .null) (F2 : Fld Z h0 sa "java/lang/String" "coder" "B" (.int (0 : Int32))) (A : Arv Z h0 a ka .char (1 : Int32) [.int c0] (.int (0 : Int32))) (hp0 : ¬ (255 : Int32) < c0) (X0 : Old Z n0 h0) (SC : Sta Z Z.heap "java/lang/String" "COMPACT_STRINGS" "Z" (.int cst)) (hcs : ¬ cst = (0 : Int32)) :
    Met l Z consts_1 [sa] (⟨"java/lang/String", "<init>", "([C)V"⟩ : MethodName) jdk_42_method_3_code 2 (Option.none : Option FieldType) [] ({ frames := 3, cells := 1, slots := 1, locals := 52 } : Room) #[(.ref sa), (.ref a)] h0 n0 (fun v h => v = none ∧ Keep h0 h [sa] ∧ ∃ b kb, h0.size ≤ b ∧ Fld Z h sa "java/lang/String" "value" "[B" (.ref b) ∧ Fld Z h sa "java/lang/String" "coder" "B" (.int (0 : Int32)) ∧ Arv Z h b kb .byte (1 : Int32) [(.int (nar .byte c0.toInt8.toInt32))] (.int (0 : Int32))) := by
  refine Met.of (Ls0 := #[.val (.ref sa), .val (.ref a)]) pl_2 (by first | (simp [argsToLocals, Value.category]; done) | rfl) hel ?_
  intro p e s m below meth c hx hby hml hret hlk hown hnm hZ
  refine Go.aloadN (q := 1) hx (hb hby d1_0) rfl (by rfl) rfl ?_
  refine Go.aloadN (q := 2) hx (hb hby d1_1) rfl (by rfl) rfl ?_
  refine Go.iconst (q := 3) (z := (0 : Int32)) hx (hb hby d1_2) rfl rfl ?_
  refine Go.aloadN (q := 4) hx (hb hby d1_3) rfl (by rfl) rfl ?_
  refine Go.alen (q := 5) hx hZ A (hb hby d1_4) rfl ?_
  refine Go.aconstNull (q := 6) hx (hb hby d1_5) rfl ?_
  refine Go.callI (q := 9) hx hZ (a := sa) (argsL := [(.ref a), (.int (0 : Int32)), (.int (1 : Int32)), .null]) (rest := []) hown rfl (hw _ (List.mem_of_getElem? (i := 11) rfl)) (hw _ (List.mem_of_getElem? (i := 12) rfl)) (hw _ (List.mem_of_getElem? (i := 6) rfl)) (hw _ (List.mem_of_getElem? (i := 14) rfl)) (by decide) (rmS1 l Z a0 hw hel sa a ka cst c0 h0 n0 Z0 gs nas E F1 F2 A hp0 X0 SC hcs) (by simp) (by rw [hml]; rfl) pd_3 rfl rfl (hb hby d1_6) rfl (by decide) (Nat.le_of_ble_eq_true rfl) (ce' := 1) (sl' := 1) rfl rfl (by decide) (by decide) (fun v65 h66 hQ67 => ?_)
  obtain ⟨rfl, K68, Y69⟩ := hQ67
  show Go _ _ _ _ _ _ _ _ _ _ _ _ _ _ _ _ _ _ _ _ 1 1 9 #[.val (.ref sa), .val (.ref a)] []
  refine Go.ret0 hx hret hlk (hb hby d1_9) (by decide) (by decide) ?_
  exact ⟨rfl, (Keep.trans (Keep.refl h0 [sa]) K68 (allS (Or.inl (by simp)) all0)), Y69⟩
set_option maxRecDepth 65536 in
set_option maxHeartbeats 40000000 in
theorem rmC2 (l : Launch) (Z : State) (a0 : Array Value) (hw : ∀ d ∈ tables_1, d.before a0 Z = true) (hel : EW Z a0 consts_1) (a b : Addr) (ka kb : ClassId) (c0 c1 : Int32) (h0 : Heap) (n0 : Nat) (Z0 : n0 ≤ h0.size) (A : Arv Z h0 a ka .char (2 : Int32) [.int c0, .int c1] (.int (0 : Int32))) (B : Arv Z h0 b kb .byte (2 : Int32) [(.int (0 : Int32)), (.int (0 : Int32))] (.int (0 : Int32))) (gb : n0 ≤ b) (nab : a ≠ b) (hp0 : ¬ (255 : Int32) < c0) (hp1 : ¬ (255 : Int32) < c1) :
    Met l Z consts_1 [b] (⟨"java/lang/StringUTF16", "compress", "([CI[BII)I"⟩ : MethodName) jdk_52_method_21_code 7 (Option.some FieldType.int) [] ({ frames := 0, cells := 0, slots := 0, locals := 0 } : Room) #[(.ref a), (.int (0 : Int32)), (.ref b), (.int (0 : Int32)), (.int (2 : Int32))] h0 n0 (fun v h => v = some (.int (2 : Int32)) ∧ Keep h0 h [b] ∧ Arv Z h b kb .byte (2 : Int32) [(.int (nar .byte c0.toInt8.toInt32)), (.int (nar .byte c1.toInt8.toInt32))] (.int (0 : Int32))) := by
  refine Met.of (Ls0 := #[.val (.ref a), .val (.int (0 : Int32)), .val (.ref b), .val (.int (0 : Int32)), .val (.int (2 : Int32)), .unset, .unset]) pl_3 (by first | (simp [argsToLocals, Value.category]; done) | rfl) hel ?_
  intro p e s m below meth c hx hby hml hret hlk hown hnm hZ
  refine Go.iconst (q := 1) (z := (0 : Int32)) hx (hb hby d14_0) rfl rfl ?_
  refine Go.istore (q := 3) (l' := #[.val (.ref a), .val (.int (0 : Int32)), .val (.ref b), .val (.int (0 : Int32)), .val (.int (2 : Int32)), .val (.int (0 : Int32)), .unset]) hx (hb hby d14_1) rfl rfl ?_
  refine Go.iload (q := 5) hx (hb hby d14_3) rfl rfl ?_
  refine Go.iload (q := 7) hx (hb hby d14_5) rfl rfl ?_
  refine Go.icmp_ge (q := 10) (t := 44) hx (hb hby d14_7) (by decide) rfl rfl (fun hc7 => absurd hc7 (by decide)) (fun hc7 => ?_)
  refine Go.aloadN (q := 11) hx (hb hby d14_10) rfl (by rfl) rfl ?_
  refine Go.iloadN (q := 12) hx (hb hby d14_11) rfl rfl ?_
  refine Go.caload (q := 13) (v := (.int c0)) hx hZ A ⟨by decide, by decide⟩ rfl (hb hby d14_12) rfl ?_
  refine Go.istore (q := 15) (l' := #[.val (.ref a), .val (.int (0 : Int32)), .val (.ref b), .val (.int (0 : Int32)), .val (.int (2 : Int32)), .val (.int (0 : Int32)), .val (.int c0)]) hx (hb hby d14_13) rfl rfl ?_
  refine Go.iload (q := 17) hx (hb hby d14_15) rfl rfl ?_
  refine Go.sipush (q := 20) (z := (255 : Int32)) hx (hb hby d14_17) rfl rfl ?_
  refine Go.icmp_le (q := 23) (t := 26) hx (hb hby d14_20) (by decide) rfl rfl (fun hc20 => ?_) (fun hc20 => absurd hc20 hp0)
  refine Go.aloadN (q := 27) hx (hb hby d14_26) rfl (by rfl) rfl ?_
  refine Go.iloadN (q := 28) hx (hb hby d14_27) rfl rfl ?_
  refine Go.iload (q := 30) hx (hb hby d14_28) rfl rfl ?_
  refine Go.i2b (q := 31) hx (hb hby d14_30) rfl ?_
  refine Go.bastore (q := 32) hx hZ B ⟨by decide, by decide⟩ 0 rfl (Nat.le_of_ble_eq_true rfl) gb (by simp) (hb hby d14_31) rfl (fun h70 W71 V72 => ?_)
  refine Go.iinc (q := 35) (l' := #[.val (.ref a), .val (.int ((0 : Int32) + (1 : Int32))), .val (.ref b), .val (.int (0 : Int32)), .val (.int (2 : Int32)), .val (.int (0 : Int32)), .val (.int c0)]) hx (hb hby d14_32) rfl rfl rfl ?_
  refine Go.iinc (q := 38) (l' := #[.val (.ref a), .val (.int ((0 : Int32) + (1 : Int32))), .val (.ref b), .val (.int ((0 : Int32) + (1 : Int32))), .val (.int (2 : Int32)), .val (.int (0 : Int32)), .val (.int c0)]) hx (hb hby d14_35) rfl rfl rfl ?_
  refine Go.iinc (q := 41) (l' := #[.val (.ref a), .val (.int ((0 : Int32) + (1 : Int32))), .val (.ref b), .val (.int ((0 : Int32) + (1 : Int32))), .val (.int (2 : Int32)), .val (.int ((0 : Int32) + (1 : Int32))), .val (.int c0)]) hx (hb hby d14_38) rfl rfl rfl ?_
  refine Go.goto (q := 3) hx (hb hby d14_41) (by decide) rfl ?_
  refine Go.iload (q := 5) hx (hb hby d14_3) rfl rfl ?_
  refine Go.iload (q := 7) hx (hb hby d14_5) rfl rfl ?_
  refine Go.icmp_ge (q := 10) (t := 44) hx (hb hby d14_7) (by decide) rfl rfl (fun hc7_1 => absurd hc7_1 (by decide)) (fun hc7_1 => ?_)
  refine Go.aloadN (q := 11) hx (hb hby d14_10) rfl (by rfl) rfl ?_
  refine Go.iloadN (q := 12) hx (hb hby d14_11) rfl rfl ?_
  refine Go.caload (q := 13) (v := (.int c1)) hx hZ (A.other W71 nab) ⟨by decide, by decide⟩ rfl (hb hby d14_12) rfl ?_
  refine Go.istore (q := 15) (l' := #[.val (.ref a), .val (.int ((0 : Int32) + (1 : Int32))), .val (.ref b), .val (.int ((0 : Int32) + (1 : Int32))), .val (.int (2 : Int32)), .val (.int ((0 : Int32) + (1 : Int32))), .val (.int c1)]) hx (hb hby d14_13) rfl rfl ?_
  refine Go.iload (q := 17) hx (hb hby d14_15) rfl rfl ?_
  refine Go.sipush (q := 20) (z := (255 : Int32)) hx (hb hby d14_17) rfl rfl ?_
  refine Go.icmp_le (q := 23) (t := 26) hx (hb hby d14_20) (by decide) rfl rfl (fun hc20_1 => ?_) (fun hc20_1 => absurd hc20_1 hp1)
  refine Go.aloadN (q := 27) hx (hb hby d14_26) rfl (by rfl) rfl ?_
  refine Go.iloadN (q := 28) hx (hb hby d14_27) rfl rfl ?_
  refine Go.iload (q := 30) hx (hb hby d14_28) rfl rfl ?_
  refine Go.i2b (q := 31) hx (hb hby d14_30) rfl ?_
  refine Go.bastore (q := 32) hx hZ V72 ⟨by decide, by decide⟩ 1 rfl (Nat.le_of_ble_eq_true rfl) gb (by simp) (hb hby d14_31) rfl (fun h73 W74 V75 => ?_)
  refine Go.iinc (q := 35) (l' := #[.val (.ref a), .val (.int (((0 : Int32) + (1 : Int32)) + (1 : Int32))), .val (.ref b), .val (.int ((0 : Int32) + (1 : Int32))), .val (.int (2 : Int32)), .val (.int ((0 : Int32) + (1 : Int32))), .val (.int c1)]) hx (hb hby d14_32) rfl rfl rfl ?_
  refine Go.iinc (q := 38) (l' := #[.val (.ref a), .val (.int (((0 : Int32) + (1 : Int32)) + (1 : Int32))), .val (.ref b), .val (.int (((0 : Int32) + (1 : Int32)) + (1 : Int32))), .val (.int (2 : Int32)), .val (.int ((0 : Int32) + (1 : Int32))), .val (.int c1)]) hx (hb hby d14_35) rfl rfl rfl ?_
  refine Go.iinc (q := 41) (l' := #[.val (.ref a), .val (.int (((0 : Int32) + (1 : Int32)) + (1 : Int32))), .val (.ref b), .val (.int (((0 : Int32) + (1 : Int32)) + (1 : Int32))), .val (.int (2 : Int32)), .val (.int (((0 : Int32) + (1 : Int32)) + (1 : Int32))), .val (.int c1)]) hx (hb hby d14_38) rfl rfl rfl ?_
  refine Go.goto (q := 3) hx (hb hby d14_41) (by decide) rfl ?_
  refine Go.iload (q := 5) hx (hb hby d14_3) rfl rfl ?_
  refine Go.iload (q := 7) hx (hb hby d14_5) rfl rfl ?_
  refine Go.icmp_ge (q := 10) (t := 44) hx (hb hby d14_7) (by decide) rfl rfl (fun hc7_2 => ?_) (fun hc7_2 => absurd hc7_2 (by decide))
  refine Go.iload (q := 46) hx (hb hby d14_44) rfl rfl ?_
  refine Go.retI hx hret hlk (hb hby d14_46) (by decide) (by decide) ?_
  exact ⟨rfl, (((Keep.refl h0 [b]).wr W71 (Or.inl (by simp))).wr W74 (Or.inl (by simp))), V75⟩
set_option maxRecDepth 65536 in
set_option maxHeartbeats 40000000 in
theorem rmD2 (l : Launch) (Z : State) (a0 : Array Value) (hw : ∀ d ∈ tables_1, d.before a0 Z = true) (hel : EW Z a0 consts_1) (a : Addr) (ka : ClassId) (c0 c1 : Int32) (h0 : Heap) (n0 : Nat) (Z0 : n0 ≤ h0.size) (A : Arv Z h0 a ka .char (2 : Int32) [.int c0, .int c1] (.int (0 : Int32))) (hp0 : ¬ (255 : Int32) < c0) (hp1 : ¬ (255 : Int32) < c1) :
    Met l Z consts_1 [] (⟨"java/lang/StringUTF16", "compress", "([CII)[B"⟩ : MethodName) jdk_52_method_16_code 6 (Option.some (FieldType.array FieldType.byte)) [] ({ frames := 1, cells := 1, slots := 2, locals := 18 } : Room) #[(.ref a), (.int (0 : Int32)), (.int (2 : Int32))] h0 n0 (fun v h => ∃ b kb, v = some (.ref b) ∧ h0.size ≤ b ∧ Keep h0 h [] ∧ Arv Z h b kb .byte (2 : Int32) [(.int (nar .byte c0.toInt8.toInt32)), (.int (nar .byte c1.toInt8.toInt32))] (.int (0 : Int32))) := by
  refine Met.of (Ls0 := #[.val (.ref a), .val (.int (0 : Int32)), .val (.int (2 : Int32)), .unset, .unset, .unset]) pl_4 (by first | (simp [argsToLocals, Value.category]; done) | rfl) hel ?_
  intro p e s m below meth c hx hby hml hret hlk hown hnm hZ
  refine Go.iloadN (q := 1) hx (hb hby d13_0) rfl rfl ?_
  refine Go.newP (q := 3) (cap := 2) hx hZ (hw _ (List.mem_of_getElem? (i := 19) rfl)) (by decide) (by decide) (hb hby d13_1) rfl (by decide) (ce' := 1) (sl' := 2) rfl rfl (by decide) (by decide) (fun h76 a77 k78 g79 E80 A81 => ?_)
  have ne82 : a ≠ a77 := by rw [g79]; exact Nat.ne_of_lt (A).lt
  have gz83 : n0 ≤ a77 := by rw [g79]; exact Z0
  have gk84 : h0.size ≤ a77 := by rw [g79]; exact (Keep.refl h0 []).1
  have V85 : Arv Z h76 a77 k78 .byte (2 : Int32) [(.int (0 : Int32)), (.int (0 : Int32))] (.int (0 : Int32)) := A81.pad (pad_rep [] (.int (0 : Int32)) 2)
  refine Go.astoreN (q := 4) (l' := #[.val (.ref a), .val (.int (0 : Int32)), .val (.int (2 : Int32)), .val (.ref a77), .unset, .unset]) hx (hb hby d13_3) (by rfl) rfl rfl ?_
  refine Go.aloadN (q := 5) hx (hb hby d13_4) rfl (by rfl) rfl ?_
  refine Go.iloadN (q := 6) hx (hb hby d13_5) rfl rfl ?_
  refine Go.aloadN (q := 7) hx (hb hby d13_6) rfl (by rfl) rfl ?_
  refine Go.iconst (q := 8) (z := (0 : Int32)) hx (hb hby d13_7) rfl rfl ?_
  refine Go.iloadN (q := 9) hx (hb hby d13_8) rfl rfl ?_
  refine Go.callS (q := 12) hx hZ (argsL := [(.ref a), (.int (0 : Int32)), (.ref a77), (.int (0 : Int32)), (.int (2 : Int32))]) (rest := []) hown (hw _ (List.mem_of_getElem? (i := 93) rfl)) (hw _ (List.mem_of_getElem? (i := 94) rfl)) (hw _ (List.mem_of_getElem? (i := 91) rfl)) (hw _ (List.mem_of_getElem? (i := 95) rfl)) (by decide) (rmC2 l Z a0 hw hel a a77 ka k78 c0 c1 h76 n0 (Nat.le_trans Z0 E80.1) (A.ext E80) V85 gz83 ne82 hp0 hp1) (by simp) (by rw [hml]; rfl) pd_4 rfl rfl (hb hby d13_9) rfl (by decide) (Nat.le_of_ble_eq_true rfl) (ce' := 1) (sl' := 2) rfl rfl (by decide) (by decide) (fun v86 h87 hQ88 => ?_)
  obtain ⟨rfl, K89, V90⟩ := hQ88
  show Go _ _ _ _ _ _ _ _ _ _ _ _ _ _ _ _ _ _ _ _ 1 2 12 #[.val (.ref a), .val (.int (0 : Int32)), .val (.int (2 : Int32)), .val (.ref a77), .unset, .unset] [(.int (2 : Int32))]
  refine Go.istore (q := 14) (l' := #[.val (.ref a), .val (.int (0 : Int32)), .val (.int (2 : Int32)), .val (.ref a77), .val (.int (2 : Int32)), .unset]) hx (hb hby d13_12) rfl rfl ?_
  refine Go.iload (q := 16) hx (hb hby d13_14) rfl rfl ?_
  refine Go.iloadN (q := 17) hx (hb hby d13_16) rfl rfl ?_
  refine Go.icmp_eq (q := 20) (t := 57) hx (hb hby d13_17) (by decide) rfl rfl (fun hc17 => ?_) (fun hc17 => absurd hc17 (by decide))
  refine Go.aloadN (q := 58) hx (hb hby d13_57) rfl (by rfl) rfl ?_
  refine Go.retA hx hret rfl (by rfl) hlk (hb hby d13_58) (by decide) (by decide) ?_
  exact ⟨a77, _, rfl, gk84, (Keep.trans ((Keep.refl h0 []).ext E80) K89 (allS (Or.inr gk84) all0)), V90⟩
set_option maxRecDepth 65536 in
set_option maxHeartbeats 40000000 in
theorem rmS2 (l : Launch) (Z : State) (a0 : Array Value) (hw : ∀ d ∈ tables_1, d.before a0 Z = true) (hel : EW Z a0 consts_1) (sa a : Addr) (ka : ClassId) (cst : Int32) (c0 c1 : Int32) (h0 : Heap) (n0 : Nat) (Z0 : n0 ≤ h0.size) (gs : n0 ≤ sa) (nas : a ≠ sa) (E : Exa Z h0 sa "java/lang/String") (F1 : Fld Z h0 sa "java/lang/String" "value" "[B" .null) (F2 : Fld Z h0 sa "java/lang/String" "coder" "B" (.int (0 : Int32))) (A : Arv Z h0 a ka .char (2 : Int32) [.int c0, .int c1] (.int (0 : Int32))) (hp0 : ¬ (255 : Int32) < c0) (hp1 : ¬ (255 : Int32) < c1) (X0 : Old Z n0 h0) (SC : Sta Z Z.heap "java/lang/String" "COMPACT_STRINGS" "Z" (.int cst)) (hcs : ¬ cst = (0 : Int32)) :
    Met l Z consts_1 [sa] (⟨"java/lang/String", "<init>", "([CIILjava/lang/Void;)V"⟩ : MethodName) jdk_42_method_149_code 6 (Option.none : Option FieldType) [] ({ frames := 2, cells := 1, slots := 2, locals := 35 } : Room) #[(.ref sa), (.ref a), (.int (0 : Int32)), (.int (2 : Int32)), .null] h0 n0 (fun v h => v = none ∧ Keep h0 h [sa] ∧ ∃ b kb, h0.size ≤ b ∧ Fld Z h sa "java/lang/String" "value" "[B" (.ref b) ∧ Fld Z h sa "java/lang/String" "coder" "B" (.int (0 : Int32)) ∧ Arv Z h b kb .byte (2 : Int32) [(.int (nar .byte c0.toInt8.toInt32)), (.int (nar .byte c1.toInt8.toInt32))] (.int (0 : Int32))) := by
  refine Met.of (Ls0 := #[.val (.ref sa), .val (.ref a), .val (.int (0 : Int32)), .val (.int (2 : Int32)), .val .null, .unset]) pl_1 (by first | (simp [argsToLocals, Value.category]; done) | rfl) hel ?_
  have hSA : ∀ d ∈ Bundle.stringAtoms, d.before a0 Z = true := fun d hd => hw d ((by decide +kernel : ∀ d ∈ Bundle.stringAtoms, d ∈ tables_1) d hd)
  intro p e s m below meth c hx hby hml hret hlk hown hnm hZ
  refine Go.aloadN (q := 1) hx (hb hby d2_0) rfl (by rfl) rfl ?_
  refine Go.initO (q := 4) hx hZ hown (hw _ (List.mem_of_getElem? (i := 15) rfl)) (hw _ (List.mem_of_getElem? (i := 16) rfl)) (hw _ (List.mem_of_getElem? (i := 17) rfl)) (by rw [hml]; rfl) (hb hby d2_1) rfl (by decide) (Nat.le_of_ble_eq_true rfl) ?_
  refine Go.iloadN (q := 5) hx (hb hby d2_4) rfl rfl ?_
  refine Go.if_ne (q := 8) (t := 27) hx (hb hby d2_5) (by decide) rfl rfl (fun hc5 => ?_) (fun hc5 => absurd hc5 (by decide))
  refine Go.getS (q := 30) hx hZ hown (host := "") (Or.inl (hw _ (List.mem_of_getElem? (i := 88) rfl))) Via.refl (Sta.ext X0.2 SC) (hb hby d2_27) rfl ?_
  refine Go.if_eq (q := 33) (t := 58) hx (hb hby d2_30) (by decide) rfl rfl (fun hc30 => absurd hc30 hcs) (fun hc30 => ?_)
  refine Go.aloadN (q := 34) hx (hb hby d2_33) rfl (by rfl) rfl ?_
  refine Go.iloadN (q := 35) hx (hb hby d2_34) rfl rfl ?_
  refine Go.iloadN (q := 36) hx (hb hby d2_35) rfl rfl ?_
  refine Go.callS (q := 39) hx hZ (argsL := [(.ref a), (.int (0 : Int32)), (.int (2 : Int32))]) (rest := []) hown (hw _ (List.mem_of_getElem? (i := 89) rfl)) (hw _ (List.mem_of_getElem? (i := 90) rfl)) (hw _ (List.mem_of_getElem? (i := 91) rfl)) (hw _ (List.mem_of_getElem? (i := 92) rfl)) (by decide) (rmD2 l Z a0 hw hel a ka c0 c1 h0 n0 Z0 A hp0 hp1) (fun _ hx => nomatch hx) (by rw [hml]; rfl) pd_1 rfl rfl (hb hby d2_36) rfl (by decide) (Nat.le_of_ble_eq_true rfl) (ce' := 1) (sl' := 2) rfl rfl (by decide) (by decide) (fun v91 h92 hQ93 => ?_)
  have lt99 := (E).lt
  obtain ⟨b94, k95, rfl, g96, K97, V98⟩ := hQ93
  have ne100 : sa ≠ b94 := Nat.ne_of_lt (Nat.lt_of_lt_of_le lt99 g96)
  show Go _ _ _ _ _ _ _ _ _ _ _ _ _ _ _ _ _ _ _ _ 1 2 39 #[.val (.ref sa), .val (.ref a), .val (.int (0 : Int32)), .val (.int (2 : Int32)), .val .null, .unset] [(.ref b94)]
  refine Go.astore (q := 41) (l' := #[.val (.ref sa), .val (.ref a), .val (.int (0 : Int32)), .val (.int (2 : Int32)), .val .null, .val (.ref b94)]) hx (hb hby d2_39) (by rfl) rfl rfl ?_
  refine Go.aloadN (q := 42) hx (hb hby d2_41) rfl (by rfl) rfl ?_
  refine Go.aload (q := 44) hx (hb hby d2_42) rfl (by rfl) rfl ?_
  refine Go.iloadN (q := 45) hx (hb hby d2_44) rfl rfl ?_
  refine Go.callS (q := 48) hx hZ (argsL := [(.ref b94), (.int (2 : Int32))]) (rest := [(.ref sa)]) hown (hw _ (List.mem_of_getElem? (i := 96) rfl)) (hw _ (List.mem_of_getElem? (i := 97) rfl)) (hw _ (List.mem_of_getElem? (i := 91) rfl)) (hw _ (List.mem_of_getElem? (i := 98) rfl)) (by decide) (rmK l Z a0 hw hel b94 k95 (2 : Int32) _ h92 n0 (Nat.le_trans Z0 K97.1) V98) (fun _ hx => nomatch hx) (by rw [hml]; rfl) pd_2 rfl rfl (hb hby d2_45) rfl (by decide) (Nat.le_of_ble_eq_true rfl) (ce' := 1) (sl' := 2) rfl rfl (by decide) (by decide) (fun v101 h102 hQ103 => ?_)
  obtain ⟨rfl, rfl⟩ := hQ103
  show Go _ _ _ _ _ _ _ _ _ _ _ _ _ _ _ _ _ _ _ _ 1 2 48 #[.val (.ref sa), .val (.ref a), .val (.int (0 : Int32)), .val (.int (2 : Int32)), .val .null, .val (.ref b94)] [(.int (0 : Int32)), (.ref sa)]
  refine Go.putF (q := 51) hx hZ hown (host := "") (Or.inl (hw _ (List.mem_of_getElem? (i := 25) rfl))) Via.refl (F2.keep K97 nin0) (E.keep K97) (Or.inr ⟨(hw _ (List.mem_of_getElem? (i := 21) rfl)), rfl, hnm⟩) (hw _ (List.mem_of_getElem? (i := 5) rfl)) (ty := .byte) (by decide) rfl rfl gs (by simp) (hb hby d2_48) rfl (fun h104 W105 => ?_)
  refine Go.aloadN (q := 52) hx (hb hby d2_51) rfl (by rfl) rfl ?_
  refine Go.aload (q := 54) hx (hb hby d2_52) rfl (by rfl) rfl ?_
  refine Go.putF (q := 57) hx hZ hown (host := "") (Or.inl (hw _ (List.mem_of_getElem? (i := 24) rfl))) Via.refl (Fld.other W105 (F1.keep K97 nin0) (Or.inr (slot_ne (C := "java/lang/String") (Or.inr (hw _ (List.mem_of_getElem? (i := 20) rfl))) (Or.inr (hw _ (List.mem_of_getElem? (i := 21) rfl))) (by decide) (by decide : _ = some (.array .byte)) (by decide : _ = some .byte)))) (Exa.wr W105 (E.keep K97)) (Or.inr ⟨(hw _ (List.mem_of_getElem? (i := 20) rfl)), rfl, hnm⟩) (hw _ (List.mem_of_getElem? (i := 5) rfl)) (ty := (.array .byte)) (by decide) rfl rfl gs (by simp) (hb hby d2_54) rfl (fun h106 W107 => ?_)
  refine Go.ret0 hx hret hlk (hb hby d2_57) (by decide) (by decide) ?_
  exact ⟨rfl, (((Keep.trans (Keep.refl h0 [sa]) K97 all0).wr W105 (Or.inl (by simp))).wr W107 (Or.inl (by simp))), b94, k95, g96, (Fld.same W107 (Fld.other W105 (F1.keep K97 nin0) (Or.inr (slot_ne (C := "java/lang/String") (Or.inr (hw _ (List.mem_of_getElem? (i := 20) rfl))) (Or.inr (hw _ (List.mem_of_getElem? (i := 21) rfl))) (by decide) (by decide : _ = some (.array .byte)) (by decide : _ = some .byte))))), (Fld.other W107 (Fld.same W105 (F2.keep K97 nin0)) (Or.inr (slot_ne (C := "java/lang/String") (Or.inr (hw _ (List.mem_of_getElem? (i := 21) rfl))) (Or.inr (hw _ (List.mem_of_getElem? (i := 20) rfl))) (by decide) (by decide : _ = some .byte) (by decide : _ = some (.array .byte))))), ((V98.other W105 ne100.symm).other W107 ne100.symm)⟩
set_option maxRecDepth 65536 in
set_option maxHeartbeats 40000000 in
theorem rmI2 (l : Launch) (Z : State) (a0 : Array Value) (hw : ∀ d ∈ tables_1, d.before a0 Z = true) (hel : EW Z a0 consts_1) (sa a : Addr) (ka : ClassId) (cst : Int32) (c0 c1 : Int32) (h0 : Heap) (n0 : Nat) (Z0 : n0 ≤ h0.size) (gs : n0 ≤ sa) (nas : a ≠ sa) (E : Exa Z h0 sa "java/lang/String") (F1 : Fld Z h0 sa "java/lang/String" "value" "[B" .null) (F2 : Fld Z h0 sa "java/lang/String" "coder" "B" (.int (0 : Int32))) (A : Arv Z h0 a ka .char (2 : Int32) [.int c0, .int c1] (.int (0 : Int32))) (hp0 : ¬ (255 : Int32) < c0) (hp1 : ¬ (255 : Int32) < c1) (X0 : Old Z n0 h0) (SC : Sta Z Z.heap "java/lang/String" "COMPACT_STRINGS" "Z" (.int cst)) (hcs : ¬ cst = (0 : Int32)) :
    Met l Z consts_1 [sa] (⟨"java/lang/String", "<init>", "([C)V"⟩ : MethodName) jdk_42_method_3_code 2 (Option.none : Option FieldType) [] ({ frames := 3, cells := 1, slots := 2, locals := 52 } : Room) #[(.ref sa), (.ref a)] h0 n0 (fun v h => v = none ∧ Keep h0 h [sa] ∧ ∃ b kb, h0.size ≤ b ∧ Fld Z h sa "java/lang/String" "value" "[B" (.ref b) ∧ Fld Z h sa "java/lang/String" "coder" "B" (.int (0 : Int32)) ∧ Arv Z h b kb .byte (2 : Int32) [(.int (nar .byte c0.toInt8.toInt32)), (.int (nar .byte c1.toInt8.toInt32))] (.int (0 : Int32))) := by
  refine Met.of (Ls0 := #[.val (.ref sa), .val (.ref a)]) pl_2 (by first | (simp [argsToLocals, Value.category]; done) | rfl) hel ?_
  intro p e s m below meth c hx hby hml hret hlk hown hnm hZ
  refine Go.aloadN (q := 1) hx (hb hby d1_0) rfl (by rfl) rfl ?_
  refine Go.aloadN (q := 2) hx (hb hby d1_1) rfl (by rfl) rfl ?_
  refine Go.iconst (q := 3) (z := (0 : Int32)) hx (hb hby d1_2) rfl rfl ?_
  refine Go.aloadN (q := 4) hx (hb hby d1_3) rfl (by rfl) rfl ?_
  refine Go.alen (q := 5) hx hZ A (hb hby d1_4) rfl ?_
  refine Go.aconstNull (q := 6) hx (hb hby d1_5) rfl ?_
  refine Go.callI (q := 9) hx hZ (a := sa) (argsL := [(.ref a), (.int (0 : Int32)), (.int (2 : Int32)), .null]) (rest := []) hown rfl (hw _ (List.mem_of_getElem? (i := 11) rfl)) (hw _ (List.mem_of_getElem? (i := 12) rfl)) (hw _ (List.mem_of_getElem? (i := 6) rfl)) (hw _ (List.mem_of_getElem? (i := 14) rfl)) (by decide) (rmS2 l Z a0 hw hel sa a ka cst c0 c1 h0 n0 Z0 gs nas E F1 F2 A hp0 hp1 X0 SC hcs) (by simp) (by rw [hml]; rfl) pd_3 rfl rfl (hb hby d1_6) rfl (by decide) (Nat.le_of_ble_eq_true rfl) (ce' := 1) (sl' := 2) rfl rfl (by decide) (by decide) (fun v108 h109 hQ110 => ?_)
  obtain ⟨rfl, K111, Y112⟩ := hQ110
  show Go _ _ _ _ _ _ _ _ _ _ _ _ _ _ _ _ _ _ _ _ 1 2 9 #[.val (.ref sa), .val (.ref a)] []
  refine Go.ret0 hx hret hlk (hb hby d1_9) (by decide) (by decide) ?_
  exact ⟨rfl, (Keep.trans (Keep.refl h0 [sa]) K111 (allS (Or.inl (by simp)) all0)), Y112⟩
set_option maxRecDepth 65536 in
set_option maxHeartbeats 40000000 in
theorem rmC3 (l : Launch) (Z : State) (a0 : Array Value) (hw : ∀ d ∈ tables_1, d.before a0 Z = true) (hel : EW Z a0 consts_1) (a b : Addr) (ka kb : ClassId) (c0 c1 c2 : Int32) (h0 : Heap) (n0 : Nat) (Z0 : n0 ≤ h0.size) (A : Arv Z h0 a ka .char (3 : Int32) [.int c0, .int c1, .int c2] (.int (0 : Int32))) (B : Arv Z h0 b kb .byte (3 : Int32) [(.int (0 : Int32)), (.int (0 : Int32)), (.int (0 : Int32))] (.int (0 : Int32))) (gb : n0 ≤ b) (nab : a ≠ b) (hp0 : ¬ (255 : Int32) < c0) (hp1 : ¬ (255 : Int32) < c1) (hp2 : ¬ (255 : Int32) < c2) :
    Met l Z consts_1 [b] (⟨"java/lang/StringUTF16", "compress", "([CI[BII)I"⟩ : MethodName) jdk_52_method_21_code 7 (Option.some FieldType.int) [] ({ frames := 0, cells := 0, slots := 0, locals := 0 } : Room) #[(.ref a), (.int (0 : Int32)), (.ref b), (.int (0 : Int32)), (.int (3 : Int32))] h0 n0 (fun v h => v = some (.int (3 : Int32)) ∧ Keep h0 h [b] ∧ Arv Z h b kb .byte (3 : Int32) [(.int (nar .byte c0.toInt8.toInt32)), (.int (nar .byte c1.toInt8.toInt32)), (.int (nar .byte c2.toInt8.toInt32))] (.int (0 : Int32))) := by
  refine Met.of (Ls0 := #[.val (.ref a), .val (.int (0 : Int32)), .val (.ref b), .val (.int (0 : Int32)), .val (.int (3 : Int32)), .unset, .unset]) pl_3 (by first | (simp [argsToLocals, Value.category]; done) | rfl) hel ?_
  intro p e s m below meth c hx hby hml hret hlk hown hnm hZ
  refine Go.iconst (q := 1) (z := (0 : Int32)) hx (hb hby d14_0) rfl rfl ?_
  refine Go.istore (q := 3) (l' := #[.val (.ref a), .val (.int (0 : Int32)), .val (.ref b), .val (.int (0 : Int32)), .val (.int (3 : Int32)), .val (.int (0 : Int32)), .unset]) hx (hb hby d14_1) rfl rfl ?_
  refine Go.iload (q := 5) hx (hb hby d14_3) rfl rfl ?_
  refine Go.iload (q := 7) hx (hb hby d14_5) rfl rfl ?_
  refine Go.icmp_ge (q := 10) (t := 44) hx (hb hby d14_7) (by decide) rfl rfl (fun hc7 => absurd hc7 (by decide)) (fun hc7 => ?_)
  refine Go.aloadN (q := 11) hx (hb hby d14_10) rfl (by rfl) rfl ?_
  refine Go.iloadN (q := 12) hx (hb hby d14_11) rfl rfl ?_
  refine Go.caload (q := 13) (v := (.int c0)) hx hZ A ⟨by decide, by decide⟩ rfl (hb hby d14_12) rfl ?_
  refine Go.istore (q := 15) (l' := #[.val (.ref a), .val (.int (0 : Int32)), .val (.ref b), .val (.int (0 : Int32)), .val (.int (3 : Int32)), .val (.int (0 : Int32)), .val (.int c0)]) hx (hb hby d14_13) rfl rfl ?_
  refine Go.iload (q := 17) hx (hb hby d14_15) rfl rfl ?_
  refine Go.sipush (q := 20) (z := (255 : Int32)) hx (hb hby d14_17) rfl rfl ?_
  refine Go.icmp_le (q := 23) (t := 26) hx (hb hby d14_20) (by decide) rfl rfl (fun hc20 => ?_) (fun hc20 => absurd hc20 hp0)
  refine Go.aloadN (q := 27) hx (hb hby d14_26) rfl (by rfl) rfl ?_
  refine Go.iloadN (q := 28) hx (hb hby d14_27) rfl rfl ?_
  refine Go.iload (q := 30) hx (hb hby d14_28) rfl rfl ?_
  refine Go.i2b (q := 31) hx (hb hby d14_30) rfl ?_
  refine Go.bastore (q := 32) hx hZ B ⟨by decide, by decide⟩ 0 rfl (Nat.le_of_ble_eq_true rfl) gb (by simp) (hb hby d14_31) rfl (fun h113 W114 V115 => ?_)
  refine Go.iinc (q := 35) (l' := #[.val (.ref a), .val (.int ((0 : Int32) + (1 : Int32))), .val (.ref b), .val (.int (0 : Int32)), .val (.int (3 : Int32)), .val (.int (0 : Int32)), .val (.int c0)]) hx (hb hby d14_32) rfl rfl rfl ?_
  refine Go.iinc (q := 38) (l' := #[.val (.ref a), .val (.int ((0 : Int32) + (1 : Int32))), .val (.ref b), .val (.int ((0 : Int32) + (1 : Int32))), .val (.int (3 : Int32)), .val (.int (0 : Int32)), .val (.int c0)]) hx (hb hby d14_35) rfl rfl rfl ?_
  refine Go.iinc (q := 41) (l' := #[.val (.ref a), .val (.int ((0 : Int32) + (1 : Int32))), .val (.ref b), .val (.int ((0 : Int32) + (1 : Int32))), .val (.int (3 : Int32)), .val (.int ((0 : Int32) + (1 : Int32))), .val (.int c0)]) hx (hb hby d14_38) rfl rfl rfl ?_
  refine Go.goto (q := 3) hx (hb hby d14_41) (by decide) rfl ?_
  refine Go.iload (q := 5) hx (hb hby d14_3) rfl rfl ?_
  refine Go.iload (q := 7) hx (hb hby d14_5) rfl rfl ?_
  refine Go.icmp_ge (q := 10) (t := 44) hx (hb hby d14_7) (by decide) rfl rfl (fun hc7_1 => absurd hc7_1 (by decide)) (fun hc7_1 => ?_)
  refine Go.aloadN (q := 11) hx (hb hby d14_10) rfl (by rfl) rfl ?_
  refine Go.iloadN (q := 12) hx (hb hby d14_11) rfl rfl ?_
  refine Go.caload (q := 13) (v := (.int c1)) hx hZ (A.other W114 nab) ⟨by decide, by decide⟩ rfl (hb hby d14_12) rfl ?_
  refine Go.istore (q := 15) (l' := #[.val (.ref a), .val (.int ((0 : Int32) + (1 : Int32))), .val (.ref b), .val (.int ((0 : Int32) + (1 : Int32))), .val (.int (3 : Int32)), .val (.int ((0 : Int32) + (1 : Int32))), .val (.int c1)]) hx (hb hby d14_13) rfl rfl ?_
  refine Go.iload (q := 17) hx (hb hby d14_15) rfl rfl ?_
  refine Go.sipush (q := 20) (z := (255 : Int32)) hx (hb hby d14_17) rfl rfl ?_
  refine Go.icmp_le (q := 23) (t := 26) hx (hb hby d14_20) (by decide) rfl rfl (fun hc20_1 => ?_) (fun hc20_1 => absurd hc20_1 hp1)
  refine Go.aloadN (q := 27) hx (hb hby d14_26) rfl (by rfl) rfl ?_
  refine Go.iloadN (q := 28) hx (hb hby d14_27) rfl rfl ?_
  refine Go.iload (q := 30) hx (hb hby d14_28) rfl rfl ?_
  refine Go.i2b (q := 31) hx (hb hby d14_30) rfl ?_
  refine Go.bastore (q := 32) hx hZ V115 ⟨by decide, by decide⟩ 1 rfl (Nat.le_of_ble_eq_true rfl) gb (by simp) (hb hby d14_31) rfl (fun h116 W117 V118 => ?_)
  refine Go.iinc (q := 35) (l' := #[.val (.ref a), .val (.int (((0 : Int32) + (1 : Int32)) + (1 : Int32))), .val (.ref b), .val (.int ((0 : Int32) + (1 : Int32))), .val (.int (3 : Int32)), .val (.int ((0 : Int32) + (1 : Int32))), .val (.int c1)]) hx (hb hby d14_32) rfl rfl rfl ?_
  refine Go.iinc (q := 38) (l' := #[.val (.ref a), .val (.int (((0 : Int32) + (1 : Int32)) + (1 : Int32))), .val (.ref b), .val (.int (((0 : Int32) + (1 : Int32)) + (1 : Int32))), .val (.int (3 : Int32)), .val (.int ((0 : Int32) + (1 : Int32))), .val (.int c1)]) hx (hb hby d14_35) rfl rfl rfl ?_
  refine Go.iinc (q := 41) (l' := #[.val (.ref a), .val (.int (((0 : Int32) + (1 : Int32)) + (1 : Int32))), .val (.ref b), .val (.int (((0 : Int32) + (1 : Int32)) + (1 : Int32))), .val (.int (3 : Int32)), .val (.int (((0 : Int32) + (1 : Int32)) + (1 : Int32))), .val (.int c1)]) hx (hb hby d14_38) rfl rfl rfl ?_
  refine Go.goto (q := 3) hx (hb hby d14_41) (by decide) rfl ?_
  refine Go.iload (q := 5) hx (hb hby d14_3) rfl rfl ?_
  refine Go.iload (q := 7) hx (hb hby d14_5) rfl rfl ?_
  refine Go.icmp_ge (q := 10) (t := 44) hx (hb hby d14_7) (by decide) rfl rfl (fun hc7_2 => absurd hc7_2 (by decide)) (fun hc7_2 => ?_)
  refine Go.aloadN (q := 11) hx (hb hby d14_10) rfl (by rfl) rfl ?_
  refine Go.iloadN (q := 12) hx (hb hby d14_11) rfl rfl ?_
  refine Go.caload (q := 13) (v := (.int c2)) hx hZ ((A.other W114 nab).other W117 nab) ⟨by decide, by decide⟩ rfl (hb hby d14_12) rfl ?_
  refine Go.istore (q := 15) (l' := #[.val (.ref a), .val (.int (((0 : Int32) + (1 : Int32)) + (1 : Int32))), .val (.ref b), .val (.int (((0 : Int32) + (1 : Int32)) + (1 : Int32))), .val (.int (3 : Int32)), .val (.int (((0 : Int32) + (1 : Int32)) + (1 : Int32))), .val (.int c2)]) hx (hb hby d14_13) rfl rfl ?_
  refine Go.iload (q := 17) hx (hb hby d14_15) rfl rfl ?_
  refine Go.sipush (q := 20) (z := (255 : Int32)) hx (hb hby d14_17) rfl rfl ?_
  refine Go.icmp_le (q := 23) (t := 26) hx (hb hby d14_20) (by decide) rfl rfl (fun hc20_2 => ?_) (fun hc20_2 => absurd hc20_2 hp2)
  refine Go.aloadN (q := 27) hx (hb hby d14_26) rfl (by rfl) rfl ?_
  refine Go.iloadN (q := 28) hx (hb hby d14_27) rfl rfl ?_
  refine Go.iload (q := 30) hx (hb hby d14_28) rfl rfl ?_
  refine Go.i2b (q := 31) hx (hb hby d14_30) rfl ?_
  refine Go.bastore (q := 32) hx hZ V118 ⟨by decide, by decide⟩ 2 rfl (Nat.le_of_ble_eq_true rfl) gb (by simp) (hb hby d14_31) rfl (fun h119 W120 V121 => ?_)
  refine Go.iinc (q := 35) (l' := #[.val (.ref a), .val (.int ((((0 : Int32) + (1 : Int32)) + (1 : Int32)) + (1 : Int32))), .val (.ref b), .val (.int (((0 : Int32) + (1 : Int32)) + (1 : Int32))), .val (.int (3 : Int32)), .val (.int (((0 : Int32) + (1 : Int32)) + (1 : Int32))), .val (.int c2)]) hx (hb hby d14_32) rfl rfl rfl ?_
  refine Go.iinc (q := 38) (l' := #[.val (.ref a), .val (.int ((((0 : Int32) + (1 : Int32)) + (1 : Int32)) + (1 : Int32))), .val (.ref b), .val (.int ((((0 : Int32) + (1 : Int32)) + (1 : Int32)) + (1 : Int32))), .val (.int (3 : Int32)), .val (.int (((0 : Int32) + (1 : Int32)) + (1 : Int32))), .val (.int c2)]) hx (hb hby d14_35) rfl rfl rfl ?_
  refine Go.iinc (q := 41) (l' := #[.val (.ref a), .val (.int ((((0 : Int32) + (1 : Int32)) + (1 : Int32)) + (1 : Int32))), .val (.ref b), .val (.int ((((0 : Int32) + (1 : Int32)) + (1 : Int32)) + (1 : Int32))), .val (.int (3 : Int32)), .val (.int ((((0 : Int32) + (1 : Int32)) + (1 : Int32)) + (1 : Int32))), .val (.int c2)]) hx (hb hby d14_38) rfl rfl rfl ?_
  refine Go.goto (q := 3) hx (hb hby d14_41) (by decide) rfl ?_
  refine Go.iload (q := 5) hx (hb hby d14_3) rfl rfl ?_
  refine Go.iload (q := 7) hx (hb hby d14_5) rfl rfl ?_
  refine Go.icmp_ge (q := 10) (t := 44) hx (hb hby d14_7) (by decide) rfl rfl (fun hc7_3 => ?_) (fun hc7_3 => absurd hc7_3 (by decide))
  refine Go.iload (q := 46) hx (hb hby d14_44) rfl rfl ?_
  refine Go.retI hx hret hlk (hb hby d14_46) (by decide) (by decide) ?_
  exact ⟨rfl, ((((Keep.refl h0 [b]).wr W114 (Or.inl (by simp))).wr W117 (Or.inl (by simp))).wr W120 (Or.inl (by simp))), V121⟩
set_option maxRecDepth 65536 in
set_option maxHeartbeats 40000000 in
theorem rmD3 (l : Launch) (Z : State) (a0 : Array Value) (hw : ∀ d ∈ tables_1, d.before a0 Z = true) (hel : EW Z a0 consts_1) (a : Addr) (ka : ClassId) (c0 c1 c2 : Int32) (h0 : Heap) (n0 : Nat) (Z0 : n0 ≤ h0.size) (A : Arv Z h0 a ka .char (3 : Int32) [.int c0, .int c1, .int c2] (.int (0 : Int32))) (hp0 : ¬ (255 : Int32) < c0) (hp1 : ¬ (255 : Int32) < c1) (hp2 : ¬ (255 : Int32) < c2) :
    Met l Z consts_1 [] (⟨"java/lang/StringUTF16", "compress", "([CII)[B"⟩ : MethodName) jdk_52_method_16_code 6 (Option.some (FieldType.array FieldType.byte)) [] ({ frames := 1, cells := 1, slots := 3, locals := 18 } : Room) #[(.ref a), (.int (0 : Int32)), (.int (3 : Int32))] h0 n0 (fun v h => ∃ b kb, v = some (.ref b) ∧ h0.size ≤ b ∧ Keep h0 h [] ∧ Arv Z h b kb .byte (3 : Int32) [(.int (nar .byte c0.toInt8.toInt32)), (.int (nar .byte c1.toInt8.toInt32)), (.int (nar .byte c2.toInt8.toInt32))] (.int (0 : Int32))) := by
  refine Met.of (Ls0 := #[.val (.ref a), .val (.int (0 : Int32)), .val (.int (3 : Int32)), .unset, .unset, .unset]) pl_4 (by first | (simp [argsToLocals, Value.category]; done) | rfl) hel ?_
  intro p e s m below meth c hx hby hml hret hlk hown hnm hZ
  refine Go.iloadN (q := 1) hx (hb hby d13_0) rfl rfl ?_
  refine Go.newP (q := 3) (cap := 3) hx hZ (hw _ (List.mem_of_getElem? (i := 19) rfl)) (by decide) (by decide) (hb hby d13_1) rfl (by decide) (ce' := 1) (sl' := 3) rfl rfl (by decide) (by decide) (fun h122 a123 k124 g125 E126 A127 => ?_)
  have ne128 : a ≠ a123 := by rw [g125]; exact Nat.ne_of_lt (A).lt
  have gz129 : n0 ≤ a123 := by rw [g125]; exact Z0
  have gk130 : h0.size ≤ a123 := by rw [g125]; exact (Keep.refl h0 []).1
  have V131 : Arv Z h122 a123 k124 .byte (3 : Int32) [(.int (0 : Int32)), (.int (0 : Int32)), (.int (0 : Int32))] (.int (0 : Int32)) := A127.pad (pad_rep [] (.int (0 : Int32)) 3)
  refine Go.astoreN (q := 4) (l' := #[.val (.ref a), .val (.int (0 : Int32)), .val (.int (3 : Int32)), .val (.ref a123), .unset, .unset]) hx (hb hby d13_3) (by rfl) rfl rfl ?_
  refine Go.aloadN (q := 5) hx (hb hby d13_4) rfl (by rfl) rfl ?_
  refine Go.iloadN (q := 6) hx (hb hby d13_5) rfl rfl ?_
  refine Go.aloadN (q := 7) hx (hb hby d13_6) rfl (by rfl) rfl ?_
  refine Go.iconst (q := 8) (z := (0 : Int32)) hx (hb hby d13_7) rfl rfl ?_
  refine Go.iloadN (q := 9) hx (hb hby d13_8) rfl rfl ?_
  refine Go.callS (q := 12) hx hZ (argsL := [(.ref a), (.int (0 : Int32)), (.ref a123), (.int (0 : Int32)), (.int (3 : Int32))]) (rest := []) hown (hw _ (List.mem_of_getElem? (i := 93) rfl)) (hw _ (List.mem_of_getElem? (i := 94) rfl)) (hw _ (List.mem_of_getElem? (i := 91) rfl)) (hw _ (List.mem_of_getElem? (i := 95) rfl)) (by decide) (rmC3 l Z a0 hw hel a a123 ka k124 c0 c1 c2 h122 n0 (Nat.le_trans Z0 E126.1) (A.ext E126) V131 gz129 ne128 hp0 hp1 hp2) (by simp) (by rw [hml]; rfl) pd_4 rfl rfl (hb hby d13_9) rfl (by decide) (Nat.le_of_ble_eq_true rfl) (ce' := 1) (sl' := 3) rfl rfl (by decide) (by decide) (fun v132 h133 hQ134 => ?_)
  obtain ⟨rfl, K135, V136⟩ := hQ134
  show Go _ _ _ _ _ _ _ _ _ _ _ _ _ _ _ _ _ _ _ _ 1 3 12 #[.val (.ref a), .val (.int (0 : Int32)), .val (.int (3 : Int32)), .val (.ref a123), .unset, .unset] [(.int (3 : Int32))]
  refine Go.istore (q := 14) (l' := #[.val (.ref a), .val (.int (0 : Int32)), .val (.int (3 : Int32)), .val (.ref a123), .val (.int (3 : Int32)), .unset]) hx (hb hby d13_12) rfl rfl ?_
  refine Go.iload (q := 16) hx (hb hby d13_14) rfl rfl ?_
  refine Go.iloadN (q := 17) hx (hb hby d13_16) rfl rfl ?_
  refine Go.icmp_eq (q := 20) (t := 57) hx (hb hby d13_17) (by decide) rfl rfl (fun hc17 => ?_) (fun hc17 => absurd hc17 (by decide))
  refine Go.aloadN (q := 58) hx (hb hby d13_57) rfl (by rfl) rfl ?_
  refine Go.retA hx hret rfl (by rfl) hlk (hb hby d13_58) (by decide) (by decide) ?_
  exact ⟨a123, _, rfl, gk130, (Keep.trans ((Keep.refl h0 []).ext E126) K135 (allS (Or.inr gk130) all0)), V136⟩
set_option maxRecDepth 65536 in
set_option maxHeartbeats 40000000 in
theorem rmS3 (l : Launch) (Z : State) (a0 : Array Value) (hw : ∀ d ∈ tables_1, d.before a0 Z = true) (hel : EW Z a0 consts_1) (sa a : Addr) (ka : ClassId) (cst : Int32) (c0 c1 c2 : Int32) (h0 : Heap) (n0 : Nat) (Z0 : n0 ≤ h0.size) (gs : n0 ≤ sa) (nas : a ≠ sa) (E : Exa Z h0 sa "java/lang/String") (F1 : Fld Z h0 sa "java/lang/String" "value" "[B" .null) (F2 : Fld Z h0 sa "java/lang/String" "coder" "B" (.int (0 : Int32))) (A : Arv Z h0 a ka .char (3 : Int32) [.int c0, .int c1, .int c2] (.int (0 : Int32))) (hp0 : ¬ (255 : Int32) < c0) (hp1 : ¬ (255 : Int32) < c1) (hp2 : ¬ (255 : Int32) < c2) (X0 : Old Z n0 h0) (SC : Sta Z Z.heap "java/lang/String" "COMPACT_STRINGS" "Z" (.int cst)) (hcs : ¬ cst = (0 : Int32)) :
    Met l Z consts_1 [sa] (⟨"java/lang/String", "<init>", "([CIILjava/lang/Void;)V"⟩ : MethodName) jdk_42_method_149_code 6 (Option.none : Option FieldType) [] ({ frames := 2, cells := 1, slots := 3, locals := 35 } : Room) #[(.ref sa), (.ref a), (.int (0 : Int32)), (.int (3 : Int32)), .null] h0 n0 (fun v h => v = none ∧ Keep h0 h [sa] ∧ ∃ b kb, h0.size ≤ b ∧ Fld Z h sa "java/lang/String" "value" "[B" (.ref b) ∧ Fld Z h sa "java/lang/String" "coder" "B" (.int (0 : Int32)) ∧ Arv Z h b kb .byte (3 : Int32) [(.int (nar .byte c0.toInt8.toInt32)), (.int (nar .byte c1.toInt8.toInt32)), (.int (nar .byte c2.toInt8.toInt32))] (.int (0 : Int32))) := by
  refine Met.of (Ls0 := #[.val (.ref sa), .val (.ref a), .val (.int (0 : Int32)), .val (.int (3 : Int32)), .val .null, .unset]) pl_1 (by first | (simp [argsToLocals, Value.category]; done) | rfl) hel ?_
  have hSA : ∀ d ∈ Bundle.stringAtoms, d.before a0 Z = true := fun d hd => hw d ((by decide +kernel : ∀ d ∈ Bundle.stringAtoms, d ∈ tables_1) d hd)
  intro p e s m below meth c hx hby hml hret hlk hown hnm hZ
  refine Go.aloadN (q := 1) hx (hb hby d2_0) rfl (by rfl) rfl ?_
  refine Go.initO (q := 4) hx hZ hown (hw _ (List.mem_of_getElem? (i := 15) rfl)) (hw _ (List.mem_of_getElem? (i := 16) rfl)) (hw _ (List.mem_of_getElem? (i := 17) rfl)) (by rw [hml]; rfl) (hb hby d2_1) rfl (by decide) (Nat.le_of_ble_eq_true rfl) ?_
  refine Go.iloadN (q := 5) hx (hb hby d2_4) rfl rfl ?_
  refine Go.if_ne (q := 8) (t := 27) hx (hb hby d2_5) (by decide) rfl rfl (fun hc5 => ?_) (fun hc5 => absurd hc5 (by decide))
  refine Go.getS (q := 30) hx hZ hown (host := "") (Or.inl (hw _ (List.mem_of_getElem? (i := 88) rfl))) Via.refl (Sta.ext X0.2 SC) (hb hby d2_27) rfl ?_
  refine Go.if_eq (q := 33) (t := 58) hx (hb hby d2_30) (by decide) rfl rfl (fun hc30 => absurd hc30 hcs) (fun hc30 => ?_)
  refine Go.aloadN (q := 34) hx (hb hby d2_33) rfl (by rfl) rfl ?_
  refine Go.iloadN (q := 35) hx (hb hby d2_34) rfl rfl ?_
  refine Go.iloadN (q := 36) hx (hb hby d2_35) rfl rfl ?_
  refine Go.callS (q := 39) hx hZ (argsL := [(.ref a), (.int (0 : Int32)), (.int (3 : Int32))]) (rest := []) hown (hw _ (List.mem_of_getElem? (i := 89) rfl)) (hw _ (List.mem_of_getElem? (i := 90) rfl)) (hw _ (List.mem_of_getElem? (i := 91) rfl)) (hw _ (List.mem_of_getElem? (i := 92) rfl)) (by decide) (rmD3 l Z a0 hw hel a ka c0 c1 c2 h0 n0 Z0 A hp0 hp1 hp2) (fun _ hx => nomatch hx) (by rw [hml]; rfl) pd_1 rfl rfl (hb hby d2_36) rfl (by decide) (Nat.le_of_ble_eq_true rfl) (ce' := 1) (sl' := 3) rfl rfl (by decide) (by decide) (fun v137 h138 hQ139 => ?_)
  have lt145 := (E).lt
  obtain ⟨b140, k141, rfl, g142, K143, V144⟩ := hQ139
  have ne146 : sa ≠ b140 := Nat.ne_of_lt (Nat.lt_of_lt_of_le lt145 g142)
  show Go _ _ _ _ _ _ _ _ _ _ _ _ _ _ _ _ _ _ _ _ 1 3 39 #[.val (.ref sa), .val (.ref a), .val (.int (0 : Int32)), .val (.int (3 : Int32)), .val .null, .unset] [(.ref b140)]
  refine Go.astore (q := 41) (l' := #[.val (.ref sa), .val (.ref a), .val (.int (0 : Int32)), .val (.int (3 : Int32)), .val .null, .val (.ref b140)]) hx (hb hby d2_39) (by rfl) rfl rfl ?_
  refine Go.aloadN (q := 42) hx (hb hby d2_41) rfl (by rfl) rfl ?_
  refine Go.aload (q := 44) hx (hb hby d2_42) rfl (by rfl) rfl ?_
  refine Go.iloadN (q := 45) hx (hb hby d2_44) rfl rfl ?_
  refine Go.callS (q := 48) hx hZ (argsL := [(.ref b140), (.int (3 : Int32))]) (rest := [(.ref sa)]) hown (hw _ (List.mem_of_getElem? (i := 96) rfl)) (hw _ (List.mem_of_getElem? (i := 97) rfl)) (hw _ (List.mem_of_getElem? (i := 91) rfl)) (hw _ (List.mem_of_getElem? (i := 98) rfl)) (by decide) (rmK l Z a0 hw hel b140 k141 (3 : Int32) _ h138 n0 (Nat.le_trans Z0 K143.1) V144) (fun _ hx => nomatch hx) (by rw [hml]; rfl) pd_2 rfl rfl (hb hby d2_45) rfl (by decide) (Nat.le_of_ble_eq_true rfl) (ce' := 1) (sl' := 3) rfl rfl (by decide) (by decide) (fun v147 h148 hQ149 => ?_)
  obtain ⟨rfl, rfl⟩ := hQ149
  show Go _ _ _ _ _ _ _ _ _ _ _ _ _ _ _ _ _ _ _ _ 1 3 48 #[.val (.ref sa), .val (.ref a), .val (.int (0 : Int32)), .val (.int (3 : Int32)), .val .null, .val (.ref b140)] [(.int (0 : Int32)), (.ref sa)]
  refine Go.putF (q := 51) hx hZ hown (host := "") (Or.inl (hw _ (List.mem_of_getElem? (i := 25) rfl))) Via.refl (F2.keep K143 nin0) (E.keep K143) (Or.inr ⟨(hw _ (List.mem_of_getElem? (i := 21) rfl)), rfl, hnm⟩) (hw _ (List.mem_of_getElem? (i := 5) rfl)) (ty := .byte) (by decide) rfl rfl gs (by simp) (hb hby d2_48) rfl (fun h150 W151 => ?_)
  refine Go.aloadN (q := 52) hx (hb hby d2_51) rfl (by rfl) rfl ?_
  refine Go.aload (q := 54) hx (hb hby d2_52) rfl (by rfl) rfl ?_
  refine Go.putF (q := 57) hx hZ hown (host := "") (Or.inl (hw _ (List.mem_of_getElem? (i := 24) rfl))) Via.refl (Fld.other W151 (F1.keep K143 nin0) (Or.inr (slot_ne (C := "java/lang/String") (Or.inr (hw _ (List.mem_of_getElem? (i := 20) rfl))) (Or.inr (hw _ (List.mem_of_getElem? (i := 21) rfl))) (by decide) (by decide : _ = some (.array .byte)) (by decide : _ = some .byte)))) (Exa.wr W151 (E.keep K143)) (Or.inr ⟨(hw _ (List.mem_of_getElem? (i := 20) rfl)), rfl, hnm⟩) (hw _ (List.mem_of_getElem? (i := 5) rfl)) (ty := (.array .byte)) (by decide) rfl rfl gs (by simp) (hb hby d2_54) rfl (fun h152 W153 => ?_)
  refine Go.ret0 hx hret hlk (hb hby d2_57) (by decide) (by decide) ?_
  exact ⟨rfl, (((Keep.trans (Keep.refl h0 [sa]) K143 all0).wr W151 (Or.inl (by simp))).wr W153 (Or.inl (by simp))), b140, k141, g142, (Fld.same W153 (Fld.other W151 (F1.keep K143 nin0) (Or.inr (slot_ne (C := "java/lang/String") (Or.inr (hw _ (List.mem_of_getElem? (i := 20) rfl))) (Or.inr (hw _ (List.mem_of_getElem? (i := 21) rfl))) (by decide) (by decide : _ = some (.array .byte)) (by decide : _ = some .byte))))), (Fld.other W153 (Fld.same W151 (F2.keep K143 nin0)) (Or.inr (slot_ne (C := "java/lang/String") (Or.inr (hw _ (List.mem_of_getElem? (i := 21) rfl))) (Or.inr (hw _ (List.mem_of_getElem? (i := 20) rfl))) (by decide) (by decide : _ = some .byte) (by decide : _ = some (.array .byte))))), ((V144.other W151 ne146.symm).other W153 ne146.symm)⟩
set_option maxRecDepth 65536 in
set_option maxHeartbeats 40000000 in
theorem rmI3 (l : Launch) (Z : State) (a0 : Array Value) (hw : ∀ d ∈ tables_1, d.before a0 Z = true) (hel : EW Z a0 consts_1) (sa a : Addr) (ka : ClassId) (cst : Int32) (c0 c1 c2 : Int32) (h0 : Heap) (n0 : Nat) (Z0 : n0 ≤ h0.size) (gs : n0 ≤ sa) (nas : a ≠ sa) (E : Exa Z h0 sa "java/lang/String") (F1 : Fld Z h0 sa "java/lang/String" "value" "[B" .null) (F2 : Fld Z h0 sa "java/lang/String" "coder" "B" (.int (0 : Int32))) (A : Arv Z h0 a ka .char (3 : Int32) [.int c0, .int c1, .int c2] (.int (0 : Int32))) (hp0 : ¬ (255 : Int32) < c0) (hp1 : ¬ (255 : Int32) < c1) (hp2 : ¬ (255 : Int32) < c2) (X0 : Old Z n0 h0) (SC : Sta Z Z.heap "java/lang/String" "COMPACT_STRINGS" "Z" (.int cst)) (hcs : ¬ cst = (0 : Int32)) :
    Met l Z consts_1 [sa] (⟨"java/lang/String", "<init>", "([C)V"⟩ : MethodName) jdk_42_method_3_code 2 (Option.none : Option FieldType) [] ({ frames := 3, cells := 1, slots := 3, locals := 52 } : Room) #[(.ref sa), (.ref a)] h0 n0 (fun v h => v = none ∧ Keep h0 h [sa] ∧ ∃ b kb, h0.size ≤ b ∧ Fld Z h sa "java/lang/String" "value" "[B" (.ref b) ∧ Fld Z h sa "java/lang/String" "coder" "B" (.int (0 : Int32)) ∧ Arv Z h b kb .byte (3 : Int32) [(.int (nar .byte c0.toInt8.toInt32)), (.int (nar .byte c1.toInt8.toInt32)), (.int (nar .byte c2.toInt8.toInt32))] (.int (0 : Int32))) := by
  refine Met.of (Ls0 := #[.val (.ref sa), .val (.ref a)]) pl_2 (by first | (simp [argsToLocals, Value.category]; done) | rfl) hel ?_
  intro p e s m below meth c hx hby hml hret hlk hown hnm hZ
  refine Go.aloadN (q := 1) hx (hb hby d1_0) rfl (by rfl) rfl ?_
  refine Go.aloadN (q := 2) hx (hb hby d1_1) rfl (by rfl) rfl ?_
  refine Go.iconst (q := 3) (z := (0 : Int32)) hx (hb hby d1_2) rfl rfl ?_
  refine Go.aloadN (q := 4) hx (hb hby d1_3) rfl (by rfl) rfl ?_
  refine Go.alen (q := 5) hx hZ A (hb hby d1_4) rfl ?_
  refine Go.aconstNull (q := 6) hx (hb hby d1_5) rfl ?_
  refine Go.callI (q := 9) hx hZ (a := sa) (argsL := [(.ref a), (.int (0 : Int32)), (.int (3 : Int32)), .null]) (rest := []) hown rfl (hw _ (List.mem_of_getElem? (i := 11) rfl)) (hw _ (List.mem_of_getElem? (i := 12) rfl)) (hw _ (List.mem_of_getElem? (i := 6) rfl)) (hw _ (List.mem_of_getElem? (i := 14) rfl)) (by decide) (rmS3 l Z a0 hw hel sa a ka cst c0 c1 c2 h0 n0 Z0 gs nas E F1 F2 A hp0 hp1 hp2 X0 SC hcs) (by simp) (by rw [hml]; rfl) pd_3 rfl rfl (hb hby d1_6) rfl (by decide) (Nat.le_of_ble_eq_true rfl) (ce' := 1) (sl' := 3) rfl rfl (by decide) (by decide) (fun v154 h155 hQ156 => ?_)
  obtain ⟨rfl, K157, Y158⟩ := hQ156
  show Go _ _ _ _ _ _ _ _ _ _ _ _ _ _ _ _ _ _ _ _ 1 3 9 #[.val (.ref sa), .val (.ref a)] []
  refine Go.ret0 hx hret hlk (hb hby d1_9) (by decide) (by decide) ?_
  exact ⟨rfl, (Keep.trans (Keep.refl h0 [sa]) K157 (allS (Or.inl (by simp)) all0)), Y158⟩
theorem d0_0 : decode method_2_code 0 = .ok (.iload_n 0, 1) := by decide +kernel
theorem d0_1 : decode method_2_code 1 = .ok (.iconst 1, 1) := by decide +kernel
theorem d0_2 : decode method_2_code 2 = .ok (.iand, 1) := by decide +kernel
theorem d0_3 : decode method_2_code 3 = .ok (.ifCond .eq 5, 3) := by decide +kernel
theorem d0_6 : decode method_2_code 6 = .ok (.aconst_null, 1) := by decide +kernel
theorem d0_7 : decode method_2_code 7 = .ok (.areturn, 1) := by decide +kernel
theorem d0_8 : decode method_2_code 8 = .ok (.iload_n 0, 1) := by decide +kernel
theorem d0_9 : decode method_2_code 9 = .ok (.iconst 1, 1) := by decide +kernel
theorem d0_10 : decode method_2_code 10 = .ok (.iushr, 1) := by decide +kernel
theorem d0_11 : decode method_2_code 11 = .ok (.iconst 3, 1) := by decide +kernel
theorem d0_12 : decode method_2_code 12 = .ok (.iand, 1) := by decide +kernel
theorem d0_13 : decode method_2_code 13 = .ok (.istore_n 1, 1) := by decide +kernel
theorem d0_14 : decode method_2_code 14 = .ok (.iload_n 0, 1) := by decide +kernel
theorem d0_15 : decode method_2_code 15 = .ok (.iconst 3, 1) := by decide +kernel
theorem d0_16 : decode method_2_code 16 = .ok (.iushr, 1) := by decide +kernel
theorem d0_17 : decode method_2_code 17 = .ok (.sipush 255, 3) := by decide +kernel
theorem d0_20 : decode method_2_code 20 = .ok (.iand, 1) := by decide +kernel
theorem d0_21 : decode method_2_code 21 = .ok (.i2c, 1) := by decide +kernel
theorem d0_22 : decode method_2_code 22 = .ok (.istore_n 2, 1) := by decide +kernel
theorem d0_23 : decode method_2_code 23 = .ok (.iload_n 0, 1) := by decide +kernel
theorem d0_24 : decode method_2_code 24 = .ok (.bipush 11, 2) := by decide +kernel
theorem d0_26 : decode method_2_code 26 = .ok (.iushr, 1) := by decide +kernel
theorem d0_27 : decode method_2_code 27 = .ok (.sipush 255, 3) := by decide +kernel
theorem d0_30 : decode method_2_code 30 = .ok (.iand, 1) := by decide +kernel
theorem d0_31 : decode method_2_code 31 = .ok (.i2c, 1) := by decide +kernel
theorem d0_32 : decode method_2_code 32 = .ok (.istore_n 3, 1) := by decide +kernel
theorem d0_33 : decode method_2_code 33 = .ok (.iload_n 0, 1) := by decide +kernel
theorem d0_34 : decode method_2_code 34 = .ok (.bipush 19, 2) := by decide +kernel
theorem d0_36 : decode method_2_code 36 = .ok (.iushr, 1) := by decide +kernel
theorem d0_37 : decode method_2_code 37 = .ok (.sipush 255, 3) := by decide +kernel
theorem d0_40 : decode method_2_code 40 = .ok (.iand, 1) := by decide +kernel
theorem d0_41 : decode method_2_code 41 = .ok (.i2c, 1) := by decide +kernel
theorem d0_42 : decode method_2_code 42 = .ok (.istore 4, 2) := by decide +kernel
theorem d0_44 : decode method_2_code 44 = .ok (.iload_n 1, 1) := by decide +kernel
theorem d0_45 : decode method_2_code 45 = .ok (.ifCond .ne 14, 3) := by decide +kernel
theorem d0_48 : decode method_2_code 48 = .ok (.new 7, 3) := by decide +kernel
theorem d0_51 : decode method_2_code 51 = .ok (.dup, 1) := by decide +kernel
theorem d0_52 : decode method_2_code 52 = .ok (.iconst 0, 1) := by decide +kernel
theorem d0_53 : decode method_2_code 53 = .ok (.newarray .char, 2) := by decide +kernel
theorem d0_55 : decode method_2_code 55 = .ok (.invokespecial 9, 3) := by decide +kernel
theorem d0_58 : decode method_2_code 58 = .ok (.areturn, 1) := by decide +kernel
theorem d0_59 : decode method_2_code 59 = .ok (.iload_n 1, 1) := by decide +kernel
theorem d0_60 : decode method_2_code 60 = .ok (.iconst 1, 1) := by decide +kernel
theorem d0_61 : decode method_2_code 61 = .ok (.if_icmp .ne 18, 3) := by decide +kernel
theorem d0_64 : decode method_2_code 64 = .ok (.new 7, 3) := by decide +kernel
theorem d0_67 : decode method_2_code 67 = .ok (.dup, 1) := by decide +kernel
theorem d0_68 : decode method_2_code 68 = .ok (.iconst 1, 1) := by decide +kernel
theorem d0_69 : decode method_2_code 69 = .ok (.newarray .char, 2) := by decide +kernel
theorem d0_71 : decode method_2_code 71 = .ok (.dup, 1) := by decide +kernel
theorem d0_72 : decode method_2_code 72 = .ok (.iconst 0, 1) := by decide +kernel
theorem d0_73 : decode method_2_code 73 = .ok (.iload_n 2, 1) := by decide +kernel
theorem d0_74 : decode method_2_code 74 = .ok (.castore, 1) := by decide +kernel
theorem d0_75 : decode method_2_code 75 = .ok (.invokespecial 9, 3) := by decide +kernel
theorem d0_78 : decode method_2_code 78 = .ok (.areturn, 1) := by decide +kernel
theorem d0_79 : decode method_2_code 79 = .ok (.iload_n 1, 1) := by decide +kernel
theorem d0_80 : decode method_2_code 80 = .ok (.iconst 2, 1) := by decide +kernel
theorem d0_81 : decode method_2_code 81 = .ok (.if_icmp .ne 22, 3) := by decide +kernel
theorem d0_84 : decode method_2_code 84 = .ok (.new 7, 3) := by decide +kernel
theorem d0_87 : decode method_2_code 87 = .ok (.dup, 1) := by decide +kernel
theorem d0_88 : decode method_2_code 88 = .ok (.iconst 2, 1) := by decide +kernel
theorem d0_89 : decode method_2_code 89 = .ok (.newarray .char, 2) := by decide +kernel
theorem d0_91 : decode method_2_code 91 = .ok (.dup, 1) := by decide +kernel
theorem d0_92 : decode method_2_code 92 = .ok (.iconst 0, 1) := by decide +kernel
theorem d0_93 : decode method_2_code 93 = .ok (.iload_n 2, 1) := by decide +kernel
theorem d0_94 : decode method_2_code 94 = .ok (.castore, 1) := by decide +kernel
theorem d0_95 : decode method_2_code 95 = .ok (.dup, 1) := by decide +kernel
theorem d0_96 : decode method_2_code 96 = .ok (.iconst 1, 1) := by decide +kernel
theorem d0_97 : decode method_2_code 97 = .ok (.iload_n 3, 1) := by decide +kernel
theorem d0_98 : decode method_2_code 98 = .ok (.castore, 1) := by decide +kernel
theorem d0_99 : decode method_2_code 99 = .ok (.invokespecial 9, 3) := by decide +kernel
theorem d0_102 : decode method_2_code 102 = .ok (.areturn, 1) := by decide +kernel
theorem d0_103 : decode method_2_code 103 = .ok (.new 7, 3) := by decide +kernel
theorem d0_106 : decode method_2_code 106 = .ok (.dup, 1) := by decide +kernel
theorem d0_107 : decode method_2_code 107 = .ok (.iconst 3, 1) := by decide +kernel
theorem d0_108 : decode method_2_code 108 = .ok (.newarray .char, 2) := by decide +kernel
theorem d0_110 : decode method_2_code 110 = .ok (.dup, 1) := by decide +kernel
theorem d0_111 : decode method_2_code 111 = .ok (.iconst 0, 1) := by decide +kernel
theorem d0_112 : decode method_2_code 112 = .ok (.iload_n 2, 1) := by decide +kernel
theorem d0_113 : decode method_2_code 113 = .ok (.castore, 1) := by decide +kernel
theorem d0_114 : decode method_2_code 114 = .ok (.dup, 1) := by decide +kernel
theorem d0_115 : decode method_2_code 115 = .ok (.iconst 1, 1) := by decide +kernel
theorem d0_116 : decode method_2_code 116 = .ok (.iload_n 3, 1) := by decide +kernel
theorem d0_117 : decode method_2_code 117 = .ok (.castore, 1) := by decide +kernel
theorem d0_118 : decode method_2_code 118 = .ok (.dup, 1) := by decide +kernel
theorem d0_119 : decode method_2_code 119 = .ok (.iconst 2, 1) := by decide +kernel
theorem d0_120 : decode method_2_code 120 = .ok (.iload 4, 2) := by decide +kernel
theorem d0_122 : decode method_2_code 122 = .ok (.castore, 1) := by decide +kernel
theorem d0_123 : decode method_2_code 123 = .ok (.invokespecial 9, 3) := by decide +kernel
theorem d0_126 : decode method_2_code 126 = .ok (.areturn, 1) := by decide +kernel
theorem pl_5 : plainFor (⟨"com/example/epithet/epithet/store/EntryAtPinLaw", "principal", "(I)Ljava/lang/String;"⟩ : MethodName) = true := plainFor_of_name (by first | (simp [plainName, overriddenIn]; done) | decide +kernel)
theorem pd_5 : parseMethodDescriptor "([C)V" = some ⟨[(.array .char)], none⟩ := by decide +kernel
set_option maxRecDepth 65536 in
set_option maxHeartbeats 40000000 in
theorem rmP (l : Launch) (Z : State) (a0 : Array Value) (hw : ∀ d ∈ tables_1, d.before a0 Z = true) (hel : EW Z a0 consts_1) (x cst : Int32) (h0 : Heap) (n0 : Nat) (Z0 : n0 ≤ h0.size) (X0 : Old Z n0 h0) (SC : Sta Z Z.heap "java/lang/String" "COMPACT_STRINGS" "Z" (.int cst)) (hcs : ¬ cst = (0 : Int32)) :
    Met l Z consts_1 [] (⟨"com/example/epithet/epithet/store/EntryAtPinLaw", "principal", "(I)Ljava/lang/String;"⟩ : MethodName) method_2_code 5 (Option.some (FieldType.object "java/lang/String")) [] ({ frames := 4, cells := 6, slots := 12, locals := 66 } : Room) #[(.int x)] h0 n0 (fun v h => ∃ pv : Value, v = some pv ∧ pv.isRef = true ∧ Keep h0 h []) := by
  refine Met.of (Ls0 := #[.val (.int x), .unset, .unset, .unset, .unset]) pl_5 (by first | (simp [argsToLocals, Value.category]; done) | rfl) hel ?_
  intro p e s m below meth c hx hby hml hret hlk hown hnm hZ
  refine Go.iloadN (q := 1) hx (hb hby d0_0) rfl rfl ?_
  refine Go.iconst (q := 2) (z := (1 : Int32)) hx (hb hby d0_1) rfl rfl ?_
  refine Go.iand (q := 3) hx (hb hby d0_2) rfl ?_
  refine Go.if_eq (q := 6) (t := 8) hx (hb hby d0_3) (by decide) rfl rfl (fun hc3 => ?_) (fun hc3 => ?_)
  · skip
    refine Go.iloadN (q := 9) hx (hb hby d0_8) rfl rfl ?_
    refine Go.iconst (q := 10) (z := (1 : Int32)) hx (hb hby d0_9) rfl rfl ?_
    refine Go.iushr (q := 11) hx (hb hby d0_10) rfl ?_
    refine Go.iconst (q := 12) (z := (3 : Int32)) hx (hb hby d0_11) rfl rfl ?_
    refine Go.iand (q := 13) hx (hb hby d0_12) rfl ?_
    have hk159 : (XT.ushr x (1 : Int32)) &&& (3 : Int32) = (0 : Int32) ∨ (XT.ushr x (1 : Int32)) &&& (3 : Int32) = (1 : Int32) ∨ (XT.ushr x (1 : Int32)) &&& (3 : Int32) = (2 : Int32) ∨ (XT.ushr x (1 : Int32)) &&& (3 : Int32) = (3 : Int32) := and3 _
    rcases hk159 with hk159 | hk159 | hk159 | hk159
    · rw [hk159]
      refine Go.istoreN (q := 14) (l' := #[.val (.int x), .val (.int (0 : Int32)), .unset, .unset, .unset]) hx (hb hby d0_13) rfl rfl ?_
      refine Go.iloadN (q := 15) hx (hb hby d0_14) rfl rfl ?_
      refine Go.iconst (q := 16) (z := (3 : Int32)) hx (hb hby d0_15) rfl rfl ?_
      refine Go.iushr (q := 17) hx (hb hby d0_16) rfl ?_
      refine Go.sipush (q := 20) (z := (255 : Int32)) hx (hb hby d0_17) rfl rfl ?_
      refine Go.iand (q := 21) hx (hb hby d0_20) rfl ?_
      refine Go.i2c (q := 22) hx (hb hby d0_21) rfl ?_
      refine Go.istoreN (q := 23) (l' := #[.val (.int x), .val (.int (0 : Int32)), .val (.int (((XT.ushr x (3 : Int32)) &&& (255 : Int32)).toUInt32.toUInt16.toUInt32.toInt32)), .unset, .unset]) hx (hb hby d0_22) rfl rfl ?_
      refine Go.iloadN (q := 24) hx (hb hby d0_23) rfl rfl ?_
      refine Go.bipush (q := 26) (z := (11 : Int32)) hx (hb hby d0_24) rfl rfl ?_
      refine Go.iushr (q := 27) hx (hb hby d0_26) rfl ?_
      refine Go.sipush (q := 30) (z := (255 : Int32)) hx (hb hby d0_27) rfl rfl ?_
      refine Go.iand (q := 31) hx (hb hby d0_30) rfl ?_
      refine Go.i2c (q := 32) hx (hb hby d0_31) rfl ?_
      refine Go.istoreN (q := 33) (l' := #[.val (.int x), .val (.int (0 : Int32)), .val (.int (((XT.ushr x (3 : Int32)) &&& (255 : Int32)).toUInt32.toUInt16.toUInt32.toInt32)), .val (.int (((XT.ushr x (11 : Int32)) &&& (255 : Int32)).toUInt32.toUInt16.toUInt32.toInt32)), .unset]) hx (hb hby d0_32) rfl rfl ?_
      refine Go.iloadN (q := 34) hx (hb hby d0_33) rfl rfl ?_
      refine Go.bipush (q := 36) (z := (19 : Int32)) hx (hb hby d0_34) rfl rfl ?_
      refine Go.iushr (q := 37) hx (hb hby d0_36) rfl ?_
      refine Go.sipush (q := 40) (z := (255 : Int32)) hx (hb hby d0_37) rfl rfl ?_
      refine Go.iand (q := 41) hx (hb hby d0_40) rfl ?_
      refine Go.i2c (q := 42) hx (hb hby d0_41) rfl ?_
      refine Go.istore (q := 44) (l' := #[.val (.int x), .val (.int (0 : Int32)), .val (.int (((XT.ushr x (3 : Int32)) &&& (255 : Int32)).toUInt32.toUInt16.toUInt32.toInt32)), .val (.int (((XT.ushr x (11 : Int32)) &&& (255 : Int32)).toUInt32.toUInt16.toUInt32.toInt32)), .val (.int (((XT.ushr x (19 : Int32)) &&& (255 : Int32)).toUInt32.toUInt16.toUInt32.toInt32))]) hx (hb hby d0_42) rfl rfl ?_
      refine Go.iloadN (q := 45) hx (hb hby d0_44) rfl rfl ?_
      refine Go.if_ne (q := 48) (t := 59) hx (hb hby d0_45) (by decide) rfl rfl (fun hc45 => absurd hc45 (by decide)) (fun hc45 => ?_)
      refine Go.newO (q := 51) hx hZ hown (hw _ (List.mem_of_getElem? (i := 4) rfl)) (hw _ (List.mem_of_getElem? (i := 5) rfl)) (hw _ (List.mem_of_getElem? (i := 6) rfl)) (hb hby d0_48) rfl (ce' := 1) (sl' := 4) rfl rfl (by decide) (by decide) (fun h160 a161 g162 E163 A164 D165 => ?_)
      have gz166 : n0 ≤ a161 := by rw [g162]; exact Z0
      have gk167 : h0.size ≤ a161 := by rw [g162]; exact (Keep.refl h0 []).1
      refine Go.dup (q := 52) hx (hb hby d0_51) rfl rfl ?_
      refine Go.iconst (q := 53) (z := (0 : Int32)) hx (hb hby d0_52) rfl rfl ?_
      refine Go.newP (q := 55) (cap := 0) hx hZ (hw _ (List.mem_of_getElem? (i := 7) rfl)) (by decide) (by decide) (hb hby d0_53) rfl (by decide) (ce' := 2) (sl' := 4) rfl rfl (by decide) (by decide) (fun h168 a169 k170 g171 E172 A173 => ?_)
      have ne174 : a161 ≠ a169 := by rw [g171]; exact Nat.ne_of_lt (A164).lt
      have gz175 : n0 ≤ a169 := by rw [g171]; exact (Nat.le_trans Z0 E163.1)
      have gk176 : h0.size ≤ a169 := by rw [g171]; exact ((Keep.refl h0 []).ext E163).1
      have V177 : Arv Z h168 a169 k170 .char (0 : Int32) [] (.int (0 : Int32)) := A173.pad (pad_rep [] (.int (0 : Int32)) 0)
      refine Go.callI (q := 58) hx hZ (a := a161) (argsL := [(.ref a169)]) (rest := [(.ref a161)]) hown rfl (hw _ (List.mem_of_getElem? (i := 8) rfl)) (hw _ (List.mem_of_getElem? (i := 9) rfl)) (hw _ (List.mem_of_getElem? (i := 6) rfl)) (hw _ (List.mem_of_getElem? (i := 10) rfl)) (by decide) (rmI0 l Z a0 hw hel a161 a169 k170 cst  h168 n0 (Nat.le_trans (Nat.le_trans Z0 E163.1) E172.1) gz166 ne174.symm (Exa.ext E172 A164) (Fld.ext E172 (D165 (Or.inr (hw _ (List.mem_of_getElem? (i := 20) rfl))) (ty := (.array .byte)) (by decide))) (Fld.ext E172 (D165 (Or.inr (hw _ (List.mem_of_getElem? (i := 21) rfl))) (ty := .byte) (by decide))) V177  ((X0.ext E163).ext E172) SC hcs) (by simp) (by rw [hml]; rfl) pd_5 rfl rfl (hb hby d0_55) rfl (by decide) (Nat.le_of_ble_eq_true rfl) (ce' := 6) (sl' := 12) rfl rfl (by decide) (by decide) (fun v178 h179 hQ180 => ?_)
      obtain ⟨rfl, K181, b182, k183, F185, F186, V187⟩ := hQ180
      show Go _ _ _ _ _ _ _ _ _ _ _ _ _ _ _ _ _ _ _ _ 6 12 58 #[.val (.int x), .val (.int (0 : Int32)), .val (.int (((XT.ushr x (3 : Int32)) &&& (255 : Int32)).toUInt32.toUInt16.toUInt32.toInt32)), .val (.int (((XT.ushr x (11 : Int32)) &&& (255 : Int32)).toUInt32.toUInt16.toUInt32.toInt32)), .val (.int (((XT.ushr x (19 : Int32)) &&& (255 : Int32)).toUInt32.toUInt16.toUInt32.toInt32))] [(.ref a161)]
      refine Go.retA hx hret rfl (by rfl) hlk (hb hby d0_58) (by decide) (by decide) ?_
      exact ⟨_, rfl, rfl, (Keep.trans (((Keep.refl h0 []).ext E163).ext E172) K181 (allS (Or.inr gk167) all0))⟩
    · rw [hk159]
      refine Go.istoreN (q := 14) (l' := #[.val (.int x), .val (.int (1 : Int32)), .unset, .unset, .unset]) hx (hb hby d0_13) rfl rfl ?_
      refine Go.iloadN (q := 15) hx (hb hby d0_14) rfl rfl ?_
      refine Go.iconst (q := 16) (z := (3 : Int32)) hx (hb hby d0_15) rfl rfl ?_
      refine Go.iushr (q := 17) hx (hb hby d0_16) rfl ?_
      refine Go.sipush (q := 20) (z := (255 : Int32)) hx (hb hby d0_17) rfl rfl ?_
      refine Go.iand (q := 21) hx (hb hby d0_20) rfl ?_
      refine Go.i2c (q := 22) hx (hb hby d0_21) rfl ?_
      refine Go.istoreN (q := 23) (l' := #[.val (.int x), .val (.int (1 : Int32)), .val (.int (((XT.ushr x (3 : Int32)) &&& (255 : Int32)).toUInt32.toUInt16.toUInt32.toInt32)), .unset, .unset]) hx (hb hby d0_22) rfl rfl ?_
      refine Go.iloadN (q := 24) hx (hb hby d0_23) rfl rfl ?_
      refine Go.bipush (q := 26) (z := (11 : Int32)) hx (hb hby d0_24) rfl rfl ?_
      refine Go.iushr (q := 27) hx (hb hby d0_26) rfl ?_
      refine Go.sipush (q := 30) (z := (255 : Int32)) hx (hb hby d0_27) rfl rfl ?_
      refine Go.iand (q := 31) hx (hb hby d0_30) rfl ?_
      refine Go.i2c (q := 32) hx (hb hby d0_31) rfl ?_
      refine Go.istoreN (q := 33) (l' := #[.val (.int x), .val (.int (1 : Int32)), .val (.int (((XT.ushr x (3 : Int32)) &&& (255 : Int32)).toUInt32.toUInt16.toUInt32.toInt32)), .val (.int (((XT.ushr x (11 : Int32)) &&& (255 : Int32)).toUInt32.toUInt16.toUInt32.toInt32)), .unset]) hx (hb hby d0_32) rfl rfl ?_
      refine Go.iloadN (q := 34) hx (hb hby d0_33) rfl rfl ?_
      refine Go.bipush (q := 36) (z := (19 : Int32)) hx (hb hby d0_34) rfl rfl ?_
      refine Go.iushr (q := 37) hx (hb hby d0_36) rfl ?_
      refine Go.sipush (q := 40) (z := (255 : Int32)) hx (hb hby d0_37) rfl rfl ?_
      refine Go.iand (q := 41) hx (hb hby d0_40) rfl ?_
      refine Go.i2c (q := 42) hx (hb hby d0_41) rfl ?_
      refine Go.istore (q := 44) (l' := #[.val (.int x), .val (.int (1 : Int32)), .val (.int (((XT.ushr x (3 : Int32)) &&& (255 : Int32)).toUInt32.toUInt16.toUInt32.toInt32)), .val (.int (((XT.ushr x (11 : Int32)) &&& (255 : Int32)).toUInt32.toUInt16.toUInt32.toInt32)), .val (.int (((XT.ushr x (19 : Int32)) &&& (255 : Int32)).toUInt32.toUInt16.toUInt32.toInt32))]) hx (hb hby d0_42) rfl rfl ?_
      refine Go.iloadN (q := 45) hx (hb hby d0_44) rfl rfl ?_
      refine Go.if_ne (q := 48) (t := 59) hx (hb hby d0_45) (by decide) rfl rfl (fun hc45 => ?_) (fun hc45 => absurd hc45 (by decide))
      refine Go.iloadN (q := 60) hx (hb hby d0_59) rfl rfl ?_
      refine Go.iconst (q := 61) (z := (1 : Int32)) hx (hb hby d0_60) rfl rfl ?_
      refine Go.icmp_ne (q := 64) (t := 79) hx (hb hby d0_61) (by decide) rfl rfl (fun hc61 => absurd hc61 (by decide)) (fun hc61 => ?_)
      refine Go.newO (q := 67) hx hZ hown (hw _ (List.mem_of_getElem? (i := 4) rfl)) (hw _ (List.mem_of_getElem? (i := 5) rfl)) (hw _ (List.mem_of_getElem? (i := 6) rfl)) (hb hby d0_64) rfl (ce' := 1) (sl' := 4) rfl rfl (by decide) (by decide) (fun h188 a189 g190 E191 A192 D193 => ?_)
      have gz194 : n0 ≤ a189 := by rw [g190]; exact Z0
      have gk195 : h0.size ≤ a189 := by rw [g190]; exact (Keep.refl h0 []).1
      refine Go.dup (q := 68) hx (hb hby d0_67) rfl rfl ?_
      refine Go.iconst (q := 69) (z := (1 : Int32)) hx (hb hby d0_68) rfl rfl ?_
      refine Go.newP (q := 71) (cap := 1) hx hZ (hw _ (List.mem_of_getElem? (i := 7) rfl)) (by decide) (by decide) (hb hby d0_69) rfl (by decide) (ce' := 2) (sl' := 5) rfl rfl (by decide) (by decide) (fun h196 a197 k198 g199 E200 A201 => ?_)
      have ne202 : a189 ≠ a197 := by rw [g199]; exact Nat.ne_of_lt (A192).lt
      have gz203 : n0 ≤ a197 := by rw [g199]; exact (Nat.le_trans Z0 E191.1)
      have gk204 : h0.size ≤ a197 := by rw [g199]; exact ((Keep.refl h0 []).ext E191).1
      have V205 : Arv Z h196 a197 k198 .char (1 : Int32) [(.int (0 : Int32))] (.int (0 : Int32)) := A201.pad (pad_rep [] (.int (0 : Int32)) 1)
      refine Go.dup (q := 72) hx (hb hby d0_71) rfl rfl ?_
      refine Go.iconst (q := 73) (z := (0 : Int32)) hx (hb hby d0_72) rfl rfl ?_
      refine Go.iloadN (q := 74) hx (hb hby d0_73) rfl rfl ?_
      refine Go.castore (q := 75) hx hZ V205 ⟨by decide, by decide⟩ 0 rfl (Nat.le_of_ble_eq_true rfl) gz203 (by simp) (hb hby d0_74) rfl (fun h206 W207 V208 => ?_)
      refine Go.callI (q := 78) hx hZ (a := a189) (argsL := [(.ref a197)]) (rest := [(.ref a189)]) hown rfl (hw _ (List.mem_of_getElem? (i := 8) rfl)) (hw _ (List.mem_of_getElem? (i := 9) rfl)) (hw _ (List.mem_of_getElem? (i := 6) rfl)) (hw _ (List.mem_of_getElem? (i := 10) rfl)) (by decide) (rmI1 l Z a0 hw hel a189 a197 k198 cst (nar .char (((XT.ushr x (3 : Int32)) &&& (255 : Int32)).toUInt32.toUInt16.toUInt32.toInt32)) h206 n0 (Nat.le_trans (Nat.le_trans (Nat.le_trans Z0 E191.1) E200.1) (Keep.of_wr W207).1) gz194 ne202.symm (Exa.wr W207 (Exa.ext E200 A192)) (Fld.other W207 (Fld.ext E200 (D193 (Or.inr (hw _ (List.mem_of_getElem? (i := 20) rfl))) (ty := (.array .byte)) (by decide))) (Or.inl ne202)) (Fld.other W207 (Fld.ext E200 (D193 (Or.inr (hw _ (List.mem_of_getElem? (i := 21) rfl))) (ty := .byte) (by decide))) (Or.inl ne202)) V208 (char_ok _) (((X0.ext E191).ext E200).wr W207 gz203) SC hcs) (by simp) (by rw [hml]; rfl) pd_5 rfl rfl (hb hby d0_75) rfl (by decide) (Nat.le_of_ble_eq_true rfl) (ce' := 3) (sl' := 6) rfl rfl (by decide) (by decide) (fun v209 h210 hQ211 => ?_)
      obtain ⟨rfl, K212, b213, k214, g215, F216, F217, V218⟩ := hQ211
      show Go _ _ _ _ _ _ _ _ _ _ _ _ _ _ _ _ _ _ _ _ 3 6 78 #[.val (.int x), .val (.int (1 : Int32)), .val (.int (((XT.ushr x (3 : Int32)) &&& (255 : Int32)).toUInt32.toUInt16.toUInt32.toInt32)), .val (.int (((XT.ushr x (11 : Int32)) &&& (255 : Int32)).toUInt32.toUInt16.toUInt32.toInt32)), .val (.int (((XT.ushr x (19 : Int32)) &&& (255 : Int32)).toUInt32.toUInt16.toUInt32.toInt32))] [(.ref a189)]
      refine Go.retA hx hret rfl (by rfl) hlk (hb hby d0_78) (by decide) (by decide) ?_
      exact ⟨_, rfl, rfl, (Keep.trans ((((Keep.refl h0 []).ext E191).ext E200).wr W207 (Or.inr gk204)) K212 (allS (Or.inr gk195) all0))⟩
    · rw [hk159]
      refine Go.istoreN (q := 14) (l' := #[.val (.int x), .val (.int (2 : Int32)), .unset, .unset, .unset]) hx (hb hby d0_13) rfl rfl ?_
      refine Go.iloadN (q := 15) hx (hb hby d0_14) rfl rfl ?_
      refine Go.iconst (q := 16) (z := (3 : Int32)) hx (hb hby d0_15) rfl rfl ?_
      refine Go.iushr (q := 17) hx (hb hby d0_16) rfl ?_
      refine Go.sipush (q := 20) (z := (255 : Int32)) hx (hb hby d0_17) rfl rfl ?_
      refine Go.iand (q := 21) hx (hb hby d0_20) rfl ?_
      refine Go.i2c (q := 22) hx (hb hby d0_21) rfl ?_
      refine Go.istoreN (q := 23) (l' := #[.val (.int x), .val (.int (2 : Int32)), .val (.int (((XT.ushr x (3 : Int32)) &&& (255 : Int32)).toUInt32.toUInt16.toUInt32.toInt32)), .unset, .unset]) hx (hb hby d0_22) rfl rfl ?_
      refine Go.iloadN (q := 24) hx (hb hby d0_23) rfl rfl ?_
      refine Go.bipush (q := 26) (z := (11 : Int32)) hx (hb hby d0_24) rfl rfl ?_
      refine Go.iushr (q := 27) hx (hb hby d0_26) rfl ?_
      refine Go.sipush (q := 30) (z := (255 : Int32)) hx (hb hby d0_27) rfl rfl ?_
      refine Go.iand (q := 31) hx (hb hby d0_30) rfl ?_
      refine Go.i2c (q := 32) hx (hb hby d0_31) rfl ?_
      refine Go.istoreN (q := 33) (l' := #[.val (.int x), .val (.int (2 : Int32)), .val (.int (((XT.ushr x (3 : Int32)) &&& (255 : Int32)).toUInt32.toUInt16.toUInt32.toInt32)), .val (.int (((XT.ushr x (11 : Int32)) &&& (255 : Int32)).toUInt32.toUInt16.toUInt32.toInt32)), .unset]) hx (hb hby d0_32) rfl rfl ?_
      refine Go.iloadN (q := 34) hx (hb hby d0_33) rfl rfl ?_
      refine Go.bipush (q := 36) (z := (19 : Int32)) hx (hb hby d0_34) rfl rfl ?_
      refine Go.iushr (q := 37) hx (hb hby d0_36) rfl ?_
      refine Go.sipush (q := 40) (z := (255 : Int32)) hx (hb hby d0_37) rfl rfl ?_
      refine Go.iand (q := 41) hx (hb hby d0_40) rfl ?_
      refine Go.i2c (q := 42) hx (hb hby d0_41) rfl ?_
      refine Go.istore (q := 44) (l' := #[.val (.int x), .val (.int (2 : Int32)), .val (.int (((XT.ushr x (3 : Int32)) &&& (255 : Int32)).toUInt32.toUInt16.toUInt32.toInt32)), .val (.int (((XT.ushr x (11 : Int32)) &&& (255 : Int32)).toUInt32.toUInt16.toUInt32.toInt32)), .val (.int (((XT.ushr x (19 : Int32)) &&& (255 : Int32)).toUInt32.toUInt16.toUInt32.toInt32))]) hx (hb hby d0_42) rfl rfl ?_
      refine Go.iloadN (q := 45) hx (hb hby d0_44) rfl rfl ?_
      refine Go.if_ne (q := 48) (t := 59) hx (hb hby d0_45) (by decide) rfl rfl (fun hc45 => ?_) (fun hc45 => absurd hc45 (by decide))
      refine Go.iloadN (q := 60) hx (hb hby d0_59) rfl rfl ?_
      refine Go.iconst (q := 61) (z := (1 : Int32)) hx (hb hby d0_60) rfl rfl ?_
      refine Go.icmp_ne (q := 64) (t := 79) hx (hb hby d0_61) (by decide) rfl rfl (fun hc61 => ?_) (fun hc61 => absurd hc61 (by decide))
      refine Go.iloadN (q := 80) hx (hb hby d0_79) rfl rfl ?_
      refine Go.iconst (q := 81) (z := (2 : Int32)) hx (hb hby d0_80) rfl rfl ?_
      refine Go.icmp_ne (q := 84) (t := 103) hx (hb hby d0_81) (by decide) rfl rfl (fun hc81 => absurd hc81 (by decide)) (fun hc81 => ?_)
      refine Go.newO (q := 87) hx hZ hown (hw _ (List.mem_of_getElem? (i := 4) rfl)) (hw _ (List.mem_of_getElem? (i := 5) rfl)) (hw _ (List.mem_of_getElem? (i := 6) rfl)) (hb hby d0_84) rfl (ce' := 1) (sl' := 4) rfl rfl (by decide) (by decide) (fun h219 a220 g221 E222 A223 D224 => ?_)
      have gz225 : n0 ≤ a220 := by rw [g221]; exact Z0
      have gk226 : h0.size ≤ a220 := by rw [g221]; exact (Keep.refl h0 []).1
      refine Go.dup (q := 88) hx (hb hby d0_87) rfl rfl ?_
      refine Go.iconst (q := 89) (z := (2 : Int32)) hx (hb hby d0_88) rfl rfl ?_
      refine Go.newP (q := 91) (cap := 2) hx hZ (hw _ (List.mem_of_getElem? (i := 7) rfl)) (by decide) (by decide) (hb hby d0_89) rfl (by decide) (ce' := 2) (sl' := 6) rfl rfl (by decide) (by decide) (fun h227 a228 k229 g230 E231 A232 => ?_)
      have ne233 : a220 ≠ a228 := by rw [g230]; exact Nat.ne_of_lt (A223).lt
      have gz234 : n0 ≤ a228 := by rw [g230]; exact (Nat.le_trans Z0 E222.1)
      have gk235 : h0.size ≤ a228 := by rw [g230]; exact ((Keep.refl h0 []).ext E222).1
      have V236 : Arv Z h227 a228 k229 .char (2 : Int32) [(.int (0 : Int32)), (.int (0 : Int32))] (.int (0 : Int32)) := A232.pad (pad_rep [] (.int (0 : Int32)) 2)
      refine Go.dup (q := 92) hx (hb hby d0_91) rfl rfl ?_
      refine Go.iconst (q := 93) (z := (0 : Int32)) hx (hb hby d0_92) rfl rfl ?_
      refine Go.iloadN (q := 94) hx (hb hby d0_93) rfl rfl ?_
      refine Go.castore (q := 95) hx hZ V236 ⟨by decide, by decide⟩ 0 rfl (Nat.le_of_ble_eq_true rfl) gz234 (by simp) (hb hby d0_94) rfl (fun h237 W238 V239 => ?_)
      refine Go.dup (q := 96) hx (hb hby d0_95) rfl rfl ?_
      refine Go.iconst (q := 97) (z := (1 : Int32)) hx (hb hby d0_96) rfl rfl ?_
      refine Go.iloadN (q := 98) hx (hb hby d0_97) rfl rfl ?_
      refine Go.castore (q := 99) hx hZ V239 ⟨by decide, by decide⟩ 1 rfl (Nat.le_of_ble_eq_true rfl) gz234 (by simp) (hb hby d0_98) rfl (fun h240 W241 V242 => ?_)
      refine Go.callI (q := 102) hx hZ (a := a220) (argsL := [(.ref a228)]) (rest := [(.ref a220)]) hown rfl (hw _ (List.mem_of_getElem? (i := 8) rfl)) (hw _ (List.mem_of_getElem? (i := 9) rfl)) (hw _ (List.mem_of_getElem? (i := 6) rfl)) (hw _ (List.mem_of_getElem? (i := 10) rfl)) (by decide) (rmI2 l Z a0 hw hel a220 a228 k229 cst (nar .char (((XT.ushr x (3 : Int32)) &&& (255 : Int32)).toUInt32.toUInt16.toUInt32.toInt32)) (nar .char (((XT.ushr x (11 : Int32)) &&& (255 : Int32)).toUInt32.toUInt16.toUInt32.toInt32)) h240 n0 (Nat.le_trans (Nat.le_trans (Nat.le_trans (Nat.le_trans Z0 E222.1) E231.1) (Keep.of_wr W238).1) (Keep.of_wr W241).1) gz225 ne233.symm (Exa.wr W241 (Exa.wr W238 (Exa.ext E231 A223))) (Fld.other W241 (Fld.other W238 (Fld.ext E231 (D224 (Or.inr (hw _ (List.mem_of_getElem? (i := 20) rfl))) (ty := (.array .byte)) (by decide))) (Or.inl ne233)) (Or.inl ne233)) (Fld.other W241 (Fld.other W238 (Fld.ext E231 (D224 (Or.inr (hw _ (List.mem_of_getElem? (i := 21) rfl))) (ty := .byte) (by decide))) (Or.inl ne233)) (Or.inl ne233)) V242 (char_ok _) (char_ok _) ((((X0.ext E222).ext E231).wr W238 gz234).wr W241 gz234) SC hcs) (by simp) (by rw [hml]; rfl) pd_5 rfl rfl (hb hby d0_99) rfl (by decide) (Nat.le_of_ble_eq_true rfl) (ce' := 3) (sl' := 8) rfl rfl (by decide) (by decide) (fun v243 h244 hQ245 => ?_)
      obtain ⟨rfl, K246, b247, k248, g249, F250, F251, V252⟩ := hQ245
      show Go _ _ _ _ _ _ _ _ _ _ _ _ _ _ _ _ _ _ _ _ 3 8 102 #[.val (.int x), .val (.int (2 : Int32)), .val (.int (((XT.ushr x (3 : Int32)) &&& (255 : Int32)).toUInt32.toUInt16.toUInt32.toInt32)), .val (.int (((XT.ushr x (11 : Int32)) &&& (255 : Int32)).toUInt32.toUInt16.toUInt32.toInt32)), .val (.int (((XT.ushr x (19 : Int32)) &&& (255 : Int32)).toUInt32.toUInt16.toUInt32.toInt32))] [(.ref a220)]
      refine Go.retA hx hret rfl (by rfl) hlk (hb hby d0_102) (by decide) (by decide) ?_
      exact ⟨_, rfl, rfl, (Keep.trans (((((Keep.refl h0 []).ext E222).ext E231).wr W238 (Or.inr gk235)).wr W241 (Or.inr gk235)) K246 (allS (Or.inr gk226) all0))⟩
    · rw [hk159]
      refine Go.istoreN (q := 14) (l' := #[.val (.int x), .val (.int (3 : Int32)), .unset, .unset, .unset]) hx (hb hby d0_13) rfl rfl ?_
      refine Go.iloadN (q := 15) hx (hb hby d0_14) rfl rfl ?_
      refine Go.iconst (q := 16) (z := (3 : Int32)) hx (hb hby d0_15) rfl rfl ?_
      refine Go.iushr (q := 17) hx (hb hby d0_16) rfl ?_
      refine Go.sipush (q := 20) (z := (255 : Int32)) hx (hb hby d0_17) rfl rfl ?_
      refine Go.iand (q := 21) hx (hb hby d0_20) rfl ?_
      refine Go.i2c (q := 22) hx (hb hby d0_21) rfl ?_
      refine Go.istoreN (q := 23) (l' := #[.val (.int x), .val (.int (3 : Int32)), .val (.int (((XT.ushr x (3 : Int32)) &&& (255 : Int32)).toUInt32.toUInt16.toUInt32.toInt32)), .unset, .unset]) hx (hb hby d0_22) rfl rfl ?_
      refine Go.iloadN (q := 24) hx (hb hby d0_23) rfl rfl ?_
      refine Go.bipush (q := 26) (z := (11 : Int32)) hx (hb hby d0_24) rfl rfl ?_
      refine Go.iushr (q := 27) hx (hb hby d0_26) rfl ?_
      refine Go.sipush (q := 30) (z := (255 : Int32)) hx (hb hby d0_27) rfl rfl ?_
      refine Go.iand (q := 31) hx (hb hby d0_30) rfl ?_
      refine Go.i2c (q := 32) hx (hb hby d0_31) rfl ?_
      refine Go.istoreN (q := 33) (l' := #[.val (.int x), .val (.int (3 : Int32)), .val (.int (((XT.ushr x (3 : Int32)) &&& (255 : Int32)).toUInt32.toUInt16.toUInt32.toInt32)), .val (.int (((XT.ushr x (11 : Int32)) &&& (255 : Int32)).toUInt32.toUInt16.toUInt32.toInt32)), .unset]) hx (hb hby d0_32) rfl rfl ?_
      refine Go.iloadN (q := 34) hx (hb hby d0_33) rfl rfl ?_
      refine Go.bipush (q := 36) (z := (19 : Int32)) hx (hb hby d0_34) rfl rfl ?_
      refine Go.iushr (q := 37) hx (hb hby d0_36) rfl ?_
      refine Go.sipush (q := 40) (z := (255 : Int32)) hx (hb hby d0_37) rfl rfl ?_
      refine Go.iand (q := 41) hx (hb hby d0_40) rfl ?_
      refine Go.i2c (q := 42) hx (hb hby d0_41) rfl ?_
      refine Go.istore (q := 44) (l' := #[.val (.int x), .val (.int (3 : Int32)), .val (.int (((XT.ushr x (3 : Int32)) &&& (255 : Int32)).toUInt32.toUInt16.toUInt32.toInt32)), .val (.int (((XT.ushr x (11 : Int32)) &&& (255 : Int32)).toUInt32.toUInt16.toUInt32.toInt32)), .val (.int (((XT.ushr x (19 : Int32)) &&& (255 : Int32)).toUInt32.toUInt16.toUInt32.toInt32))]) hx (hb hby d0_42) rfl rfl ?_
      refine Go.iloadN (q := 45) hx (hb hby d0_44) rfl rfl ?_
      refine Go.if_ne (q := 48) (t := 59) hx (hb hby d0_45) (by decide) rfl rfl (fun hc45 => ?_) (fun hc45 => absurd hc45 (by decide))
      refine Go.iloadN (q := 60) hx (hb hby d0_59) rfl rfl ?_
      refine Go.iconst (q := 61) (z := (1 : Int32)) hx (hb hby d0_60) rfl rfl ?_
      refine Go.icmp_ne (q := 64) (t := 79) hx (hb hby d0_61) (by decide) rfl rfl (fun hc61 => ?_) (fun hc61 => absurd hc61 (by decide))
      refine Go.iloadN (q := 80) hx (hb hby d0_79) rfl rfl ?_
      refine Go.iconst (q := 81) (z := (2 : Int32)) hx (hb hby d0_80) rfl rfl ?_
      refine Go.icmp_ne (q := 84) (t := 103) hx (hb hby d0_81) (by decide) rfl rfl (fun hc81 => ?_) (fun hc81 => absurd hc81 (by decide))
      refine Go.newO (q := 106) hx hZ hown (hw _ (List.mem_of_getElem? (i := 4) rfl)) (hw _ (List.mem_of_getElem? (i := 5) rfl)) (hw _ (List.mem_of_getElem? (i := 6) rfl)) (hb hby d0_103) rfl (ce' := 1) (sl' := 4) rfl rfl (by decide) (by decide) (fun h253 a254 g255 E256 A257 D258 => ?_)
      have gz259 : n0 ≤ a254 := by rw [g255]; exact Z0
      have gk260 : h0.size ≤ a254 := by rw [g255]; exact (Keep.refl h0 []).1
      refine Go.dup (q := 107) hx (hb hby d0_106) rfl rfl ?_
      refine Go.iconst (q := 108) (z := (3 : Int32)) hx (hb hby d0_107) rfl rfl ?_
      refine Go.newP (q := 110) (cap := 3) hx hZ (hw _ (List.mem_of_getElem? (i := 7) rfl)) (by decide) (by decide) (hb hby d0_108) rfl (by decide) (ce' := 2) (sl' := 7) rfl rfl (by decide) (by decide) (fun h261 a262 k263 g264 E265 A266 => ?_)
      have ne267 : a254 ≠ a262 := by rw [g264]; exact Nat.ne_of_lt (A257).lt
      have gz268 : n0 ≤ a262 := by rw [g264]; exact (Nat.le_trans Z0 E256.1)
      have gk269 : h0.size ≤ a262 := by rw [g264]; exact ((Keep.refl h0 []).ext E256).1
      have V270 : Arv Z h261 a262 k263 .char (3 : Int32) [(.int (0 : Int32)), (.int (0 : Int32)), (.int (0 : Int32))] (.int (0 : Int32)) := A266.pad (pad_rep [] (.int (0 : Int32)) 3)
      refine Go.dup (q := 111) hx (hb hby d0_110) rfl rfl ?_
      refine Go.iconst (q := 112) (z := (0 : Int32)) hx (hb hby d0_111) rfl rfl ?_
      refine Go.iloadN (q := 113) hx (hb hby d0_112) rfl rfl ?_
      refine Go.castore (q := 114) hx hZ V270 ⟨by decide, by decide⟩ 0 rfl (Nat.le_of_ble_eq_true rfl) gz268 (by simp) (hb hby d0_113) rfl (fun h271 W272 V273 => ?_)
      refine Go.dup (q := 115) hx (hb hby d0_114) rfl rfl ?_
      refine Go.iconst (q := 116) (z := (1 : Int32)) hx (hb hby d0_115) rfl rfl ?_
      refine Go.iloadN (q := 117) hx (hb hby d0_116) rfl rfl ?_
      refine Go.castore (q := 118) hx hZ V273 ⟨by decide, by decide⟩ 1 rfl (Nat.le_of_ble_eq_true rfl) gz268 (by simp) (hb hby d0_117) rfl (fun h274 W275 V276 => ?_)
      refine Go.dup (q := 119) hx (hb hby d0_118) rfl rfl ?_
      refine Go.iconst (q := 120) (z := (2 : Int32)) hx (hb hby d0_119) rfl rfl ?_
      refine Go.iload (q := 122) hx (hb hby d0_120) rfl rfl ?_
      refine Go.castore (q := 123) hx hZ V276 ⟨by decide, by decide⟩ 2 rfl (Nat.le_of_ble_eq_true rfl) gz268 (by simp) (hb hby d0_122) rfl (fun h277 W278 V279 => ?_)
      refine Go.callI (q := 126) hx hZ (a := a254) (argsL := [(.ref a262)]) (rest := [(.ref a254)]) hown rfl (hw _ (List.mem_of_getElem? (i := 8) rfl)) (hw _ (List.mem_of_getElem? (i := 9) rfl)) (hw _ (List.mem_of_getElem? (i := 6) rfl)) (hw _ (List.mem_of_getElem? (i := 10) rfl)) (by decide) (rmI3 l Z a0 hw hel a254 a262 k263 cst (nar .char (((XT.ushr x (3 : Int32)) &&& (255 : Int32)).toUInt32.toUInt16.toUInt32.toInt32)) (nar .char (((XT.ushr x (11 : Int32)) &&& (255 : Int32)).toUInt32.toUInt16.toUInt32.toInt32)) (nar .char (((XT.ushr x (19 : Int32)) &&& (255 : Int32)).toUInt32.toUInt16.toUInt32.toInt32)) h277 n0 (Nat.le_trans (Nat.le_trans (Nat.le_trans (Nat.le_trans (Nat.le_trans Z0 E256.1) E265.1) (Keep.of_wr W272).1) (Keep.of_wr W275).1) (Keep.of_wr W278).1) gz259 ne267.symm (Exa.wr W278 (Exa.wr W275 (Exa.wr W272 (Exa.ext E265 A257)))) (Fld.other W278 (Fld.other W275 (Fld.other W272 (Fld.ext E265 (D258 (Or.inr (hw _ (List.mem_of_getElem? (i := 20) rfl))) (ty := (.array .byte)) (by decide))) (Or.inl ne267)) (Or.inl ne267)) (Or.inl ne267)) (Fld.other W278 (Fld.other W275 (Fld.other W272 (Fld.ext E265 (D258 (Or.inr (hw _ (List.mem_of_getElem? (i := 21) rfl))) (ty := .byte) (by decide))) (Or.inl ne267)) (Or.inl ne267)) (Or.inl ne267)) V279 (char_ok _) (char_ok _) (char_ok _) (((((X0.ext E256).ext E265).wr W272 gz268).wr W275 gz268).wr W278 gz268) SC hcs) (by simp) (by rw [hml]; rfl) pd_5 rfl rfl (hb hby d0_123) rfl (by decide) (Nat.le_of_ble_eq_true rfl) (ce' := 3) (sl' := 10) rfl rfl (by decide) (by decide) (fun v280 h281 hQ282 => ?_)
      obtain ⟨rfl, K283, b284, k285, g286, F287, F288, V289⟩ := hQ282
      show Go _ _ _ _ _ _ _ _ _ _ _ _ _ _ _ _ _ _ _ _ 3 10 126 #[.val (.int x), .val (.int (3 : Int32)), .val (.int (((XT.ushr x (3 : Int32)) &&& (255 : Int32)).toUInt32.toUInt16.toUInt32.toInt32)), .val (.int (((XT.ushr x (11 : Int32)) &&& (255 : Int32)).toUInt32.toUInt16.toUInt32.toInt32)), .val (.int (((XT.ushr x (19 : Int32)) &&& (255 : Int32)).toUInt32.toUInt16.toUInt32.toInt32))] [(.ref a254)]
      refine Go.retA hx hret rfl (by rfl) hlk (hb hby d0_126) (by decide) (by decide) ?_
      exact ⟨_, rfl, rfl, (Keep.trans ((((((Keep.refl h0 []).ext E256).ext E265).wr W272 (Or.inr gk269)).wr W275 (Or.inr gk269)).wr W278 (Or.inr gk269)) K283 (allS (Or.inr gk260) all0))⟩
  · skip
    refine Go.aconstNull (q := 7) hx (hb hby d0_6) rfl ?_
    refine Go.retA hx hret rfl (by rfl) hlk (hb hby d0_7) (by decide) (by decide) ?_
    exact ⟨_, rfl, rfl, (Keep.refl h0 [])⟩
theorem d5_0 : decode jdk_30_method_1_code 0 = .ok (.aload_n 0, 1) := by decide +kernel
theorem d5_1 : decode jdk_30_method_1_code 1 = .ok (.invokespecial 1, 3) := by decide +kernel
theorem d5_4 : decode jdk_30_method_1_code 4 = .ok (.return_, 1) := by decide +kernel
theorem pl_6 : plainFor (⟨"java/lang/Record", "<init>", "()V"⟩ : MethodName) = true := plainFor_of_name (by first | (simp [plainName, overriddenIn]; done) | decide +kernel)
set_option maxRecDepth 65536 in
set_option maxHeartbeats 40000000 in
theorem rmR (l : Launch) (Z : State) (a0 : Array Value) (hw : ∀ d ∈ tables_1, d.before a0 Z = true) (hel : EW Z a0 consts_1) (a : Addr) (h0 : Heap) (n0 : Nat) (Z0 : n0 ≤ h0.size)  :
    Met l Z consts_1 [] (⟨"java/lang/Record", "<init>", "()V"⟩ : MethodName) jdk_30_method_1_code 1 (Option.none : Option FieldType) [] ({ frames := 1, cells := 0, slots := 0, locals := 12 } : Room) #[(.ref a)] h0 n0 (fun v h => v = none ∧ h0 = h) := by
  refine Met.of (Ls0 := #[.val (.ref a)]) pl_6 (by first | (simp [argsToLocals, Value.category]; done) | rfl) hel ?_
  intro p e s m below meth c hx hby hml hret hlk hown hnm hZ
  refine Go.aloadN (q := 1) hx (hb hby d5_0) rfl (by rfl) rfl ?_
  refine Go.initO (q := 4) hx hZ hown (hw _ (List.mem_of_getElem? (i := 38) rfl)) (hw _ (List.mem_of_getElem? (i := 16) rfl)) (hw _ (List.mem_of_getElem? (i := 17) rfl)) (by rw [hml]; rfl) (hb hby d5_1) rfl (by decide) (Nat.le_of_ble_eq_true rfl) ?_
  refine Go.ret0 hx hret hlk (hb hby d5_4) (by decide) (by decide) ?_
  exact ⟨rfl, rfl⟩
theorem d4_0 : decode prog_101_method_1_code 0 = .ok (.aload_n 0, 1) := by decide +kernel
theorem d4_1 : decode prog_101_method_1_code 1 = .ok (.invokespecial 1, 3) := by decide +kernel
theorem d4_4 : decode prog_101_method_1_code 4 = .ok (.aload_n 0, 1) := by decide +kernel
theorem d4_5 : decode prog_101_method_1_code 5 = .ok (.lload_n 1, 1) := by decide +kernel
theorem d4_6 : decode prog_101_method_1_code 6 = .ok (.putfield 7, 3) := by decide +kernel
theorem d4_9 : decode prog_101_method_1_code 9 = .ok (.aload_n 0, 1) := by decide +kernel
theorem d4_10 : decode prog_101_method_1_code 10 = .ok (.lload_n 3, 1) := by decide +kernel
theorem d4_11 : decode prog_101_method_1_code 11 = .ok (.putfield 13, 3) := by decide +kernel
theorem d4_14 : decode prog_101_method_1_code 14 = .ok (.aload_n 0, 1) := by decide +kernel
theorem d4_15 : decode prog_101_method_1_code 15 = .ok (.lload 5, 2) := by decide +kernel
theorem d4_17 : decode prog_101_method_1_code 17 = .ok (.putfield 16, 3) := by decide +kernel
theorem d4_20 : decode prog_101_method_1_code 20 = .ok (.aload_n 0, 1) := by decide +kernel
theorem d4_21 : decode prog_101_method_1_code 21 = .ok (.iload 7, 2) := by decide +kernel
theorem d4_23 : decode prog_101_method_1_code 23 = .ok (.putfield 19, 3) := by decide +kernel
theorem d4_26 : decode prog_101_method_1_code 26 = .ok (.aload_n 0, 1) := by decide +kernel
theorem d4_27 : decode prog_101_method_1_code 27 = .ok (.aload 8, 2) := by decide +kernel
theorem d4_29 : decode prog_101_method_1_code 29 = .ok (.putfield 23, 3) := by decide +kernel
theorem d4_32 : decode prog_101_method_1_code 32 = .ok (.aload_n 0, 1) := by decide +kernel
theorem d4_33 : decode prog_101_method_1_code 33 = .ok (.lload 9, 2) := by decide +kernel
theorem d4_35 : decode prog_101_method_1_code 35 = .ok (.putfield 27, 3) := by decide +kernel
theorem d4_38 : decode prog_101_method_1_code 38 = .ok (.return_, 1) := by decide +kernel
theorem pl_7 : plainFor (⟨"com/example/epithet/epithet/store/TransientIndex$Entry", "<init>", "(JJJILjava/lang/String;J)V"⟩ : MethodName) = true := plainFor_of_name (by first | (simp [plainName, overriddenIn]; done) | decide +kernel)
set_option maxRecDepth 65536 in
set_option maxHeartbeats 40000000 in
theorem rmE (l : Launch) (Z : State) (a0 : Array Value) (hw : ∀ d ∈ tables_1, d.before a0 Z = true) (hel : EW Z a0 consts_1) (a : Addr) (x1 x2 x3 : Int64) (x4 : Int32) (x5 : Value) (x6 : Int64) (h0 : Heap) (n0 : Nat) (Z0 : n0 ≤ h0.size) (hx5 : x5.isRef = true) (ga : n0 ≤ a) (E : Exa Z h0 a "com/example/epithet/epithet/store/TransientIndex$Entry") (F0 : Fld Z h0 a "com/example/epithet/epithet/store/TransientIndex$Entry" "high" "J" (.long (0 : Int64))) (F1 : Fld Z h0 a "com/example/epithet/epithet/store/TransientIndex$Entry" "low" "J" (.long (0 : Int64))) (F2 : Fld Z h0 a "com/example/epithet/epithet/store/TransientIndex$Entry" "expires" "J" (.long (0 : Int64))) (F3 : Fld Z h0 a "com/example/epithet/epithet/store/TransientIndex$Entry" "spFormat" "I" (.int (0 : Int32))) (F4 : Fld Z h0 a "com/example/epithet/epithet/store/TransientIndex$Entry" "principal" "Ljava/lang/String;" (.null)) (F5 : Fld Z h0 a "com/example/epithet/epithet/store/TransientIndex$Entry" "at" "J" (.long (0 : Int64))) :
    Met l Z consts_1 [a] (⟨"com/example/epithet/epithet/store/TransientIndex$Entry", "<init>", "(JJJILjava/lang/String;J)V"⟩ : MethodName) prog_101_method_1_code 11 (Option.none : Option FieldType) [] ({ frames := 2, cells := 0, slots := 0, locals := 24 } : Room) #[(.ref a), (.long x1), (.long x2), (.long x3), (.int x4), x5, (.long x6)] h0 n0 (fun v h => v = none ∧ Keep h0 h [a] ∧ Fld Z h a "com/example/epithet/epithet/store/TransientIndex$Entry" "high" "J" (.long x1) ∧ Fld Z h a "com/example/epithet/epithet/store/TransientIndex$Entry" "low" "J" (.long x2) ∧ Fld Z h a "com/example/epithet/epithet/store/TransientIndex$Entry" "expires" "J" (.long x3) ∧ Fld Z h a "com/example/epithet/epithet/store/TransientIndex$Entry" "spFormat" "I" (.int x4) ∧ Fld Z h a "com/example/epithet/epithet/store/TransientIndex$Entry" "principal" "Ljava/lang/String;" x5 ∧ Fld Z h a "com/example/epithet/epithet/store/TransientIndex$Entry" "at" "J" (.long x6)) := by
  refine Met.of (Ls0 := #[.val (.ref a), .val (.long x1), .second, .val (.long x2), .second, .val (.long x3), .second, .val (.int x4), .val x5, .val (.long x6), .second]) pl_7 (by rcases ref_cases hx5 with rfl | ⟨_, rfl⟩ <;> first | (simp [argsToLocals, Value.category]; done) | rfl) hel ?_
  intro p e s m below meth c hx hby hml hret hlk hown hnm hZ
  refine Go.aloadN (q := 1) hx (hb hby d4_0) rfl (by rfl) rfl ?_
  refine Go.callI (q := 4) hx hZ (a := a) (argsL := []) (rest := []) hown rfl (hw _ (List.mem_of_getElem? (i := 33) rfl)) (hw _ (List.mem_of_getElem? (i := 34) rfl)) (hw _ (List.mem_of_getElem? (i := 36) rfl)) (hw _ (List.mem_of_getElem? (i := 37) rfl)) (by decide) (rmR l Z a0 hw hel a h0 n0 Z0) (fun _ hx => nomatch hx) (by rw [hml]; rfl) pd_0 rfl rfl (hb hby d4_1) rfl (by decide) (Nat.le_of_ble_eq_true rfl) (ce' := 0) (sl' := 0) rfl rfl (by decide) (by decide) (fun v290 h291 hQ292 => ?_)
  obtain ⟨rfl, rfl⟩ := hQ292
  show Go _ _ _ _ _ _ _ _ _ _ _ _ _ _ _ _ _ _ _ _ 0 0 4 #[.val (.ref a), .val (.long x1), .second, .val (.long x2), .second, .val (.long x3), .second, .val (.int x4), .val x5, .val (.long x6), .second] []
  refine Go.aloadN (q := 5) hx (hb hby d4_4) rfl (by rfl) rfl ?_
  refine Go.lloadN (q := 6) hx (hb hby d4_5) rfl rfl ?_
  refine Go.putF (q := 9) hx hZ hown (host := "") (Or.inl (hw _ (List.mem_of_getElem? (i := 39) rfl))) Via.refl F0 E (Or.inr ⟨(hw _ (List.mem_of_getElem? (i := 40) rfl)), rfl, hnm⟩) (hw _ (List.mem_of_getElem? (i := 28) rfl)) (ty := .long) (by decide) rfl rfl ga (by simp) (hb hby d4_6) rfl (fun h293 W294 => ?_)
  refine Go.aloadN (q := 10) hx (hb hby d4_9) rfl (by rfl) rfl ?_
  refine Go.lloadN (q := 11) hx (hb hby d4_10) rfl rfl ?_
  refine Go.putF (q := 14) hx hZ hown (host := "") (Or.inl (hw _ (List.mem_of_getElem? (i := 41) rfl))) Via.refl (Fld.other W294 F1 (Or.inr (slot_ne (C := "com/example/epithet/epithet/store/TransientIndex$Entry") (Or.inr (hw _ (List.mem_of_getElem? (i := 42) rfl))) (Or.inr (hw _ (List.mem_of_getElem? (i := 40) rfl))) (by decide) (by decide : _ = some .long) (by decide : _ = some .long)))) (Exa.wr W294 E) (Or.inr ⟨(hw _ (List.mem_of_getElem? (i := 42) rfl)), rfl, hnm⟩) (hw _ (List.mem_of_getElem? (i := 28) rfl)) (ty := .long) (by decide) rfl rfl ga (by simp) (hb hby d4_11) rfl (fun h295 W296 => ?_)
  refine Go.aloadN (q := 15) hx (hb hby d4_14) rfl (by rfl) rfl ?_
  refine Go.lload (q := 17) hx (hb hby d4_15) rfl rfl ?_
  refine Go.putF (q := 20) hx hZ hown (host := "") (Or.inl (hw _ (List.mem_of_getElem? (i := 43) rfl))) Via.refl (Fld.other W296 (Fld.other W294 F2 (Or.inr (slot_ne (C := "com/example/epithet/epithet/store/TransientIndex$Entry") (Or.inr (hw _ (List.mem_of_getElem? (i := 44) rfl))) (Or.inr (hw _ (List.mem_of_getElem? (i := 40) rfl))) (by decide) (by decide : _ = some .long) (by decide : _ = some .long)))) (Or.inr (slot_ne (C := "com/example/epithet/epithet/store/TransientIndex$Entry") (Or.inr (hw _ (List.mem_of_getElem? (i := 44) rfl))) (Or.inr (hw _ (List.mem_of_getElem? (i := 42) rfl))) (by decide) (by decide : _ = some .long) (by decide : _ = some .long)))) (Exa.wr W296 (Exa.wr W294 E)) (Or.inr ⟨(hw _ (List.mem_of_getElem? (i := 44) rfl)), rfl, hnm⟩) (hw _ (List.mem_of_getElem? (i := 28) rfl)) (ty := .long) (by decide) rfl rfl ga (by simp) (hb hby d4_17) rfl (fun h297 W298 => ?_)
  refine Go.aloadN (q := 21) hx (hb hby d4_20) rfl (by rfl) rfl ?_
  refine Go.iload (q := 23) hx (hb hby d4_21) rfl rfl ?_
  refine Go.putF (q := 26) hx hZ hown (host := "") (Or.inl (hw _ (List.mem_of_getElem? (i := 45) rfl))) Via.refl (Fld.other W298 (Fld.other W296 (Fld.other W294 F3 (Or.inr (slot_ne (C := "com/example/epithet/epithet/store/TransientIndex$Entry") (Or.inr (hw _ (List.mem_of_getElem? (i := 46) rfl))) (Or.inr (hw _ (List.mem_of_getElem? (i := 40) rfl))) (by decide) (by decide : _ = some .int) (by decide : _ = some .long)))) (Or.inr (slot_ne (C := "com/example/epithet/epithet/store/TransientIndex$Entry") (Or.inr (hw _ (List.mem_of_getElem? (i := 46) rfl))) (Or.inr (hw _ (List.mem_of_getElem? (i := 42) rfl))) (by decide) (by decide : _ = some .int) (by decide : _ = some .long)))) (Or.inr (slot_ne (C := "com/example/epithet/epithet/store/TransientIndex$Entry") (Or.inr (hw _ (List.mem_of_getElem? (i := 46) rfl))) (Or.inr (hw _ (List.mem_of_getElem? (i := 44) rfl))) (by decide) (by decide : _ = some .int) (by decide : _ = some .long)))) (Exa.wr W298 (Exa.wr W296 (Exa.wr W294 E))) (Or.inr ⟨(hw _ (List.mem_of_getElem? (i := 46) rfl)), rfl, hnm⟩) (hw _ (List.mem_of_getElem? (i := 28) rfl)) (ty := .int) (by decide) rfl rfl ga (by simp) (hb hby d4_23) rfl (fun h299 W300 => ?_)
  refine Go.aloadN (q := 27) hx (hb hby d4_26) rfl (by rfl) rfl ?_
  refine Go.aload (q := 29) hx (hb hby d4_27) rfl (by exact hx5) rfl ?_
  refine Go.putF (q := 32) hx hZ hown (host := "") (Or.inl (hw _ (List.mem_of_getElem? (i := 47) rfl))) Via.refl (Fld.other W300 (Fld.other W298 (Fld.other W296 (Fld.other W294 F4 (Or.inr (slot_ne (C := "com/example/epithet/epithet/store/TransientIndex$Entry") (Or.inr (hw _ (List.mem_of_getElem? (i := 48) rfl))) (Or.inr (hw _ (List.mem_of_getElem? (i := 40) rfl))) (by decide) (by decide : _ = some (.object "java/lang/String")) (by decide : _ = some .long)))) (Or.inr (slot_ne (C := "com/example/epithet/epithet/store/TransientIndex$Entry") (Or.inr (hw _ (List.mem_of_getElem? (i := 48) rfl))) (Or.inr (hw _ (List.mem_of_getElem? (i := 42) rfl))) (by decide) (by decide : _ = some (.object "java/lang/String")) (by decide : _ = some .long)))) (Or.inr (slot_ne (C := "com/example/epithet/epithet/store/TransientIndex$Entry") (Or.inr (hw _ (List.mem_of_getElem? (i := 48) rfl))) (Or.inr (hw _ (List.mem_of_getElem? (i := 44) rfl))) (by decide) (by decide : _ = some (.object "java/lang/String")) (by decide : _ = some .long)))) (Or.inr (slot_ne (C := "com/example/epithet/epithet/store/TransientIndex$Entry") (Or.inr (hw _ (List.mem_of_getElem? (i := 48) rfl))) (Or.inr (hw _ (List.mem_of_getElem? (i := 46) rfl))) (by decide) (by decide : _ = some (.object "java/lang/String")) (by decide : _ = some .int)))) (Exa.wr W300 (Exa.wr W298 (Exa.wr W296 (Exa.wr W294 E)))) (Or.inr ⟨(hw _ (List.mem_of_getElem? (i := 48) rfl)), rfl, hnm⟩) (hw _ (List.mem_of_getElem? (i := 28) rfl)) (ty := (.object "java/lang/String")) (by decide) (nar_ref hx5 rfl) (fits_of_ref hx5 rfl) ga (by simp) (hb hby d4_29) rfl (fun h301 W302 => ?_)
  refine Go.aloadN (q := 33) hx (hb hby d4_32) rfl (by rfl) rfl ?_
  refine Go.lload (q := 35) hx (hb hby d4_33) rfl rfl ?_
  refine Go.putF (q := 38) hx hZ hown (host := "") (Or.inl (hw _ (List.mem_of_getElem? (i := 49) rfl))) Via.refl (Fld.other W302 (Fld.other W300 (Fld.other W298 (Fld.other W296 (Fld.other W294 F5 (Or.inr (slot_ne (C := "com/example/epithet/epithet/store/TransientIndex$Entry") (Or.inr (hw _ (List.mem_of_getElem? (i := 50) rfl))) (Or.inr (hw _ (List.mem_of_getElem? (i := 40) rfl))) (by decide) (by decide : _ = some .long) (by decide : _ = some .long)))) (Or.inr (slot_ne (C := "com/example/epithet/epithet/store/TransientIndex$Entry") (Or.inr (hw _ (List.mem_of_getElem? (i := 50) rfl))) (Or.inr (hw _ (List.mem_of_getElem? (i := 42) rfl))) (by decide) (by decide : _ = some .long) (by decide : _ = some .long)))) (Or.inr (slot_ne (C := "com/example/epithet/epithet/store/TransientIndex$Entry") (Or.inr (hw _ (List.mem_of_getElem? (i := 50) rfl))) (Or.inr (hw _ (List.mem_of_getElem? (i := 44) rfl))) (by decide) (by decide : _ = some .long) (by decide : _ = some .long)))) (Or.inr (slot_ne (C := "com/example/epithet/epithet/store/TransientIndex$Entry") (Or.inr (hw _ (List.mem_of_getElem? (i := 50) rfl))) (Or.inr (hw _ (List.mem_of_getElem? (i := 46) rfl))) (by decide) (by decide : _ = some .long) (by decide : _ = some .int)))) (Or.inr (slot_ne (C := "com/example/epithet/epithet/store/TransientIndex$Entry") (Or.inr (hw _ (List.mem_of_getElem? (i := 50) rfl))) (Or.inr (hw _ (List.mem_of_getElem? (i := 48) rfl))) (by decide) (by decide : _ = some .long) (by decide : _ = some (.object "java/lang/String"))))) (Exa.wr W302 (Exa.wr W300 (Exa.wr W298 (Exa.wr W296 (Exa.wr W294 E))))) (Or.inr ⟨(hw _ (List.mem_of_getElem? (i := 50) rfl)), rfl, hnm⟩) (hw _ (List.mem_of_getElem? (i := 28) rfl)) (ty := .long) (by decide) rfl rfl ga (by simp) (hb hby d4_35) rfl (fun h303 W304 => ?_)
  refine Go.ret0 hx hret hlk (hb hby d4_38) (by decide) (by decide) ?_
  exact ⟨rfl, (((((((Keep.refl h0 [a]).wr W294 (Or.inl (by simp))).wr W296 (Or.inl (by simp))).wr W298 (Or.inl (by simp))).wr W300 (Or.inl (by simp))).wr W302 (Or.inl (by simp))).wr W304 (Or.inl (by simp))), (Fld.other W304 (Fld.other W302 (Fld.other W300 (Fld.other W298 (Fld.other W296 (Fld.same W294 F0) (Or.inr (slot_ne (C := "com/example/epithet/epithet/store/TransientIndex$Entry") (Or.inr (hw _ (List.mem_of_getElem? (i := 40) rfl))) (Or.inr (hw _ (List.mem_of_getElem? (i := 42) rfl))) (by decide) (by decide : _ = some .long) (by decide : _ = some .long)))) (Or.inr (slot_ne (C := "com/example/epithet/epithet/store/TransientIndex$Entry") (Or.inr (hw _ (List.mem_of_getElem? (i := 40) rfl))) (Or.inr (hw _ (List.mem_of_getElem? (i := 44) rfl))) (by decide) (by decide : _ = some .long) (by decide : _ = some .long)))) (Or.inr (slot_ne (C := "com/example/epithet/epithet/store/TransientIndex$Entry") (Or.inr (hw _ (List.mem_of_getElem? (i := 40) rfl))) (Or.inr (hw _ (List.mem_of_getElem? (i := 46) rfl))) (by decide) (by decide : _ = some .long) (by decide : _ = some .int)))) (Or.inr (slot_ne (C := "com/example/epithet/epithet/store/TransientIndex$Entry") (Or.inr (hw _ (List.mem_of_getElem? (i := 40) rfl))) (Or.inr (hw _ (List.mem_of_getElem? (i := 48) rfl))) (by decide) (by decide : _ = some .long) (by decide : _ = some (.object "java/lang/String"))))) (Or.inr (slot_ne (C := "com/example/epithet/epithet/store/TransientIndex$Entry") (Or.inr (hw _ (List.mem_of_getElem? (i := 40) rfl))) (Or.inr (hw _ (List.mem_of_getElem? (i := 50) rfl))) (by decide) (by decide : _ = some .long) (by decide : _ = some .long)))), (Fld.other W304 (Fld.other W302 (Fld.other W300 (Fld.other W298 (Fld.same W296 (Fld.other W294 F1 (Or.inr (slot_ne (C := "com/example/epithet/epithet/store/TransientIndex$Entry") (Or.inr (hw _ (List.mem_of_getElem? (i := 42) rfl))) (Or.inr (hw _ (List.mem_of_getElem? (i := 40) rfl))) (by decide) (by decide : _ = some .long) (by decide : _ = some .long))))) (Or.inr (slot_ne (C := "com/example/epithet/epithet/store/TransientIndex$Entry") (Or.inr (hw _ (List.mem_of_getElem? (i := 42) rfl))) (Or.inr (hw _ (List.mem_of_getElem? (i := 44) rfl))) (by decide) (by decide : _ = some .long) (by decide : _ = some .long)))) (Or.inr (slot_ne (C := "com/example/epithet/epithet/store/TransientIndex$Entry") (Or.inr (hw _ (List.mem_of_getElem? (i := 42) rfl))) (Or.inr (hw _ (List.mem_of_getElem? (i := 46) rfl))) (by decide) (by decide : _ = some .long) (by decide : _ = some .int)))) (Or.inr (slot_ne (C := "com/example/epithet/epithet/store/TransientIndex$Entry") (Or.inr (hw _ (List.mem_of_getElem? (i := 42) rfl))) (Or.inr (hw _ (List.mem_of_getElem? (i := 48) rfl))) (by decide) (by decide : _ = some .long) (by decide : _ = some (.object "java/lang/String"))))) (Or.inr (slot_ne (C := "com/example/epithet/epithet/store/TransientIndex$Entry") (Or.inr (hw _ (List.mem_of_getElem? (i := 42) rfl))) (Or.inr (hw _ (List.mem_of_getElem? (i := 50) rfl))) (by decide) (by decide : _ = some .long) (by decide : _ = some .long)))), (Fld.other W304 (Fld.other W302 (Fld.other W300 (Fld.same W298 (Fld.other W296 (Fld.other W294 F2 (Or.inr (slot_ne (C := "com/example/epithet/epithet/store/TransientIndex$Entry") (Or.inr (hw _ (List.mem_of_getElem? (i := 44) rfl))) (Or.inr (hw _ (List.mem_of_getElem? (i := 40) rfl))) (by decide) (by decide : _ = some .long) (by decide : _ = some .long)))) (Or.inr (slot_ne (C := "com/example/epithet/epithet/store/TransientIndex$Entry") (Or.inr (hw _ (List.mem_of_getElem? (i := 44) rfl))) (Or.inr (hw _ (List.mem_of_getElem? (i := 42) rfl))) (by decide) (by decide : _ = some .long) (by decide : _ = some .long))))) (Or.inr (slot_ne (C := "com/example/epithet/epithet/store/TransientIndex$Entry") (Or.inr (hw _ (List.mem_of_getElem? (i := 44) rfl))) (Or.inr (hw _ (List.mem_of_getElem? (i := 46) rfl))) (by decide) (by decide : _ = some .long) (by decide : _ = some .int)))) (Or.inr (slot_ne (C := "com/example/epithet/epithet/store/TransientIndex$Entry") (Or.inr (hw _ (List.mem_of_getElem? (i := 44) rfl))) (Or.inr (hw _ (List.mem_of_getElem? (i := 48) rfl))) (by decide) (by decide : _ = some .long) (by decide : _ = some (.object "java/lang/String"))))) (Or.inr (slot_ne (C := "com/example/epithet/epithet/store/TransientIndex$Entry") (Or.inr (hw _ (List.mem_of_getElem? (i := 44) rfl))) (Or.inr (hw _ (List.mem_of_getElem? (i := 50) rfl))) (by decide) (by decide : _ = some .long) (by decide : _ = some .long)))), (Fld.other W304 (Fld.other W302 (Fld.same W300 (Fld.other W298 (Fld.other W296 (Fld.other W294 F3 (Or.inr (slot_ne (C := "com/example/epithet/epithet/store/TransientIndex$Entry") (Or.inr (hw _ (List.mem_of_getElem? (i := 46) rfl))) (Or.inr (hw _ (List.mem_of_getElem? (i := 40) rfl))) (by decide) (by decide : _ = some .int) (by decide : _ = some .long)))) (Or.inr (slot_ne (C := "com/example/epithet/epithet/store/TransientIndex$Entry") (Or.inr (hw _ (List.mem_of_getElem? (i := 46) rfl))) (Or.inr (hw _ (List.mem_of_getElem? (i := 42) rfl))) (by decide) (by decide : _ = some .int) (by decide : _ = some .long)))) (Or.inr (slot_ne (C := "com/example/epithet/epithet/store/TransientIndex$Entry") (Or.inr (hw _ (List.mem_of_getElem? (i := 46) rfl))) (Or.inr (hw _ (List.mem_of_getElem? (i := 44) rfl))) (by decide) (by decide : _ = some .int) (by decide : _ = some .long))))) (Or.inr (slot_ne (C := "com/example/epithet/epithet/store/TransientIndex$Entry") (Or.inr (hw _ (List.mem_of_getElem? (i := 46) rfl))) (Or.inr (hw _ (List.mem_of_getElem? (i := 48) rfl))) (by decide) (by decide : _ = some .int) (by decide : _ = some (.object "java/lang/String"))))) (Or.inr (slot_ne (C := "com/example/epithet/epithet/store/TransientIndex$Entry") (Or.inr (hw _ (List.mem_of_getElem? (i := 46) rfl))) (Or.inr (hw _ (List.mem_of_getElem? (i := 50) rfl))) (by decide) (by decide : _ = some .int) (by decide : _ = some .long)))), (Fld.other W304 (Fld.same W302 (Fld.other W300 (Fld.other W298 (Fld.other W296 (Fld.other W294 F4 (Or.inr (slot_ne (C := "com/example/epithet/epithet/store/TransientIndex$Entry") (Or.inr (hw _ (List.mem_of_getElem? (i := 48) rfl))) (Or.inr (hw _ (List.mem_of_getElem? (i := 40) rfl))) (by decide) (by decide : _ = some (.object "java/lang/String")) (by decide : _ = some .long)))) (Or.inr (slot_ne (C := "com/example/epithet/epithet/store/TransientIndex$Entry") (Or.inr (hw _ (List.mem_of_getElem? (i := 48) rfl))) (Or.inr (hw _ (List.mem_of_getElem? (i := 42) rfl))) (by decide) (by decide : _ = some (.object "java/lang/String")) (by decide : _ = some .long)))) (Or.inr (slot_ne (C := "com/example/epithet/epithet/store/TransientIndex$Entry") (Or.inr (hw _ (List.mem_of_getElem? (i := 48) rfl))) (Or.inr (hw _ (List.mem_of_getElem? (i := 44) rfl))) (by decide) (by decide : _ = some (.object "java/lang/String")) (by decide : _ = some .long)))) (Or.inr (slot_ne (C := "com/example/epithet/epithet/store/TransientIndex$Entry") (Or.inr (hw _ (List.mem_of_getElem? (i := 48) rfl))) (Or.inr (hw _ (List.mem_of_getElem? (i := 46) rfl))) (by decide) (by decide : _ = some (.object "java/lang/String")) (by decide : _ = some .int))))) (Or.inr (slot_ne (C := "com/example/epithet/epithet/store/TransientIndex$Entry") (Or.inr (hw _ (List.mem_of_getElem? (i := 48) rfl))) (Or.inr (hw _ (List.mem_of_getElem? (i := 50) rfl))) (by decide) (by decide : _ = some (.object "java/lang/String")) (by decide : _ = some .long)))), (Fld.same W304 (Fld.other W302 (Fld.other W300 (Fld.other W298 (Fld.other W296 (Fld.other W294 F5 (Or.inr (slot_ne (C := "com/example/epithet/epithet/store/TransientIndex$Entry") (Or.inr (hw _ (List.mem_of_getElem? (i := 50) rfl))) (Or.inr (hw _ (List.mem_of_getElem? (i := 40) rfl))) (by decide) (by decide : _ = some .long) (by decide : _ = some .long)))) (Or.inr (slot_ne (C := "com/example/epithet/epithet/store/TransientIndex$Entry") (Or.inr (hw _ (List.mem_of_getElem? (i := 50) rfl))) (Or.inr (hw _ (List.mem_of_getElem? (i := 42) rfl))) (by decide) (by decide : _ = some .long) (by decide : _ = some .long)))) (Or.inr (slot_ne (C := "com/example/epithet/epithet/store/TransientIndex$Entry") (Or.inr (hw _ (List.mem_of_getElem? (i := 50) rfl))) (Or.inr (hw _ (List.mem_of_getElem? (i := 44) rfl))) (by decide) (by decide : _ = some .long) (by decide : _ = some .long)))) (Or.inr (slot_ne (C := "com/example/epithet/epithet/store/TransientIndex$Entry") (Or.inr (hw _ (List.mem_of_getElem? (i := 50) rfl))) (Or.inr (hw _ (List.mem_of_getElem? (i := 46) rfl))) (by decide) (by decide : _ = some .long) (by decide : _ = some .int)))) (Or.inr (slot_ne (C := "com/example/epithet/epithet/store/TransientIndex$Entry") (Or.inr (hw _ (List.mem_of_getElem? (i := 50) rfl))) (Or.inr (hw _ (List.mem_of_getElem? (i := 48) rfl))) (by decide) (by decide : _ = some .long) (by decide : _ = some (.object "java/lang/String"))))))⟩
theorem d6_0 : decode prog_101_method_2_code 0 = .ok (.new 8, 3) := by decide +kernel
theorem d6_3 : decode prog_101_method_2_code 3 = .ok (.dup, 1) := by decide +kernel
theorem d6_4 : decode prog_101_method_2_code 4 = .ok (.aload_n 0, 1) := by decide +kernel
theorem d6_5 : decode prog_101_method_2_code 5 = .ok (.getfield 7, 3) := by decide +kernel
theorem d6_8 : decode prog_101_method_2_code 8 = .ok (.aload_n 0, 1) := by decide +kernel
theorem d6_9 : decode prog_101_method_2_code 9 = .ok (.getfield 13, 3) := by decide +kernel
theorem d6_12 : decode prog_101_method_2_code 12 = .ok (.aload_n 0, 1) := by decide +kernel
theorem d6_13 : decode prog_101_method_2_code 13 = .ok (.getfield 16, 3) := by decide +kernel
theorem d6_16 : decode prog_101_method_2_code 16 = .ok (.aload_n 0, 1) := by decide +kernel
theorem d6_17 : decode prog_101_method_2_code 17 = .ok (.getfield 19, 3) := by decide +kernel
theorem d6_20 : decode prog_101_method_2_code 20 = .ok (.aload_n 0, 1) := by decide +kernel
theorem d6_21 : decode prog_101_method_2_code 21 = .ok (.getfield 23, 3) := by decide +kernel
theorem d6_24 : decode prog_101_method_2_code 24 = .ok (.lload_n 1, 1) := by decide +kernel
theorem d6_25 : decode prog_101_method_2_code 25 = .ok (.invokespecial 30, 3) := by decide +kernel
theorem d6_28 : decode prog_101_method_2_code 28 = .ok (.areturn, 1) := by decide +kernel
theorem pl_8 : plainFor (⟨"com/example/epithet/epithet/store/TransientIndex$Entry", "at", "(J)Lcom/example/epithet/epithet/store/TransientIndex$Entry;"⟩ : MethodName) = true := plainFor_of_name (by first | (simp [plainName, overriddenIn]; done) | decide +kernel)
theorem pd_6 : parseMethodDescriptor "(JJJILjava/lang/String;J)V" = some ⟨[.long, .long, .long, .int, (.object "java/lang/String"), .long], none⟩ := by decide +kernel
set_option maxRecDepth 65536 in
set_option maxHeartbeats 40000000 in
theorem rmAt (l : Launch) (Z : State) (a0 : Array Value) (hw : ∀ d ∈ tables_1, d.before a0 Z = true) (hel : EW Z a0 consts_1) (a : Addr) (x1 x2 x3 : Int64) (x4 : Int32) (x5 : Value) (x6 : Int64) (t : Int64) (h0 : Heap) (n0 : Nat) (Z0 : n0 ≤ h0.size) (hx5 : x5.isRef = true) (F0 : Fld Z h0 a "com/example/epithet/epithet/store/TransientIndex$Entry" "high" "J" (.long x1)) (F1 : Fld Z h0 a "com/example/epithet/epithet/store/TransientIndex$Entry" "low" "J" (.long x2)) (F2 : Fld Z h0 a "com/example/epithet/epithet/store/TransientIndex$Entry" "expires" "J" (.long x3)) (F3 : Fld Z h0 a "com/example/epithet/epithet/store/TransientIndex$Entry" "spFormat" "I" (.int x4)) (F4 : Fld Z h0 a "com/example/epithet/epithet/store/TransientIndex$Entry" "principal" "Ljava/lang/String;" x5) (F5 : Fld Z h0 a "com/example/epithet/epithet/store/TransientIndex$Entry" "at" "J" (.long x6)) :
    Met l Z consts_1 [] (⟨"com/example/epithet/epithet/store/TransientIndex$Entry", "at", "(J)Lcom/example/epithet/epithet/store/TransientIndex$Entry;"⟩ : MethodName) prog_101_method_2_code 3 (Option.some (FieldType.object "com/example/epithet/epithet/store/TransientIndex$Entry")) [] ({ frames := 3, cells := 1, slots := 6, locals := 47 } : Room) #[(.ref a), (.long t)] h0 n0 (fun v h => ∃ c, v = some (.ref c) ∧ h0.size ≤ c ∧ Keep h0 h [] ∧ Exa Z h c "com/example/epithet/epithet/store/TransientIndex$Entry" ∧ Fld Z h c "com/example/epithet/epithet/store/TransientIndex$Entry" "high" "J" (.long x1) ∧ Fld Z h c "com/example/epithet/epithet/store/TransientIndex$Entry" "low" "J" (.long x2) ∧ Fld Z h c "com/example/epithet/epithet/store/TransientIndex$Entry" "expires" "J" (.long x3) ∧ Fld Z h c "com/example/epithet/epithet/store/TransientIndex$Entry" "spFormat" "I" (.int x4) ∧ Fld Z h c "com/example/epithet/epithet/store/TransientIndex$Entry" "principal" "Ljava/lang/String;" x5 ∧ Fld Z h c "com/example/epithet/epithet/store/TransientIndex$Entry" "at" "J" (.long t)) := by
  refine Met.of (Ls0 := #[.val (.ref a), .val (.long t), .second]) pl_8 (by first | (simp [argsToLocals, Value.category]; done) | rfl) hel ?_
  intro p e s m below meth c hx hby hml hret hlk hown hnm hZ
  refine Go.newO (q := 3) hx hZ hown (hw _ (List.mem_of_getElem? (i := 56) rfl)) (hw _ (List.mem_of_getElem? (i := 28) rfl)) (hw _ (List.mem_of_getElem? (i := 29) rfl)) (hb hby d6_0) rfl (ce' := 1) (sl' := 6) rfl rfl (by decide) (by decide) (fun h305 a306 g307 E308 A309 D310 => ?_)
  have ne311 : a ≠ a306 := by rw [g307]; exact Nat.ne_of_lt (F0).lt
  have gz312 : n0 ≤ a306 := by rw [g307]; exact Z0
  have gk313 : h0.size ≤ a306 := by rw [g307]; exact (Keep.refl h0 []).1
  refine Go.dup (q := 4) hx (hb hby d6_3) rfl rfl ?_
  refine Go.aloadN (q := 5) hx (hb hby d6_4) rfl (by rfl) rfl ?_
  refine Go.getF (q := 8) hx hZ hown (host := "") (Or.inl (hw _ (List.mem_of_getElem? (i := 39) rfl))) Via.refl (Fld.ext E308 F0) (hb hby d6_5) rfl ?_
  refine Go.aloadN (q := 9) hx (hb hby d6_8) rfl (by rfl) rfl ?_
  refine Go.getF (q := 12) hx hZ hown (host := "") (Or.inl (hw _ (List.mem_of_getElem? (i := 41) rfl))) Via.refl (Fld.ext E308 F1) (hb hby d6_9) rfl ?_
  refine Go.aloadN (q := 13) hx (hb hby d6_12) rfl (by rfl) rfl ?_
  refine Go.getF (q := 16) hx hZ hown (host := "") (Or.inl (hw _ (List.mem_of_getElem? (i := 43) rfl))) Via.refl (Fld.ext E308 F2) (hb hby d6_13) rfl ?_
  refine Go.aloadN (q := 17) hx (hb hby d6_16) rfl (by rfl) rfl ?_
  refine Go.getF (q := 20) hx hZ hown (host := "") (Or.inl (hw _ (List.mem_of_getElem? (i := 45) rfl))) Via.refl (Fld.ext E308 F3) (hb hby d6_17) rfl ?_
  refine Go.aloadN (q := 21) hx (hb hby d6_20) rfl (by rfl) rfl ?_
  refine Go.getF (q := 24) hx hZ hown (host := "") (Or.inl (hw _ (List.mem_of_getElem? (i := 47) rfl))) Via.refl (Fld.ext E308 F4) (hb hby d6_21) rfl ?_
  refine Go.lloadN (q := 25) hx (hb hby d6_24) rfl rfl ?_
  refine Go.callI (q := 28) hx hZ (a := a306) (argsL := [(.long x1), (.long x2), (.long x3), (.int x4), x5, (.long t)]) (rest := [(.ref a306)]) hown rfl (hw _ (List.mem_of_getElem? (i := 57) rfl)) (hw _ (List.mem_of_getElem? (i := 31) rfl)) (hw _ (List.mem_of_getElem? (i := 29) rfl)) (hw _ (List.mem_of_getElem? (i := 32) rfl)) (by decide) (rmE l Z a0 hw hel a306 x1 x2 x3 x4 x5 t h305 n0 (Nat.le_trans Z0 E308.1) hx5 gz312 A309 (D310 (Or.inr (hw _ (List.mem_of_getElem? (i := 40) rfl))) (ty := .long) (by decide)) (D310 (Or.inr (hw _ (List.mem_of_getElem? (i := 42) rfl))) (ty := .long) (by decide)) (D310 (Or.inr (hw _ (List.mem_of_getElem? (i := 44) rfl))) (ty := .long) (by decide)) (D310 (Or.inr (hw _ (List.mem_of_getElem? (i := 46) rfl))) (ty := .int) (by decide)) (D310 (Or.inr (hw _ (List.mem_of_getElem? (i := 48) rfl))) (ty := (.object "java/lang/String")) (by decide)) (D310 (Or.inr (hw _ (List.mem_of_getElem? (i := 50) rfl))) (ty := .long) (by decide))) (by simp) (by rw [hml]; rfl) pd_6 rfl rfl (hb hby d6_25) rfl (by decide) (Nat.le_of_ble_eq_true rfl) (ce' := 1) (sl' := 6) rfl rfl (by decide) (by decide) (fun v314 h315 hQ316 => ?_)
  obtain ⟨rfl, K317, F318, F319, F320, F321, F322, F323⟩ := hQ316
  show Go _ _ _ _ _ _ _ _ _ _ _ _ _ _ _ _ _ _ _ _ 1 6 28 #[.val (.ref a), .val (.long t), .second] [(.ref a306)]
  refine Go.retA hx hret rfl (by rfl) hlk (hb hby d6_28) (by decide) (by decide) ?_
  exact ⟨a306, rfl, gk313, (Keep.trans ((Keep.refl h0 []).ext E308) K317 (allS (Or.inr gk313) all0)), (A309.keep K317), F318, F319, F320, F321, F322, F323⟩
theorem d7_0 : decode prog_101_method_6_code 0 = .ok (.aload_n 0, 1) := by decide +kernel
theorem d7_1 : decode prog_101_method_6_code 1 = .ok (.getfield 7, 3) := by decide +kernel
theorem d7_4 : decode prog_101_method_6_code 4 = .ok (.lreturn, 1) := by decide +kernel
theorem pl_9 : plainFor (⟨"com/example/epithet/epithet/store/TransientIndex$Entry", "high", "()J"⟩ : MethodName) = true := plainFor_of_name (by first | (simp [plainName, overriddenIn]; done) | decide +kernel)
set_option maxRecDepth 65536 in
set_option maxHeartbeats 40000000 in
theorem rmG0 (l : Launch) (Z : State) (a0 : Array Value) (hw : ∀ d ∈ tables_1, d.before a0 Z = true) (hel : EW Z a0 consts_1) (a : Addr) (x1 : Int64) (h0 : Heap) (n0 : Nat) (Z0 : n0 ≤ h0.size) (F : Fld Z h0 a "com/example/epithet/epithet/store/TransientIndex$Entry" "high" "J" (.long x1)) :
    Met l Z consts_1 [] (⟨"com/example/epithet/epithet/store/TransientIndex$Entry", "high", "()J"⟩ : MethodName) prog_101_method_6_code 1 (Option.some FieldType.long) [] ({ frames := 0, cells := 0, slots := 0, locals := 0 } : Room) #[(.ref a)] h0 n0 (fun v h => v = some (.long x1) ∧ h0 = h) := by
  refine Met.of (Ls0 := #[.val (.ref a)]) pl_9 (by first | (simp [argsToLocals, Value.category]; done) | rfl) hel ?_
  intro p e s m below meth c hx hby hml hret hlk hown hnm hZ
  refine Go.aloadN (q := 1) hx (hb hby d7_0) rfl (by rfl) rfl ?_
  refine Go.getF (q := 4) hx hZ hown (host := "") (Or.inl (hw _ (List.mem_of_getElem? (i := 39) rfl))) Via.refl F (hb hby d7_1) rfl ?_
  refine Go.retL hx hret hlk (hb hby d7_4) (by decide) (by decide) ?_
  exact ⟨rfl, rfl⟩
theorem d8_0 : decode prog_101_method_7_code 0 = .ok (.aload_n 0, 1) := by decide +kernel
theorem d8_1 : decode prog_101_method_7_code 1 = .ok (.getfield 13, 3) := by decide +kernel
theorem d8_4 : decode prog_101_method_7_code 4 = .ok (.lreturn, 1) := by decide +kernel
theorem pl_10 : plainFor (⟨"com/example/epithet/epithet/store/TransientIndex$Entry", "low", "()J"⟩ : MethodName) = true := plainFor_of_name (by first | (simp [plainName, overriddenIn]; done) | decide +kernel)
set_option maxRecDepth 65536 in
set_option maxHeartbeats 40000000 in
theorem rmG1 (l : Launch) (Z : State) (a0 : Array Value) (hw : ∀ d ∈ tables_1, d.before a0 Z = true) (hel : EW Z a0 consts_1) (a : Addr) (x2 : Int64) (h0 : Heap) (n0 : Nat) (Z0 : n0 ≤ h0.size) (F : Fld Z h0 a "com/example/epithet/epithet/store/TransientIndex$Entry" "low" "J" (.long x2)) :
    Met l Z consts_1 [] (⟨"com/example/epithet/epithet/store/TransientIndex$Entry", "low", "()J"⟩ : MethodName) prog_101_method_7_code 1 (Option.some FieldType.long) [] ({ frames := 0, cells := 0, slots := 0, locals := 0 } : Room) #[(.ref a)] h0 n0 (fun v h => v = some (.long x2) ∧ h0 = h) := by
  refine Met.of (Ls0 := #[.val (.ref a)]) pl_10 (by first | (simp [argsToLocals, Value.category]; done) | rfl) hel ?_
  intro p e s m below meth c hx hby hml hret hlk hown hnm hZ
  refine Go.aloadN (q := 1) hx (hb hby d8_0) rfl (by rfl) rfl ?_
  refine Go.getF (q := 4) hx hZ hown (host := "") (Or.inl (hw _ (List.mem_of_getElem? (i := 41) rfl))) Via.refl F (hb hby d8_1) rfl ?_
  refine Go.retL hx hret hlk (hb hby d8_4) (by decide) (by decide) ?_
  exact ⟨rfl, rfl⟩
theorem d9_0 : decode prog_101_method_8_code 0 = .ok (.aload_n 0, 1) := by decide +kernel
theorem d9_1 : decode prog_101_method_8_code 1 = .ok (.getfield 16, 3) := by decide +kernel
theorem d9_4 : decode prog_101_method_8_code 4 = .ok (.lreturn, 1) := by decide +kernel
theorem pl_11 : plainFor (⟨"com/example/epithet/epithet/store/TransientIndex$Entry", "expires", "()J"⟩ : MethodName) = true := plainFor_of_name (by first | (simp [plainName, overriddenIn]; done) | decide +kernel)
set_option maxRecDepth 65536 in
set_option maxHeartbeats 40000000 in
theorem rmG2 (l : Launch) (Z : State) (a0 : Array Value) (hw : ∀ d ∈ tables_1, d.before a0 Z = true) (hel : EW Z a0 consts_1) (a : Addr) (x3 : Int64) (h0 : Heap) (n0 : Nat) (Z0 : n0 ≤ h0.size) (F : Fld Z h0 a "com/example/epithet/epithet/store/TransientIndex$Entry" "expires" "J" (.long x3)) :
    Met l Z consts_1 [] (⟨"com/example/epithet/epithet/store/TransientIndex$Entry", "expires", "()J"⟩ : MethodName) prog_101_method_8_code 1 (Option.some FieldType.long) [] ({ frames := 0, cells := 0, slots := 0, locals := 0 } : Room) #[(.ref a)] h0 n0 (fun v h => v = some (.long x3) ∧ h0 = h) := by
  refine Met.of (Ls0 := #[.val (.ref a)]) pl_11 (by first | (simp [argsToLocals, Value.category]; done) | rfl) hel ?_
  intro p e s m below meth c hx hby hml hret hlk hown hnm hZ
  refine Go.aloadN (q := 1) hx (hb hby d9_0) rfl (by rfl) rfl ?_
  refine Go.getF (q := 4) hx hZ hown (host := "") (Or.inl (hw _ (List.mem_of_getElem? (i := 43) rfl))) Via.refl F (hb hby d9_1) rfl ?_
  refine Go.retL hx hret hlk (hb hby d9_4) (by decide) (by decide) ?_
  exact ⟨rfl, rfl⟩
theorem d10_0 : decode prog_101_method_9_code 0 = .ok (.aload_n 0, 1) := by decide +kernel
theorem d10_1 : decode prog_101_method_9_code 1 = .ok (.getfield 19, 3) := by decide +kernel
theorem d10_4 : decode prog_101_method_9_code 4 = .ok (.ireturn, 1) := by decide +kernel
theorem pl_12 : plainFor (⟨"com/example/epithet/epithet/store/TransientIndex$Entry", "spFormat", "()I"⟩ : MethodName) = true := plainFor_of_name (by first | (simp [plainName, overriddenIn]; done) | decide +kernel)
set_option maxRecDepth 65536 in
set_option maxHeartbeats 40000000 in
theorem rmG3 (l : Launch) (Z : State) (a0 : Array Value) (hw : ∀ d ∈ tables_1, d.before a0 Z = true) (hel : EW Z a0 consts_1) (a : Addr) (x4 : Int32) (h0 : Heap) (n0 : Nat) (Z0 : n0 ≤ h0.size) (F : Fld Z h0 a "com/example/epithet/epithet/store/TransientIndex$Entry" "spFormat" "I" (.int x4)) :
    Met l Z consts_1 [] (⟨"com/example/epithet/epithet/store/TransientIndex$Entry", "spFormat", "()I"⟩ : MethodName) prog_101_method_9_code 1 (Option.some FieldType.int) [] ({ frames := 0, cells := 0, slots := 0, locals := 0 } : Room) #[(.ref a)] h0 n0 (fun v h => v = some (.int x4) ∧ h0 = h) := by
  refine Met.of (Ls0 := #[.val (.ref a)]) pl_12 (by first | (simp [argsToLocals, Value.category]; done) | rfl) hel ?_
  intro p e s m below meth c hx hby hml hret hlk hown hnm hZ
  refine Go.aloadN (q := 1) hx (hb hby d10_0) rfl (by rfl) rfl ?_
  refine Go.getF (q := 4) hx hZ hown (host := "") (Or.inl (hw _ (List.mem_of_getElem? (i := 45) rfl))) Via.refl F (hb hby d10_1) rfl ?_
  refine Go.retI hx hret hlk (hb hby d10_4) (by decide) (by decide) ?_
  exact ⟨rfl, rfl⟩
theorem d11_0 : decode prog_101_method_10_code 0 = .ok (.aload_n 0, 1) := by decide +kernel
theorem d11_1 : decode prog_101_method_10_code 1 = .ok (.getfield 23, 3) := by decide +kernel
theorem d11_4 : decode prog_101_method_10_code 4 = .ok (.areturn, 1) := by decide +kernel
theorem pl_13 : plainFor (⟨"com/example/epithet/epithet/store/TransientIndex$Entry", "principal", "()Ljava/lang/String;"⟩ : MethodName) = true := plainFor_of_name (by first | (simp [plainName, overriddenIn]; done) | decide +kernel)
set_option maxRecDepth 65536 in
set_option maxHeartbeats 40000000 in
theorem rmG4 (l : Launch) (Z : State) (a0 : Array Value) (hw : ∀ d ∈ tables_1, d.before a0 Z = true) (hel : EW Z a0 consts_1) (a : Addr) (x5 : Value) (h0 : Heap) (n0 : Nat) (Z0 : n0 ≤ h0.size) (hx5 : x5.isRef = true) (F : Fld Z h0 a "com/example/epithet/epithet/store/TransientIndex$Entry" "principal" "Ljava/lang/String;" x5) :
    Met l Z consts_1 [] (⟨"com/example/epithet/epithet/store/TransientIndex$Entry", "principal", "()Ljava/lang/String;"⟩ : MethodName) prog_101_method_10_code 1 (Option.some (FieldType.object "java/lang/String")) [] ({ frames := 0, cells := 0, slots := 0, locals := 0 } : Room) #[(.ref a)] h0 n0 (fun v h => v = some x5 ∧ h0 = h) := by
  refine Met.of (Ls0 := #[.val (.ref a)]) pl_13 (by first | (simp [argsToLocals, Value.category]; done) | rfl) hel ?_
  intro p e s m below meth c hx hby hml hret hlk hown hnm hZ
  refine Go.aloadN (q := 1) hx (hb hby d11_0) rfl (by rfl) rfl ?_
  refine Go.getF (q := 4) hx hZ hown (host := "") (Or.inl (hw _ (List.mem_of_getElem? (i := 47) rfl))) Via.refl F (hb hby d11_1) rfl ?_
  refine Go.retA hx hret rfl (by exact hx5) hlk (hb hby d11_4) (by decide) (by decide) ?_
  exact ⟨rfl, rfl⟩
theorem d12_0 : decode prog_101_method_11_code 0 = .ok (.aload_n 0, 1) := by decide +kernel
theorem d12_1 : decode prog_101_method_11_code 1 = .ok (.getfield 27, 3) := by decide +kernel
theorem d12_4 : decode prog_101_method_11_code 4 = .ok (.lreturn, 1) := by decide +kernel
theorem pl_14 : plainFor (⟨"com/example/epithet/epithet/store/TransientIndex$Entry", "at", "()J"⟩ : MethodName) = true := plainFor_of_name (by first | (simp [plainName, overriddenIn]; done) | decide +kernel)
set_option maxRecDepth 65536 in
set_option maxHeartbeats 40000000 in
theorem rmG5 (l : Launch) (Z : State) (a0 : Array Value) (hw : ∀ d ∈ tables_1, d.before a0 Z = true) (hel : EW Z a0 consts_1) (a : Addr) (x6 : Int64) (h0 : Heap) (n0 : Nat) (Z0 : n0 ≤ h0.size) (F : Fld Z h0 a "com/example/epithet/epithet/store/TransientIndex$Entry" "at" "J" (.long x6)) :
    Met l Z consts_1 [] (⟨"com/example/epithet/epithet/store/TransientIndex$Entry", "at", "()J"⟩ : MethodName) prog_101_method_11_code 1 (Option.some FieldType.long) [] ({ frames := 0, cells := 0, slots := 0, locals := 0 } : Room) #[(.ref a)] h0 n0 (fun v h => v = some (.long x6) ∧ h0 = h) := by
  refine Met.of (Ls0 := #[.val (.ref a)]) pl_14 (by first | (simp [argsToLocals, Value.category]; done) | rfl) hel ?_
  intro p e s m below meth c hx hby hml hret hlk hown hnm hZ
  refine Go.aloadN (q := 1) hx (hb hby d12_0) rfl (by rfl) rfl ?_
  refine Go.getF (q := 4) hx hZ hown (host := "") (Or.inl (hw _ (List.mem_of_getElem? (i := 49) rfl))) Via.refl F (hb hby d12_1) rfl ?_
  refine Go.retL hx hret hlk (hb hby d12_4) (by decide) (by decide) ?_
  exact ⟨rfl, rfl⟩
theorem pl_15 : plainFor (⟨"com/example/epithet/epithet/store/EntryAtPinLaw", "law", "(JJJIJI)Z"⟩ : MethodName) = true := plainFor_of_name (by first | (simp [plainName, overriddenIn]; done) | decide +kernel)
theorem pd_7 : parseMethodDescriptor "(I)Ljava/lang/String;" = some ⟨[.int], some (.object "java/lang/String")⟩ := by decide +kernel
theorem pd_8 : parseMethodDescriptor "(J)Lcom/example/epithet/epithet/store/TransientIndex$Entry;" = some ⟨[.long], some (.object "com/example/epithet/epithet/store/TransientIndex$Entry")⟩ := by decide +kernel
theorem pd_9 : parseMethodDescriptor "()J" = some ⟨[], some .long⟩ := by decide +kernel
theorem pd_10 : parseMethodDescriptor "()I" = some ⟨[], some .int⟩ := by decide +kernel
theorem pd_11 : parseMethodDescriptor "()Ljava/lang/String;" = some ⟨[], some (.object "java/lang/String")⟩ := by decide +kernel
set_option maxRecDepth 65536 in
set_option maxHeartbeats 40000000 in
theorem rm0 (l : Launch) (Z : State) (a0 : Array Value) (hw : ∀ d ∈ tables_1, d.before a0 Z = true) (hel : EW Z a0 consts_1) (p1 p2 p3 : Int64) (p4 : Int32) (p5 : Int64) (p6 cst : Int32) (h0 : Heap) (n0 : Nat) (Z0 : n0 ≤ h0.size) (X0 : Old Z n0 h0) (SC : Sta Z Z.heap "java/lang/String" "COMPACT_STRINGS" "Z" (.int cst)) (hcs : ¬ cst = (0 : Int32)) :
    Met l Z consts_1 [] x code maxLocals ret tables_1 room_1 #[(.long p1), (.long p2), (.long p3), (.int p4), (.long p5), (.int p6)] h0 n0 (fun v h => v = some (.int 1)) := by
  refine Met.of (Ls0 := #[.val (.long p1), .second, .val (.long p2), .second, .val (.long p3), .second, .val (.int p4), .val (.long p5), .second, .val (.int p6), .unset, .unset, .unset, .unset, .unset]) pl_15 (by first | (simp [argsToLocals, Value.category, maxLocals]; done) | rfl) hel ?_
  intro p e s m below meth c hx hby hml hret hlk hown hnm hZ
  refine Go.iload (q := 2) hx (hb hby at_0) rfl rfl ?_
  refine Go.callS (q := 5) hx hZ (argsL := [(.int p6)]) (rest := []) hown (hw _ (List.mem_of_getElem? (i := 0) rfl)) (hw _ (List.mem_of_getElem? (i := 1) rfl)) (hw _ (List.mem_of_getElem? (i := 2) rfl)) (hw _ (List.mem_of_getElem? (i := 3) rfl)) (by decide) (rmP l Z a0 hw hel p6 cst h0 n0 Z0 X0 SC hcs) (fun _ hx => nomatch hx) (by rw [hml]; rfl) pd_7 rfl rfl (hb hby at_2) rfl (by decide) (Nat.le_of_ble_eq_true rfl) (ce' := 6) (sl' := 12) rfl rfl (by decide) (by decide) (fun v324 h325 hQ326 => ?_)
  obtain ⟨pv, rfl, hpv, K327⟩ := hQ326
  show Go _ _ _ _ _ _ _ _ _ _ _ _ _ _ _ _ _ _ _ _ 6 12 5 #[.val (.long p1), .second, .val (.long p2), .second, .val (.long p3), .second, .val (.int p4), .val (.long p5), .second, .val (.int p6), .unset, .unset, .unset, .unset, .unset] [pv]
  refine Go.astore (q := 7) (l' := #[.val (.long p1), .second, .val (.long p2), .second, .val (.long p3), .second, .val (.int p4), .val (.long p5), .second, .val (.int p6), .val pv, .unset, .unset, .unset, .unset]) hx (hb hby at_5) (by exact hpv) ((XS.store1 (o := .unset) rfl (Or.inl rfl) (cat_ref hpv)).trans rfl) rfl ?_
  refine Go.lload (q := 9) hx (hb hby at_7) rfl rfl ?_
  refine Go.ldc2Long (q := 12) hx hZ hown (hw _ (List.mem_of_getElem? (i := 26) rfl)) (hb hby at_9) rfl ?_
  refine Go.lxor (q := 13) hx (hb hby at_12) rfl ?_
  refine Go.lloadN (q := 14) hx (hb hby at_13) rfl rfl ?_
  refine Go.lxor (q := 15) hx (hb hby at_14) rfl ?_
  refine Go.lstore (q := 17) (l' := #[.val (.long p1), .second, .val (.long p2), .second, .val (.long p3), .second, .val (.int p4), .val (.long p5), .second, .val (.int p6), .val pv, .val (.long ((p5 ^^^ (-1 : Int64)) ^^^ p2)), .second, .unset, .unset]) hx (hb hby at_15) rfl rfl ?_
  refine Go.newO (q := 20) hx hZ hown (hw _ (List.mem_of_getElem? (i := 27) rfl)) (hw _ (List.mem_of_getElem? (i := 28) rfl)) (hw _ (List.mem_of_getElem? (i := 29) rfl)) (hb hby at_17) rfl (ce' := 7) (sl' := 18) rfl rfl (by decide) (by decide) (fun h328 a329 g330 E331 A332 D333 => ?_)
  have gz334 : n0 ≤ a329 := by rw [g330]; exact (Nat.le_trans Z0 K327.1)
  refine Go.dup (q := 21) hx (hb hby at_20) rfl rfl ?_
  refine Go.lloadN (q := 22) hx (hb hby at_21) rfl rfl ?_
  refine Go.lloadN (q := 23) hx (hb hby at_22) rfl rfl ?_
  refine Go.lload (q := 25) hx (hb hby at_23) rfl rfl ?_
  refine Go.iload (q := 27) hx (hb hby at_25) rfl rfl ?_
  refine Go.aload (q := 29) hx (hb hby at_27) rfl (by exact hpv) rfl ?_
  refine Go.lload (q := 31) hx (hb hby at_29) rfl rfl ?_
  refine Go.callI (q := 34) hx hZ (a := a329) (argsL := [(.long p1), (.long p2), (.long p3), (.int p4), pv, (.long ((p5 ^^^ (-1 : Int64)) ^^^ p2))]) (rest := [(.ref a329)]) hown rfl (hw _ (List.mem_of_getElem? (i := 30) rfl)) (hw _ (List.mem_of_getElem? (i := 31) rfl)) (hw _ (List.mem_of_getElem? (i := 29) rfl)) (hw _ (List.mem_of_getElem? (i := 32) rfl)) (by decide) (rmE l Z a0 hw hel a329 p1 p2 p3 p4 pv ((p5 ^^^ (-1 : Int64)) ^^^ p2) h328 n0 (Nat.le_trans (Nat.le_trans Z0 K327.1) E331.1) hpv gz334 A332 (D333 (Or.inr (hw _ (List.mem_of_getElem? (i := 40) rfl))) (ty := .long) (by decide)) (D333 (Or.inr (hw _ (List.mem_of_getElem? (i := 42) rfl))) (ty := .long) (by decide)) (D333 (Or.inr (hw _ (List.mem_of_getElem? (i := 44) rfl))) (ty := .long) (by decide)) (D333 (Or.inr (hw _ (List.mem_of_getElem? (i := 46) rfl))) (ty := .int) (by decide)) (D333 (Or.inr (hw _ (List.mem_of_getElem? (i := 48) rfl))) (ty := (.object "java/lang/String")) (by decide)) (D333 (Or.inr (hw _ (List.mem_of_getElem? (i := 50) rfl))) (ty := .long) (by decide))) (by simp) (by rw [hml]; rfl) pd_6 rfl rfl (hb hby at_31) rfl (by decide) (Nat.le_of_ble_eq_true rfl) (ce' := 7) (sl' := 18) rfl rfl (by decide) (by decide) (fun v335 h336 hQ337 => ?_)
  obtain ⟨rfl, K338, F339, F340, F341, F342, F343, F344⟩ := hQ337
  show Go _ _ _ _ _ _ _ _ _ _ _ _ _ _ _ _ _ _ _ _ 7 18 34 #[.val (.long p1), .second, .val (.long p2), .second, .val (.long p3), .second, .val (.int p4), .val (.long p5), .second, .val (.int p6), .val pv, .val (.long ((p5 ^^^ (-1 : Int64)) ^^^ p2)), .second, .unset, .unset] [(.ref a329)]
  refine Go.astore (q := 36) (l' := #[.val (.long p1), .second, .val (.long p2), .second, .val (.long p3), .second, .val (.int p4), .val (.long p5), .second, .val (.int p6), .val pv, .val (.long ((p5 ^^^ (-1 : Int64)) ^^^ p2)), .second, .val (.ref a329), .unset]) hx (hb hby at_34) (by rfl) rfl rfl ?_
  refine Go.aload (q := 38) hx (hb hby at_36) rfl (by rfl) rfl ?_
  refine Go.lload (q := 40) hx (hb hby at_38) rfl rfl ?_
  refine Go.callV (q := 43) hx hZ (a := a329) (argsL := [(.long p5)]) (rest := []) hown (hw _ (List.mem_of_getElem? (i := 51) rfl)) (hw _ (List.mem_of_getElem? (i := 52) rfl)) (fun vm hzv => notFace_of_selects (args := #[]) (mvT hzv (hw _ (List.mem_of_getElem? (i := 54) rfl)))) (hw _ (List.mem_of_getElem? (i := 54) rfl)) (hw _ (List.mem_of_getElem? (i := 53) rfl)) (hw _ (List.mem_of_getElem? (i := 29) rfl)) (hw _ (List.mem_of_getElem? (i := 55) rfl)) (by decide) (A332.keep K338) (rmAt l Z a0 hw hel a329 p1 p2 p3 p4 pv ((p5 ^^^ (-1 : Int64)) ^^^ p2) p5 h336 n0 (Nat.le_trans (Nat.le_trans (Nat.le_trans Z0 K327.1) E331.1) K338.1) hpv F339 F340 F341 F342 F343 F344) (fun _ hx => nomatch hx) (by rw [hml]; rfl) pd_8 rfl rfl (hb hby at_40) rfl (by decide) (Nat.le_of_ble_eq_true rfl) (ce' := 8) (sl' := 24) rfl rfl (by decide) (by decide) (fun v345 h346 hQ347 => ?_)
  have lt358 := ((A332.keep K338)).lt
  obtain ⟨c349, rfl, g350, K348, E351, F352, F353, F354, F355, F356, F357⟩ := hQ347
  have ne359 : a329 ≠ c349 := Nat.ne_of_lt (Nat.lt_of_lt_of_le lt358 g350)
  show Go _ _ _ _ _ _ _ _ _ _ _ _ _ _ _ _ _ _ _ _ 8 24 43 #[.val (.long p1), .second, .val (.long p2), .second, .val (.long p3), .second, .val (.int p4), .val (.long p5), .second, .val (.int p6), .val pv, .val (.long ((p5 ^^^ (-1 : Int64)) ^^^ p2)), .second, .val (.ref a329), .unset] [(.ref c349)]
  refine Go.astore (q := 45) (l' := #[.val (.long p1), .second, .val (.long p2), .second, .val (.long p3), .second, .val (.int p4), .val (.long p5), .second, .val (.int p6), .val pv, .val (.long ((p5 ^^^ (-1 : Int64)) ^^^ p2)), .second, .val (.ref a329), .val (.ref c349)]) hx (hb hby at_43) (by rfl) rfl rfl ?_
  refine Go.aload (q := 47) hx (hb hby at_45) rfl (by rfl) rfl ?_
  refine Go.callV (q := 50) hx hZ (a := c349) (argsL := []) (rest := []) hown (hw _ (List.mem_of_getElem? (i := 58) rfl)) (hw _ (List.mem_of_getElem? (i := 59) rfl)) (fun vm hzv => notFace_of_selects (args := #[]) (mvT hzv (hw _ (List.mem_of_getElem? (i := 61) rfl)))) (hw _ (List.mem_of_getElem? (i := 61) rfl)) (hw _ (List.mem_of_getElem? (i := 60) rfl)) (hw _ (List.mem_of_getElem? (i := 29) rfl)) (hw _ (List.mem_of_getElem? (i := 62) rfl)) (by decide) E351 (rmG0 l Z a0 hw hel c349 p1 h346 n0 (Nat.le_trans (Nat.le_trans (Nat.le_trans (Nat.le_trans Z0 K327.1) E331.1) K338.1) K348.1) F352) (fun _ hx => nomatch hx) (by rw [hml]; rfl) pd_9 rfl rfl (hb hby at_47) rfl (by decide) (Nat.le_of_ble_eq_true rfl) (ce' := 8) (sl' := 24) rfl rfl (by decide) (by decide) (fun v360 h361 hQ362 => ?_)
  obtain ⟨rfl, rfl⟩ := hQ362
  show Go _ _ _ _ _ _ _ _ _ _ _ _ _ _ _ _ _ _ _ _ 8 24 50 #[.val (.long p1), .second, .val (.long p2), .second, .val (.long p3), .second, .val (.int p4), .val (.long p5), .second, .val (.int p6), .val pv, .val (.long ((p5 ^^^ (-1 : Int64)) ^^^ p2)), .second, .val (.ref a329), .val (.ref c349)] [(.long p1)]
  refine Go.lloadN (q := 51) hx (hb hby at_50) rfl rfl ?_
  refine Go.lcmp (q := 52) hx (hb hby at_51) rfl ?_
  refine Go.if_ne (q := 55) (t := 122) hx (hb hby at_52) (by decide) rfl rfl (fun hc52 => absurd ((cmpL_eq _ _).mpr rfl) hc52) (fun hc52 => ?_)
  refine Go.aload (q := 57) hx (hb hby at_55) rfl (by rfl) rfl ?_
  refine Go.callV (q := 60) hx hZ (a := c349) (argsL := []) (rest := []) hown (hw _ (List.mem_of_getElem? (i := 63) rfl)) (hw _ (List.mem_of_getElem? (i := 64) rfl)) (fun vm hzv => notFace_of_selects (args := #[]) (mvT hzv (hw _ (List.mem_of_getElem? (i := 66) rfl)))) (hw _ (List.mem_of_getElem? (i := 66) rfl)) (hw _ (List.mem_of_getElem? (i := 65) rfl)) (hw _ (List.mem_of_getElem? (i := 29) rfl)) (hw _ (List.mem_of_getElem? (i := 67) rfl)) (by decide) E351 (rmG1 l Z a0 hw hel c349 p2 h346 n0 (Nat.le_trans (Nat.le_trans (Nat.le_trans (Nat.le_trans Z0 K327.1) E331.1) K338.1) K348.1) F353) (fun _ hx => nomatch hx) (by rw [hml]; rfl) pd_9 rfl rfl (hb hby at_57) rfl (by decide) (Nat.le_of_ble_eq_true rfl) (ce' := 8) (sl' := 24) rfl rfl (by decide) (by decide) (fun v363 h364 hQ365 => ?_)
  obtain ⟨rfl, rfl⟩ := hQ365
  show Go _ _ _ _ _ _ _ _ _ _ _ _ _ _ _ _ _ _ _ _ 8 24 60 #[.val (.long p1), .second, .val (.long p2), .second, .val (.long p3), .second, .val (.int p4), .val (.long p5), .second, .val (.int p6), .val pv, .val (.long ((p5 ^^^ (-1 : Int64)) ^^^ p2)), .second, .val (.ref a329), .val (.ref c349)] [(.long p2)]
  refine Go.lloadN (q := 61) hx (hb hby at_60) rfl rfl ?_
  refine Go.lcmp (q := 62) hx (hb hby at_61) rfl ?_
  refine Go.if_ne (q := 65) (t := 122) hx (hb hby at_62) (by decide) rfl rfl (fun hc62 => absurd ((cmpL_eq _ _).mpr rfl) hc62) (fun hc62 => ?_)
  refine Go.aload (q := 67) hx (hb hby at_65) rfl (by rfl) rfl ?_
  refine Go.callV (q := 70) hx hZ (a := c349) (argsL := []) (rest := []) hown (hw _ (List.mem_of_getElem? (i := 68) rfl)) (hw _ (List.mem_of_getElem? (i := 69) rfl)) (fun vm hzv => notFace_of_selects (args := #[]) (mvT hzv (hw _ (List.mem_of_getElem? (i := 71) rfl)))) (hw _ (List.mem_of_getElem? (i := 71) rfl)) (hw _ (List.mem_of_getElem? (i := 70) rfl)) (hw _ (List.mem_of_getElem? (i := 29) rfl)) (hw _ (List.mem_of_getElem? (i := 72) rfl)) (by decide) E351 (rmG2 l Z a0 hw hel c349 p3 h346 n0 (Nat.le_trans (Nat.le_trans (Nat.le_trans (Nat.le_trans Z0 K327.1) E331.1) K338.1) K348.1) F354) (fun _ hx => nomatch hx) (by rw [hml]; rfl) pd_9 rfl rfl (hb hby at_67) rfl (by decide) (Nat.le_of_ble_eq_true rfl) (ce' := 8) (sl' := 24) rfl rfl (by decide) (by decide) (fun v366 h367 hQ368 => ?_)
  obtain ⟨rfl, rfl⟩ := hQ368
  show Go _ _ _ _ _ _ _ _ _ _ _ _ _ _ _ _ _ _ _ _ 8 24 70 #[.val (.long p1), .second, .val (.long p2), .second, .val (.long p3), .second, .val (.int p4), .val (.long p5), .second, .val (.int p6), .val pv, .val (.long ((p5 ^^^ (-1 : Int64)) ^^^ p2)), .second, .val (.ref a329), .val (.ref c349)] [(.long p3)]
  refine Go.lload (q := 72) hx (hb hby at_70) rfl rfl ?_
  refine Go.lcmp (q := 73) hx (hb hby at_72) rfl ?_
  refine Go.if_ne (q := 76) (t := 122) hx (hb hby at_73) (by decide) rfl rfl (fun hc73 => absurd ((cmpL_eq _ _).mpr rfl) hc73) (fun hc73 => ?_)
  refine Go.aload (q := 78) hx (hb hby at_76) rfl (by rfl) rfl ?_
  refine Go.callV (q := 81) hx hZ (a := c349) (argsL := []) (rest := []) hown (hw _ (List.mem_of_getElem? (i := 73) rfl)) (hw _ (List.mem_of_getElem? (i := 74) rfl)) (fun vm hzv => notFace_of_selects (args := #[]) (mvT hzv (hw _ (List.mem_of_getElem? (i := 76) rfl)))) (hw _ (List.mem_of_getElem? (i := 76) rfl)) (hw _ (List.mem_of_getElem? (i := 75) rfl)) (hw _ (List.mem_of_getElem? (i := 29) rfl)) (hw _ (List.mem_of_getElem? (i := 77) rfl)) (by decide) E351 (rmG3 l Z a0 hw hel c349 p4 h346 n0 (Nat.le_trans (Nat.le_trans (Nat.le_trans (Nat.le_trans Z0 K327.1) E331.1) K338.1) K348.1) F355) (fun _ hx => nomatch hx) (by rw [hml]; rfl) pd_10 rfl rfl (hb hby at_78) rfl (by decide) (Nat.le_of_ble_eq_true rfl) (ce' := 8) (sl' := 24) rfl rfl (by decide) (by decide) (fun v369 h370 hQ371 => ?_)
  obtain ⟨rfl, rfl⟩ := hQ371
  show Go _ _ _ _ _ _ _ _ _ _ _ _ _ _ _ _ _ _ _ _ 8 24 81 #[.val (.long p1), .second, .val (.long p2), .second, .val (.long p3), .second, .val (.int p4), .val (.long p5), .second, .val (.int p6), .val pv, .val (.long ((p5 ^^^ (-1 : Int64)) ^^^ p2)), .second, .val (.ref a329), .val (.ref c349)] [(.int p4)]
  refine Go.iload (q := 83) hx (hb hby at_81) rfl rfl ?_
  refine Go.icmp_ne (q := 86) (t := 122) hx (hb hby at_83) (by decide) rfl rfl (fun hc83 => absurd rfl hc83) (fun hc83 => ?_)
  refine Go.aload (q := 88) hx (hb hby at_86) rfl (by rfl) rfl ?_
  refine Go.callV (q := 91) hx hZ (a := c349) (argsL := []) (rest := []) hown (hw _ (List.mem_of_getElem? (i := 78) rfl)) (hw _ (List.mem_of_getElem? (i := 79) rfl)) (fun vm hzv => notFace_of_selects (args := #[]) (mvT hzv (hw _ (List.mem_of_getElem? (i := 81) rfl)))) (hw _ (List.mem_of_getElem? (i := 81) rfl)) (hw _ (List.mem_of_getElem? (i := 80) rfl)) (hw _ (List.mem_of_getElem? (i := 29) rfl)) (hw _ (List.mem_of_getElem? (i := 82) rfl)) (by decide) E351 (rmG4 l Z a0 hw hel c349 pv h346 n0 (Nat.le_trans (Nat.le_trans (Nat.le_trans (Nat.le_trans Z0 K327.1) E331.1) K338.1) K348.1) hpv F356) (fun _ hx => nomatch hx) (by rw [hml]; rfl) pd_11 rfl rfl (hb hby at_88) rfl (by decide) (Nat.le_of_ble_eq_true rfl) (ce' := 8) (sl' := 24) rfl rfl (by decide) (by decide) (fun v372 h373 hQ374 => ?_)
  obtain ⟨rfl, rfl⟩ := hQ374
  show Go _ _ _ _ _ _ _ _ _ _ _ _ _ _ _ _ _ _ _ _ 8 24 91 #[.val (.long p1), .second, .val (.long p2), .second, .val (.long p3), .second, .val (.int p4), .val (.long p5), .second, .val (.int p6), .val pv, .val (.long ((p5 ^^^ (-1 : Int64)) ^^^ p2)), .second, .val (.ref a329), .val (.ref c349)] [pv]
  refine Go.aload (q := 93) hx (hb hby at_91) rfl (by exact hpv) rfl ?_
  refine Go.acmp_ne (q := 96) (t := 122) hx (by exact hpv) (by exact hpv) (hb hby at_93) (by decide) rfl rfl (fun hc93 => absurd rfl hc93) (fun hc93 => ?_)
  refine Go.aload (q := 98) hx (hb hby at_96) rfl (by rfl) rfl ?_
  refine Go.callV (q := 101) hx hZ (a := c349) (argsL := []) (rest := []) hown (hw _ (List.mem_of_getElem? (i := 83) rfl)) (hw _ (List.mem_of_getElem? (i := 84) rfl)) (fun vm hzv => notFace_of_selects (args := #[]) (mvT hzv (hw _ (List.mem_of_getElem? (i := 86) rfl)))) (hw _ (List.mem_of_getElem? (i := 86) rfl)) (hw _ (List.mem_of_getElem? (i := 85) rfl)) (hw _ (List.mem_of_getElem? (i := 29) rfl)) (hw _ (List.mem_of_getElem? (i := 87) rfl)) (by decide) E351 (rmG5 l Z a0 hw hel c349 p5 h346 n0 (Nat.le_trans (Nat.le_trans (Nat.le_trans (Nat.le_trans Z0 K327.1) E331.1) K338.1) K348.1) F357) (fun _ hx => nomatch hx) (by rw [hml]; rfl) pd_9 rfl rfl (hb hby at_98) rfl (by decide) (Nat.le_of_ble_eq_true rfl) (ce' := 8) (sl' := 24) rfl rfl (by decide) (by decide) (fun v375 h376 hQ377 => ?_)
  obtain ⟨rfl, rfl⟩ := hQ377
  show Go _ _ _ _ _ _ _ _ _ _ _ _ _ _ _ _ _ _ _ _ 8 24 101 #[.val (.long p1), .second, .val (.long p2), .second, .val (.long p3), .second, .val (.int p4), .val (.long p5), .second, .val (.int p6), .val pv, .val (.long ((p5 ^^^ (-1 : Int64)) ^^^ p2)), .second, .val (.ref a329), .val (.ref c349)] [(.long p5)]
  refine Go.lload (q := 103) hx (hb hby at_101) rfl rfl ?_
  refine Go.lcmp (q := 104) hx (hb hby at_103) rfl ?_
  refine Go.if_ne (q := 107) (t := 122) hx (hb hby at_104) (by decide) rfl rfl (fun hc104 => absurd ((cmpL_eq _ _).mpr rfl) hc104) (fun hc104 => ?_)
  refine Go.aload (q := 109) hx (hb hby at_107) rfl (by rfl) rfl ?_
  refine Go.callV (q := 112) hx hZ (a := a329) (argsL := []) (rest := []) hown (hw _ (List.mem_of_getElem? (i := 83) rfl)) (hw _ (List.mem_of_getElem? (i := 84) rfl)) (fun vm hzv => notFace_of_selects (args := #[]) (mvT hzv (hw _ (List.mem_of_getElem? (i := 86) rfl)))) (hw _ (List.mem_of_getElem? (i := 86) rfl)) (hw _ (List.mem_of_getElem? (i := 85) rfl)) (hw _ (List.mem_of_getElem? (i := 29) rfl)) (hw _ (List.mem_of_getElem? (i := 87) rfl)) (by decide) ((A332.keep K338).keep K348) (rmG5 l Z a0 hw hel a329 ((p5 ^^^ (-1 : Int64)) ^^^ p2) h346 n0 (Nat.le_trans (Nat.le_trans (Nat.le_trans (Nat.le_trans Z0 K327.1) E331.1) K338.1) K348.1) (F344.keep K348 nin0)) (fun _ hx => nomatch hx) (by rw [hml]; rfl) pd_9 rfl rfl (hb hby at_109) rfl (by decide) (Nat.le_of_ble_eq_true rfl) (ce' := 8) (sl' := 24) rfl rfl (by decide) (by decide) (fun v378 h379 hQ380 => ?_)
  obtain ⟨rfl, rfl⟩ := hQ380
  show Go _ _ _ _ _ _ _ _ _ _ _ _ _ _ _ _ _ _ _ _ 8 24 112 #[.val (.long p1), .second, .val (.long p2), .second, .val (.long p3), .second, .val (.int p4), .val (.long p5), .second, .val (.int p6), .val pv, .val (.long ((p5 ^^^ (-1 : Int64)) ^^^ p2)), .second, .val (.ref a329), .val (.ref c349)] [(.long ((p5 ^^^ (-1 : Int64)) ^^^ p2))]
  refine Go.lload (q := 114) hx (hb hby at_112) rfl rfl ?_
  refine Go.lcmp (q := 115) hx (hb hby at_114) rfl ?_
  refine Go.if_ne (q := 118) (t := 122) hx (hb hby at_115) (by decide) rfl rfl (fun hc115 => absurd ((cmpL_eq _ _).mpr rfl) hc115) (fun hc115 => ?_)
  refine Go.iconst (q := 119) (z := (1 : Int32)) hx (hb hby at_118) rfl rfl ?_
  refine Go.goto (q := 123) hx (hb hby at_119) (by decide) rfl ?_
  refine Go.retN hx (t := .boolean) hret (by simp) hlk (hb hby at_123) (by decide) (by decide) ?_
  rfl
set_option maxRecDepth 65536 in
set_option maxHeartbeats 40000000 in
theorem comes_1 {Post : Tables → Env → Array Value → State → Outcome → State → Prop} (hpost : ∀ tb e args s v u, (limb_1_1.after args s (.returned v) u = true ∧ limb_1_2.after args s (.returned v) u = true ∧ True) → ReturnedEndW s (.returned v) u (Jvm.fieldLocs frame_1_writes args s ++ Jvm.arrayLocs frame_1_arrays args s ++ Jvm.staticLocs frame_1_statics s) 24 1152 → Post tb e args s (.returned v) u) :
    ArmFor flags0 classFile x code maxLocals ret World_1 tables_1 room_1 Calls_1 rest_1 Pre_1 Post := by
  intro l hfl _ _ p e ha hc hk s m args below hf hA hF happ hP
  obtain ⟨hcalls, hrest, hpre⟩ := hP
  obtain ⟨-, -, -, hnamed, -, -, -, hat⟩ := (Spec.applies_iff hf).mp happ
  obtain ⟨hg, hn⟩ := and_e (Cond.before_iff.mp (show (Jvm.Cond.and given_1 narrow_1).before args s = true from hpre))
  obtain ⟨hcnt, hk0⟩ := and_e hg
  obtain ⟨ha0, hk1⟩ := and_e hk0
  obtain ⟨ha1, hk2⟩ := and_e hk1
  obtain ⟨ha2, hk3⟩ := and_e hk2
  obtain ⟨ha3, hk4⟩ := and_e hk3
  obtain ⟨ha4, hk5⟩ := and_e hk4
  obtain ⟨w0, w1, w2, w3, w4, w5, rfl⟩ : ∃ w0 w1 w2 w3 w4 w5 : Value, args = #[w0, w1, w2, w3, w4, w5] := by
    have hs : args.size = 6 := by simpa [Cond.value, given_1] using hcnt
    obtain ⟨L⟩ := args
    match L, hs with
    | [w0, w1, w2, w3, w4, w5], _ => exact ⟨w0, w1, w2, w3, w4, w5, rfl⟩
  have hw := fun d (hd : d ∈ tables_1) => atoms_spec (ws := Jvm.Cond.code x code maxLocals ret :: tables_1) hat d (List.mem_cons_of_mem _ hd)
  obtain ⟨hsets, hown0⟩ := atoms_of _ (rest_1_c_eq ▸ (show rest_1_c.before _ s = true from hrest))
  have hfit : Fit s := fun {y c} hc i hi => by
    obtain ⟨ha, rfl⟩ := Array.getElem?_eq_some_iff.mp hc
    have q := List.all_eq_true.mp ((Array.all_eq_true_iff_forall_mem.mp hF) _ (Array.getElem_mem ha)) i (List.mem_range.mpr hi)
    simpa [Array.getElem?_eq_getElem hi] using q
  obtain ⟨i0, ei0⟩ := isL_v ha0
  obtain rfl : w0 = (.long i0) := Option.some.inj ei0
  obtain ⟨i1, ei1⟩ := isL_v ha1
  obtain rfl : w1 = (.long i1) := Option.some.inj ei1
  obtain ⟨i2, ei2⟩ := isL_v ha2
  obtain rfl : w2 = (.long i2) := Option.some.inj ei2
  obtain ⟨i3, ei3⟩ := is_v ha3
  obtain rfl : w3 = (.int i3) := Option.some.inj ei3
  obtain ⟨i4, ei4⟩ := isL_v ha4
  obtain rfl : w4 = (.long i4) := Option.some.inj ei4
  obtain ⟨i5, ei5⟩ := is_v hk5
  obtain rfl : w5 = (.int i5) := Option.some.inj ei5
  have hel : EW s _ consts_1 := EW.cons (hw _ (List.mem_of_getElem? (i := 18) rfl)) (by decide) EW.nil
  have hCH : CHv s consts_1 s.vm s.heap := CHv.start hel hcalls.1 (hsets _ (List.mem_of_getElem? (i := 2) rfl)) (hw _ (List.mem_of_getElem? (i := 19) rfl)) (hw _ (List.mem_of_getElem? (i := 5) rfl))
  have n5 := not_v (Cond.before_iff.mp (hsets _ (List.mem_of_getElem? (i := 2) rfl)))
  obtain ⟨cst, e6⟩ := is_v (Cond.before_iff.mp (hsets _ (List.mem_of_getElem? (i := 1) rfl)))
  have SC : Sta s s.heap "java/lang/String" "COMPACT_STRINGS" "Z" (.int cst) := Sta.start e6 (Or.inl (hsets _ (List.mem_of_getElem? (i := 0) rfl)))
  have hcs : ¬ (cst = (0 : Int32)) := gotF (Cond.eq_ints e6 (Term.int_eval (0))) n5
  obtain ⟨n, o, h1, h2, h3, _, L, rfl, ⟨rfl, N⟩, -, hq⟩ := rm0 l s _ hw hel i0 i1 i2 i3 i4 i5 cst s.heap s.heap.size (Nat.le_refl _) (Old.start s) SC hcs p e ha hc hk s m _ below hf ((Spec.applies_iff_loose hf).mp happ).1 ⟨rfl, State.Warmed39.refl s, rfl, hCH, fun _ hx => nomatch hx⟩ trivial
  refine ⟨n, _, h1, h2, h3, hpost _ _ _ _ _ _ ⟨Cond.after_iff.mpr rfl, Cond.after_iff.mpr (eq_i res_at (Term.int_eval (1)) rfl), trivial⟩ ⟨hq.1, hq.2.1, hq.2.2.1, (hq.2.2.2.sift fun y hy => Or.inr (N y hy)).mono (by decide) (by decide)⟩⟩
theorem main_1_1 : Claimed_1_1 := comes_1 fun _ _ _ _ _ _ h hF => ⟨h.1, hF⟩
theorem main_1_2 : Claimed_1_2 := comes_1 fun _ _ _ _ _ _ h hF => ⟨h.2.1, hF⟩
end Jvm.Pilot.@@N@@
namespace Jvm.Pilot.@@N@@
open Jvm Jvm.ClassFile Sem Op Lib Jvm.Free Jvm.Stand Jvm.Pilot.@@N@@.Jvm.D
/-! MADE BY PROGRAM (witnessworld.py) out of the Statement's table words and the real class files: 21 classes; the members and pool entries that the words name. The judged class is class 1, her method 2. -/
namespace start1
open Jvm.ClassFile
def u (s : String) : CpInfo := .utf8 (stringToUtf16 s)
/-- a pool by its gaps: so many unusable entries, then the entry; so many at the end -/
def gap : Nat → List CpInfo → List CpInfo
  | 0, r => r
  | n + 1, r => .unusable :: gap n r
def poolList (es : List (Nat × CpInfo)) (last : Nat) : List CpInfo := es.foldr (fun e r => gap e.1 (e.2 :: r)) (gap last [])
def pool (es : List (Nat × CpInfo)) (last : Nat) : Array CpInfo := ⟨poolList es last⟩
def fileOf (pool : Array CpInfo) (this : Nat) (attrs : Array Attribute := #[]) (ms : Array MethodInfo := #[]) (fl : Nat := 33) (sup : Nat := 0) (ifs : Array Nat := #[]) (fds : Array FieldInfo := #[]) : ClassFile where
  minorVersion := 0
  majorVersion := 65
  constantPool := pool
  accessFlags := fl
  thisClass := this
  superClass := sup
  interfaces := ifs
  fields := fds
  methods := ms
  attributes := attrs
def plain (name : String) (sup : Option ClassId) : Class where
  name := name
  kind := .ordinary
  loader := none
  accessFlags := 33
  super := sup
  interfaces := #[]
  cf := none
  fields := #[]
  methods := #[]
  instanceTypes := #[]
  staticTypes := #[]
  resolved := #[]
  callSites := []
  init := .initialized
  statics := none
  mirror := none

def pool0 : Array CpInfo := pool [(5, u "<init>"), (0, u "()V"), (1, .class_ 10), (1, u "java/lang/Object")] 113

def k0c0 : Code := { maxStack := 0, maxLocals := 1, code := object_method_1_code, exceptionTable := #[], attributes := #[] }
def k0m0 : Method := { name := "<init>", desc := "()V", sig := { parameters := [], returnType := none }, accessFlags := 1, code := some k0c0 }
/-- java/lang/Object -/
def k0 : Class := { plain "java/lang/Object" none with
  accessFlags := 33
  interfaces := #[]
  cf := some (fileOf pool0 8 #[] #[{ accessFlags := 1, nameIndex := 5, descriptorIndex := 6, attributes := #[] }] 33 0 #[] #[])
  fields := #[]
  methods := #[k0m0]
  instanceTypes := #[]
  staticTypes := #[]
  resolved := Array.replicate 124 none
  statics := none }

def pool1 : Array CpInfo := pool [(2, .class_ 4), (1, u "java/lang/Object"), (0, u "<init>"), (0, u "()V"), (0, .class_ 8), (0, u "java/lang/String"), (0, .methodref 7 10), (0, .nameAndType 5 11), (0, u "([C)V"), (0, .methodref 13 14), (0, .class_ 15), (0, .nameAndType 16 17), (0, u "com/example/epithet/epithet/store/EntryAtPinLaw"), (0, u "principal"), (0, u "(I)Ljava/lang/String;"), (0, .long 18446744073709551615), (1, .class_ 21), (0, u "com/example/epithet/epithet/store/TransientIndex$Entry"), (0, .methodref 20 23), (0, .nameAndType 5 24), (0, u "(JJJILjava/lang/String;J)V"), (0, .methodref 20 26), (0, .nameAndType 27 28), (0, u "at"), (0, u "(J)Lcom/example/epithet/epithet/store/TransientIndex$Entry;"), (0, .methodref 20 30), (0, .nameAndType 31 32), (0, u "high"), (0, u "()J"), (0, .methodref 20 34), (0, .nameAndType 35 32), (0, u "low"), (0, .methodref 20 37), (0, .nameAndType 38 32), (0, u "expires"), (0, .methodref 20 40), (0, .nameAndType 41 42), (0, u "spFormat"), (0, u "()I"), (0, .methodref 20 44), (0, .nameAndType 16 45), (0, u "()Ljava/lang/String;"), (0, .methodref 20 47), (0, .nameAndType 27 32), (3, u "law"), (0, u "(JJJIJI)Z")] 6

def k1m0 : Method := { name := "<init>", desc := "()V", sig := { parameters := [], returnType := none }, accessFlags := 2, code := none }
def k1c1 : Code := { maxStack := 6, maxLocals := 5, code := method_2_code, exceptionTable := #[], attributes := #[] }
def k1m1 : Method := { name := "principal", desc := "(I)Ljava/lang/String;", sig := { parameters := [.int], returnType := some (.object "java/lang/String") }, accessFlags := 10, code := some k1c1 }
def k1c2 : Code := { maxStack := 12, maxLocals := 15, code := code, exceptionTable := #[], attributes := #[] }
def k1m2 : Method := { name := "law", desc := "(JJJIJI)Z", sig := { parameters := [.long, .long, .long, .int, .long, .int], returnType := some .boolean }, accessFlags := 9, code := some k1c2 }
/-- com/example/epithet/epithet/store/EntryAtPinLaw -/
def k1 : Class := { plain "com/example/epithet/epithet/store/EntryAtPinLaw" (some 0) with
  accessFlags := 49
  interfaces := #[]
  cf := some (fileOf pool1 13 #[] #[{ accessFlags := 2, nameIndex := 5, descriptorIndex := 6, attributes := #[] }, { accessFlags := 10, nameIndex := 16, descriptorIndex := 17, attributes := #[] }, { accessFlags := 9, nameIndex := 51, descriptorIndex := 52, attributes := #[] }] 49 2 #[] #[])
  fields := #[]
  methods := #[k1m0, k1m1, k1m2]
  instanceTypes := #[]
  staticTypes := #[]
  resolved := Array.replicate 59 none
  statics := none }

def pool2 : Array CpInfo := pool [(1, .class_ 2), (0, u "java/io/Serializable"), (0, .class_ 4), (0, u "java/lang/Object")] 2

/-- java/io/Serializable -/
def k2 : Class := { plain "java/io/Serializable" (some 0) with
  accessFlags := 1537
  interfaces := #[]
  cf := some (fileOf pool2 1 #[] #[] 1537 3 #[] #[])
  fields := #[]
  methods := #[]
  instanceTypes := #[]
  staticTypes := #[]
  resolved := Array.replicate 7 none
  statics := none }

def pool3 : Array CpInfo := pool [(1, .class_ 2), (0, u "java/lang/Comparable"), (0, .class_ 4), (0, u "java/lang/Object")] 7

/-- java/lang/Comparable -/
def k3 : Class := { plain "java/lang/Comparable" (some 0) with
  accessFlags := 1537
  interfaces := #[]
  cf := some (fileOf pool3 1 #[] #[] 1537 3 #[] #[])
  fields := #[]
  methods := #[]
  instanceTypes := #[]
  staticTypes := #[]
  resolved := Array.replicate 12 none
  statics := none }

def pool4 : Array CpInfo := pool [(2, .class_ 4), (1, u "java/lang/CharSequence"), (42, .class_ 48), (0, u "java/lang/CharSequence$1CodePointIterator"), (10, .class_ 60), (0, u "java/lang/CharSequence$1CharIterator"), (5, .class_ 67), (0, u "java/lang/Object")] 63

/-- java/lang/CharSequence -/
def k4 : Class := { plain "java/lang/CharSequence" (some 0) with
  accessFlags := 1537
  interfaces := #[]
  cf := some (fileOf pool4 2 #[.nestMembers #[47, 59]] #[] 1537 66 #[] #[])
  fields := #[]
  methods := #[]
  instanceTypes := #[]
  staticTypes := #[]
  resolved := Array.replicate 131 none
  statics := none }

def pool5 : Array CpInfo := pool [(1, .class_ 2), (0, u "java/lang/constant/Constable"), (0, .class_ 4), (0, u "java/lang/Object")] 6

/-- java/lang/constant/Constable -/
def k5 : Class := { plain "java/lang/constant/Constable" (some 0) with
  accessFlags := 1537
  interfaces := #[]
  cf := some (fileOf pool5 1 #[] #[] 1537 3 #[] #[])
  fields := #[]
  methods := #[]
  instanceTypes := #[]
  staticTypes := #[]
  resolved := Array.replicate 11 none
  statics := none }

def pool6 : Array CpInfo := pool [(1, .class_ 2), (0, u "java/lang/constant/ConstantDesc"), (0, .class_ 4), (0, u "java/lang/Object")] 32

/-- java/lang/constant/ConstantDesc -/
def k6 : Class := { plain "java/lang/constant/ConstantDesc" (some 0) with
  accessFlags := 1537
  interfaces := #[]
  cf := some (fileOf pool6 1 #[] #[] 1537 3 #[] #[])
  fields := #[]
  methods := #[]
  instanceTypes := #[]
  staticTypes := #[]
  resolved := Array.replicate 37 none
  statics := none }

def pool7 : Array CpInfo := pool [(1, .methodref 2 3), (0, .class_ 4), (0, .nameAndType 5 6), (0, u "java/lang/Object"), (0, u "<init>"), (0, u "()V"), (0, .string 8), (0, u ""), (0, .fieldref 10 11), (0, .class_ 12), (0, .nameAndType 13 14), (0, u "java/lang/String"), (0, u "value"), (0, u "[B"), (0, .fieldref 10 16), (0, .nameAndType 17 18), (0, u "coder"), (0, u "B"), (2, u "hash"), (0, u "I"), (2, u "hashIsZero"), (0, u "Z"), (0, .methodref 10 28), (0, .nameAndType 5 29), (0, u "([CIILjava/lang/Void;)V"), (8, .fieldref 10 39), (0, .nameAndType 40 26), (0, u "COMPACT_STRINGS"), (1, .class_ 44), (1, u "java/lang/StringUTF16"), (0, u "compress"), (1, .methodref 42 48), (0, .nameAndType 49 50), (0, u "coderFromArrayLen"), (0, u "([BI)B"), (126, .methodref 42 178), (0, .nameAndType 45 179), (0, u "([CII)[B"), (395, .class_ 576), (0, u "java/lang/CharSequence"), (22, u "CASE_INSENSITIVE_ORDER"), (0, u "Ljava/util/Comparator;"), (409, u "([C)V"), (90, u "serialPersistentFields"), (0, u "[Ljava/io/ObjectStreamField;"), (0, .class_ 1104), (0, u "java/lang/String$CaseInsensitiveComparator"), (1, .class_ 1107), (0, u "java/io/Serializable"), (0, .class_ 1109), (0, u "java/lang/Comparable"), (0, .class_ 1111), (0, u "java/lang/constant/Constable"), (0, .class_ 1113), (0, u "java/lang/constant/ConstantDesc"), (2, u "serialVersionUID"), (0, u "J"), (3, u "REPL"), (0, u "C"), (2, u "LATIN1"), (1, u "UTF16")] 323

def k7m0 : Method := { name := "<init>", desc := "()V", sig := { parameters := [], returnType := none }, accessFlags := 1, code := none }
def k7c1 : Code := { maxStack := 5, maxLocals := 2, code := jdk_42_method_3_code, exceptionTable := #[], attributes := #[] }
def k7m1 : Method := { name := "<init>", desc := "([C)V", sig := { parameters := [(.array .char)], returnType := none }, accessFlags := 1, code := some k7c1 }
def k7c2 : Code := { maxStack := 4, maxLocals := 6, code := jdk_42_method_149_code, exceptionTable := #[], attributes := #[] }
def k7m2 : Method := { name := "<init>", desc := "([CIILjava/lang/Void;)V", sig := { parameters := [(.array .char), .int, .int, (.object "java/lang/Void")], returnType := none }, accessFlags := 2, code := some k7c2 }
/-- java/lang/String -/
def k7 : Class := { plain "java/lang/String" (some 0) with
  accessFlags := 49
  interfaces := #[2, 3, 4, 5, 6]
  cf := some (fileOf pool7 10 #[.nestMembers #[1103]] #[{ accessFlags := 1, nameIndex := 5, descriptorIndex := 6, attributes := #[] }, { accessFlags := 1, nameIndex := 5, descriptorIndex := 1010, attributes := #[] }, { accessFlags := 2, nameIndex := 5, descriptorIndex := 29, attributes := #[] }] 49 2 #[1106, 1108, 575, 1110, 1112] #[{ accessFlags := 18, nameIndex := 13, descriptorIndex := 14, attributes := #[] }, { accessFlags := 18, nameIndex := 17, descriptorIndex := 18, attributes := #[] }, { accessFlags := 2, nameIndex := 21, descriptorIndex := 22, attributes := #[] }, { accessFlags := 2, nameIndex := 25, descriptorIndex := 26, attributes := #[] }, { accessFlags := 26, nameIndex := 1116, descriptorIndex := 1117, attributes := #[] }, { accessFlags := 24, nameIndex := 40, descriptorIndex := 26, attributes := #[] }, { accessFlags := 26, nameIndex := 1101, descriptorIndex := 1102, attributes := #[] }, { accessFlags := 26, nameIndex := 1121, descriptorIndex := 1122, attributes := #[] }, { accessFlags := 25, nameIndex := 599, descriptorIndex := 600, attributes := #[] }, { accessFlags := 24, nameIndex := 1125, descriptorIndex := 18, attributes := #[] }, { accessFlags := 24, nameIndex := 1127, descriptorIndex := 18, attributes := #[] }])
  fields := #[{ name := "value", type := (.array .byte), accessFlags := 18, slot := 0, constantValue := 0 }, { name := "coder", type := .byte, accessFlags := 18, slot := 1, constantValue := 0 }, { name := "hash", type := .int, accessFlags := 2, slot := 2, constantValue := 0 }, { name := "hashIsZero", type := .boolean, accessFlags := 2, slot := 3, constantValue := 0 }, { name := "serialVersionUID", type := .long, accessFlags := 26, slot := 0, constantValue := 0 }, { name := "COMPACT_STRINGS", type := .boolean, accessFlags := 24, slot := 1, constantValue := 0 }, { name := "serialPersistentFields", type := (.array (.object "java/io/ObjectStreamField")), accessFlags := 26, slot := 2, constantValue := 0 }, { name := "REPL", type := .char, accessFlags := 26, slot := 3, constantValue := 0 }, { name := "CASE_INSENSITIVE_ORDER", type := (.object "java/util/Comparator"), accessFlags := 25, slot := 4, constantValue := 0 }, { name := "LATIN1", type := .byte, accessFlags := 24, slot := 5, constantValue := 0 }, { name := "UTF16", type := .byte, accessFlags := 24, slot := 6, constantValue := 0 }]
  methods := #[k7m0, k7m1, k7m2]
  instanceTypes := #[(.array .byte), .byte, .int, .boolean]
  staticTypes := #[.long, .boolean, (.array (.object "java/io/ObjectStreamField")), .char, (.object "java/util/Comparator"), .byte, .byte]
  resolved := Array.replicate 1451 none
  statics := some 0 }

def pool8 : Array CpInfo := pool [(1, .methodref 2 3), (0, .class_ 4), (0, .nameAndType 5 6), (0, u "java/lang/Object"), (0, u "<init>"), (0, u "()V"), (0, .class_ 8), (0, u "java/lang/Record")] 13

def k8c0 : Code := { maxStack := 1, maxLocals := 1, code := jdk_30_method_1_code, exceptionTable := #[], attributes := #[] }
def k8m0 : Method := { name := "<init>", desc := "()V", sig := { parameters := [], returnType := none }, accessFlags := 4, code := some k8c0 }
/-- java/lang/Record -/
def k8 : Class := { plain "java/lang/Record" (some 0) with
  accessFlags := 1057
  interfaces := #[]
  cf := some (fileOf pool8 7 #[] #[{ accessFlags := 4, nameIndex := 5, descriptorIndex := 6, attributes := #[] }] 1057 2 #[] #[])
  fields := #[]
  methods := #[k8m0]
  instanceTypes := #[]
  staticTypes := #[]
  resolved := Array.replicate 22 none
  statics := none }

def pool9 : Array CpInfo := pool [(1, .methodref 2 3), (0, .class_ 4), (0, .nameAndType 5 6), (0, u "java/lang/Record"), (0, u "<init>"), (0, u "()V"), (0, .fieldref 8 9), (0, .class_ 10), (0, .nameAndType 11 12), (0, u "com/example/epithet/epithet/store/TransientIndex$Entry"), (0, u "high"), (0, u "J"), (0, .fieldref 8 14), (0, .nameAndType 15 12), (0, u "low"), (0, .fieldref 8 17), (0, .nameAndType 18 12), (0, u "expires"), (0, .fieldref 8 20), (0, .nameAndType 21 22), (0, u "spFormat"), (0, u "I"), (0, .fieldref 8 24), (0, .nameAndType 25 26), (0, u "principal"), (0, u "Ljava/lang/String;"), (0, .fieldref 8 28), (0, .nameAndType 29 12), (0, u "at"), (0, .methodref 8 31), (0, .nameAndType 5 32), (0, u "(JJJILjava/lang/String;J)V"), (15, u "(J)Lcom/example/epithet/epithet/store/TransientIndex$Entry;"), (0, u "()Ljava/lang/String;"), (0, u "()I"), (1, u "()J"), (3, .class_ 57), (0, u "com/example/epithet/epithet/store/TransientIndex")] 24

def k9c0 : Code := { maxStack := 3, maxLocals := 11, code := prog_101_method_1_code, exceptionTable := #[], attributes := #[] }
def k9m0 : Method := { name := "<init>", desc := "(JJJILjava/lang/String;J)V", sig := { parameters := [.long, .long, .long, .int, (.object "java/lang/String"), .long], returnType := none }, accessFlags := 0, code := some k9c0 }
def k9c1 : Code := { maxStack := 12, maxLocals := 3, code := prog_101_method_2_code, exceptionTable := #[], attributes := #[] }
def k9m1 : Method := { name := "at", desc := "(J)Lcom/example/epithet/epithet/store/TransientIndex$Entry;", sig := { parameters := [.long], returnType := some (.object "com/example/epithet/epithet/store/TransientIndex$Entry") }, accessFlags := 0, code := some k9c1 }
def k9c2 : Code := { maxStack := 2, maxLocals := 1, code := prog_101_method_6_code, exceptionTable := #[], attributes := #[] }
def k9m2 : Method := { name := "high", desc := "()J", sig := { parameters := [], returnType := some .long }, accessFlags := 1, code := some k9c2 }
def k9c3 : Code := { maxStack := 2, maxLocals := 1, code := prog_101_method_7_code, exceptionTable := #[], attributes := #[] }
def k9m3 : Method := { name := "low", desc := "()J", sig := { parameters := [], returnType := some .long }, accessFlags := 1, code := some k9c3 }
def k9c4 : Code := { maxStack := 2, maxLocals := 1, code := prog_101_method_8_code, exceptionTable := #[], attributes := #[] }
def k9m4 : Method := { name := "expires", desc := "()J", sig := { parameters := [], returnType := some .long }, accessFlags := 1, code := some k9c4 }
def k9c5 : Code := { maxStack := 1, maxLocals := 1, code := prog_101_method_9_code, exceptionTable := #[], attributes := #[] }
def k9m5 : Method := { name := "spFormat", desc := "()I", sig := { parameters := [], returnType := some .int }, accessFlags := 1, code := some k9c5 }
def k9c6 : Code := { maxStack := 1, maxLocals := 1, code := prog_101_method_10_code, exceptionTable := #[], attributes := #[] }
def k9m6 : Method := { name := "principal", desc := "()Ljava/lang/String;", sig := { parameters := [], returnType := some (.object "java/lang/String") }, accessFlags := 1, code := some k9c6 }
def k9c7 : Code := { maxStack := 2, maxLocals := 1, code := prog_101_method_11_code, exceptionTable := #[], attributes := #[] }
def k9m7 : Method := { name := "at", desc := "()J", sig := { parameters := [], returnType := some .long }, accessFlags := 1, code := some k9c7 }
/-- com/example/epithet/epithet/store/TransientIndex$Entry -/
def k9 : Class := { plain "com/example/epithet/epithet/store/TransientIndex$Entry" (some 8) with
  accessFlags := 48
  interfaces := #[]
  cf := some (fileOf pool9 8 #[.nestHost 56] #[{ accessFlags := 0, nameIndex := 5, descriptorIndex := 32, attributes := #[] }, { accessFlags := 0, nameIndex := 29, descriptorIndex := 48, attributes := #[] }, { accessFlags := 1, nameIndex := 11, descriptorIndex := 52, attributes := #[] }, { accessFlags := 1, nameIndex := 15, descriptorIndex := 52, attributes := #[] }, { accessFlags := 1, nameIndex := 18, descriptorIndex := 52, attributes := #[] }, { accessFlags := 1, nameIndex := 21, descriptorIndex := 50, attributes := #[] }, { accessFlags := 1, nameIndex := 25, descriptorIndex := 49, attributes := #[] }, { accessFlags := 1, nameIndex := 29, descriptorIndex := 52, attributes := #[] }] 48 2 #[] #[{ accessFlags := 18, nameIndex := 11, descriptorIndex := 12, attributes := #[] }, { accessFlags := 18, nameIndex := 15, descriptorIndex := 12, attributes := #[] }, { accessFlags := 18, nameIndex := 18, descriptorIndex := 12, attributes := #[] }, { accessFlags := 18, nameIndex := 21, descriptorIndex := 22, attributes := #[] }, { accessFlags := 18, nameIndex := 25, descriptorIndex := 26, attributes := #[] }, { accessFlags := 18, nameIndex := 29, descriptorIndex := 12, attributes := #[] }])
  fields := #[{ name := "high", type := .long, accessFlags := 18, slot := 0, constantValue := 0 }, { name := "low", type := .long, accessFlags := 18, slot := 1, constantValue := 0 }, { name := "expires", type := .long, accessFlags := 18, slot := 2, constantValue := 0 }, { name := "spFormat", type := .int, accessFlags := 18, slot := 3, constantValue := 0 }, { name := "principal", type := (.object "java/lang/String"), accessFlags := 18, slot := 4, constantValue := 0 }, { name := "at", type := .long, accessFlags := 18, slot := 5, constantValue := 0 }]
  methods := #[k9m0, k9m1, k9m2, k9m3, k9m4, k9m5, k9m6, k9m7]
  instanceTypes := #[.long, .long, .long, .int, (.object "java/lang/String"), .long]
  staticTypes := #[]
  resolved := Array.replicate 82 none
  statics := none }

def pool10 : Array CpInfo := pool [(6, .class_ 8), (1, u "java/lang/Object"), (0, u "<init>"), (0, u "()V"), (1, .class_ 14), (1, u "java/lang/StringUTF16"), (31, u "$assertionsDisabled"), (0, u "Z"), (13, u "HI_BYTE_SHIFT"), (0, u "I"), (2, u "LO_BYTE_SHIFT"), (49, .methodref 12 116), (0, .nameAndType 117 118), (0, u "compress"), (0, u "([CI[BII)I"), (3, u "([CII)[B"), (138, u "coderFromArrayLen"), (0, u "([BI)B"), (106, .class_ 371), (1, u "java/lang/StringUTF16$LinesSpliterator"), (58, u "MAX_LENGTH"), (196, .class_ 628), (0, u "java/lang/StringUTF16$CodePointsSpliterator"), (0, .class_ 630), (0, u "java/lang/StringUTF16$CharsSpliterator")] 4

def k10m0 : Method := { name := "<init>", desc := "()V", sig := { parameters := [], returnType := none }, accessFlags := 0, code := none }
def k10c1 : Code := { maxStack := 2, maxLocals := 2, code := jdk_52_method_15_code, exceptionTable := #[], attributes := #[] }
def k10m1 : Method := { name := "coderFromArrayLen", desc := "([BI)B", sig := { parameters := [(.array .byte), .int], returnType := some .byte }, accessFlags := 8, code := some k10c1 }
def k10c2 : Code := { maxStack := 5, maxLocals := 6, code := jdk_52_method_16_code, exceptionTable := #[], attributes := #[] }
def k10m2 : Method := { name := "compress", desc := "([CII)[B", sig := { parameters := [(.array .char), .int, .int], returnType := some (.array .byte) }, accessFlags := 9, code := some k10c2 }
def k10c3 : Code := { maxStack := 3, maxLocals := 7, code := jdk_52_method_21_code, exceptionTable := #[], attributes := #[] }
def k10m3 : Method := { name := "compress", desc := "([CI[BII)I", sig := { parameters := [(.array .char), .int, (.array .byte), .int, .int], returnType := some .int }, accessFlags := 9, code := some k10c3 }
/-- java/lang/StringUTF16 -/
def k10 : Class := { plain "java/lang/StringUTF16" (some 0) with
  accessFlags := 48
  interfaces := #[]
  cf := some (fileOf pool10 12 #[.nestMembers #[627, 629, 369]] #[{ accessFlags := 0, nameIndex := 9, descriptorIndex := 10, attributes := #[] }, { accessFlags := 8, nameIndex := 261, descriptorIndex := 262, attributes := #[] }, { accessFlags := 9, nameIndex := 117, descriptorIndex := 122, attributes := #[] }, { accessFlags := 9, nameIndex := 117, descriptorIndex := 118, attributes := #[] }] 48 6 #[] #[{ accessFlags := 26, nameIndex := 61, descriptorIndex := 62, attributes := #[] }, { accessFlags := 26, nameIndex := 65, descriptorIndex := 62, attributes := #[] }, { accessFlags := 24, nameIndex := 430, descriptorIndex := 62, attributes := #[] }, { accessFlags := 4120, nameIndex := 46, descriptorIndex := 47, attributes := #[] }])
  fields := #[{ name := "HI_BYTE_SHIFT", type := .int, accessFlags := 26, slot := 0, constantValue := 0 }, { name := "LO_BYTE_SHIFT", type := .int, accessFlags := 26, slot := 1, constantValue := 0 }, { name := "MAX_LENGTH", type := .int, accessFlags := 24, slot := 2, constantValue := 0 }, { name := "$assertionsDisabled", type := .boolean, accessFlags := 4120, slot := 3, constantValue := 0 }]
  methods := #[k10m0, k10m1, k10m2, k10m3]
  instanceTypes := #[]
  staticTypes := #[.int, .int, .int, .boolean]
  resolved := Array.replicate 635 none
  statics := none }

def pool11 : Array CpInfo := pool [(4, .class_ 6), (1, u "java/lang/Object"), (0, u "<init>"), (0, u "()V"), (5, .class_ 16), (1, u "java/lang/StringLatin1"), (104, u "$assertionsDisabled"), (0, u "Z"), (98, .class_ 223), (1, u "java/lang/StringLatin1$LinesSpliterator"), (166, .class_ 391), (0, u "java/lang/StringLatin1$CharsSpliterator")] 3

def k11m0 : Method := { name := "<init>", desc := "()V", sig := { parameters := [], returnType := none }, accessFlags := 0, code := none }
/-- java/lang/StringLatin1 -/
def k11 : Class := { plain "java/lang/StringLatin1" (some 0) with
  accessFlags := 48
  interfaces := #[]
  cf := some (fileOf pool11 14 #[.nestMembers #[390, 221]] #[{ accessFlags := 0, nameIndex := 7, descriptorIndex := 8, attributes := #[] }] 48 4 #[] #[{ accessFlags := 4120, nameIndex := 121, descriptorIndex := 122, attributes := #[] }])
  fields := #[{ name := "$assertionsDisabled", type := .boolean, accessFlags := 4120, slot := 0, constantValue := 0 }]
  methods := #[k11m0]
  instanceTypes := #[]
  staticTypes := #[.boolean]
  resolved := Array.replicate 395 none
  statics := none }

def pool12 : Array CpInfo := pool [(2, .class_ 4), (1, u "java/lang/Object"), (0, u "<init>"), (0, u "()V"), (17, .class_ 26), (1, u "jdk/internal/util/Preconditions"), (28, .class_ 56), (0, u "jdk/internal/util/Preconditions$4"), (57, .class_ 115), (0, u "jdk/internal/util/Preconditions$1"), (7, u "SIOOBE_FORMATTER"), (0, u "Ljava/util/function/BiFunction;"), (0, .class_ 126), (0, u "jdk/internal/util/Preconditions$2"), (3, u "AIOOBE_FORMATTER"), (0, .class_ 132), (0, u "jdk/internal/util/Preconditions$3"), (3, u "IOOBE_FORMATTER")] 57

def k12m0 : Method := { name := "<init>", desc := "()V", sig := { parameters := [], returnType := none }, accessFlags := 1, code := none }
/-- jdk/internal/util/Preconditions -/
def k12 : Class := { plain "jdk/internal/util/Preconditions" (some 0) with
  accessFlags := 33
  interfaces := #[]
  cf := some (fileOf pool12 24 #[.nestMembers #[55, 131, 125, 114]] #[{ accessFlags := 1, nameIndex := 5, descriptorIndex := 6, attributes := #[] }] 33 2 #[] #[{ accessFlags := 25, nameIndex := 123, descriptorIndex := 124, attributes := #[] }, { accessFlags := 25, nameIndex := 130, descriptorIndex := 124, attributes := #[] }, { accessFlags := 25, nameIndex := 136, descriptorIndex := 124, attributes := #[] }])
  fields := #[{ name := "SIOOBE_FORMATTER", type := (.object "java/util/function/BiFunction"), accessFlags := 25, slot := 0, constantValue := 0 }, { name := "AIOOBE_FORMATTER", type := (.object "java/util/function/BiFunction"), accessFlags := 25, slot := 1, constantValue := 0 }, { name := "IOOBE_FORMATTER", type := (.object "java/util/function/BiFunction"), accessFlags := 25, slot := 2, constantValue := 0 }]
  methods := #[k12m0]
  instanceTypes := #[]
  staticTypes := #[(.object "java/util/function/BiFunction"), (.object "java/util/function/BiFunction"), (.object "java/util/function/BiFunction")]
  resolved := Array.replicate 194 none
  statics := some 1 }

def pool13 : Array CpInfo := pool [(9, u "<init>"), (6, .class_ 18), (1, u "java/lang/Object"), (0, u "()V"), (1, .class_ 23), (1, u "jdk/internal/util/ArraysSupport"), (0, u "LOG2_ARRAY_LONG_INDEX_SCALE"), (0, u "I"), (2, u "U"), (0, u "Ljdk/internal/misc/Unsafe;"), (8, u "BIG_ENDIAN"), (0, u "Z"), (8, u "LOG2_BYTE_BIT_SIZE"), (4, u "LOG2_ARRAY_INT_INDEX_SCALE"), (54, u "JLA"), (0, u "Ljdk/internal/access/JavaLangAccess;"), (11, u "LOG2_ARRAY_BOOLEAN_INDEX_SCALE"), (9, u "LOG2_ARRAY_BYTE_INDEX_SCALE"), (5, u "LOG2_ARRAY_CHAR_INDEX_SCALE"), (5, u "LOG2_ARRAY_SHORT_INDEX_SCALE"), (18, u "LOG2_ARRAY_FLOAT_INDEX_SCALE"), (24, u "LOG2_ARRAY_DOUBLE_INDEX_SCALE"), (89, u "T_BOOLEAN"), (2, u "T_CHAR"), (1, u "T_FLOAT"), (1, u "T_DOUBLE"), (1, u "T_BYTE"), (1, u "T_SHORT"), (1, u "T_INT"), (1, u "T_LONG"), (1, u "SOFT_MAX_ARRAY_LENGTH")] 83

def k13m0 : Method := { name := "<init>", desc := "()V", sig := { parameters := [], returnType := none }, accessFlags := 2, code := none }
/-- jdk/internal/util/ArraysSupport -/
def k13 : Class := { plain "jdk/internal/util/ArraysSupport" (some 0) with
  accessFlags := 33
  interfaces := #[]
  cf := some (fileOf pool13 21 #[] #[{ accessFlags := 2, nameIndex := 9, descriptorIndex := 19, attributes := #[] }] 33 16 #[] #[{ accessFlags := 24, nameIndex := 28, descriptorIndex := 29, attributes := #[] }, { accessFlags := 26, nameIndex := 38, descriptorIndex := 39, attributes := #[] }, { accessFlags := 25, nameIndex := 121, descriptorIndex := 25, attributes := #[] }, { accessFlags := 25, nameIndex := 131, descriptorIndex := 25, attributes := #[] }, { accessFlags := 25, nameIndex := 137, descriptorIndex := 25, attributes := #[] }, { accessFlags := 25, nameIndex := 143, descriptorIndex := 25, attributes := #[] }, { accessFlags := 25, nameIndex := 53, descriptorIndex := 25, attributes := #[] }, { accessFlags := 25, nameIndex := 24, descriptorIndex := 25, attributes := #[] }, { accessFlags := 25, nameIndex := 162, descriptorIndex := 25, attributes := #[] }, { accessFlags := 25, nameIndex := 187, descriptorIndex := 25, attributes := #[] }, { accessFlags := 26, nameIndex := 48, descriptorIndex := 25, attributes := #[] }, { accessFlags := 25, nameIndex := 277, descriptorIndex := 25, attributes := #[] }, { accessFlags := 25, nameIndex := 280, descriptorIndex := 25, attributes := #[] }, { accessFlags := 25, nameIndex := 282, descriptorIndex := 25, attributes := #[] }, { accessFlags := 25, nameIndex := 284, descriptorIndex := 25, attributes := #[] }, { accessFlags := 25, nameIndex := 286, descriptorIndex := 25, attributes := #[] }, { accessFlags := 25, nameIndex := 288, descriptorIndex := 25, attributes := #[] }, { accessFlags := 25, nameIndex := 290, descriptorIndex := 25, attributes := #[] }, { accessFlags := 25, nameIndex := 292, descriptorIndex := 25, attributes := #[] }, { accessFlags := 26, nameIndex := 108, descriptorIndex := 109, attributes := #[] }, { accessFlags := 25, nameIndex := 294, descriptorIndex := 25, attributes := #[] }])
  fields := #[{ name := "U", type := (.object "jdk/internal/misc/Unsafe"), accessFlags := 24, slot := 0, constantValue := 0 }, { name := "BIG_ENDIAN", type := .boolean, accessFlags := 26, slot := 1, constantValue := 0 }, { name := "LOG2_ARRAY_BOOLEAN_INDEX_SCALE", type := .int, accessFlags := 25, slot := 2, constantValue := 0 }, { name := "LOG2_ARRAY_BYTE_INDEX_SCALE", type := .int, accessFlags := 25, slot := 3, constantValue := 0 }, { name := "LOG2_ARRAY_CHAR_INDEX_SCALE", type := .int, accessFlags := 25, slot := 4, constantValue := 0 }, { name := "LOG2_ARRAY_SHORT_INDEX_SCALE", type := .int, accessFlags := 25, slot := 5, constantValue := 0 }, { name := "LOG2_ARRAY_INT_INDEX_SCALE", type := .int, accessFlags := 25, slot := 6, constantValue := 0 }, { name := "LOG2_ARRAY_LONG_INDEX_SCALE", type := .int, accessFlags := 25, slot := 7, constantValue := 0 }, { name := "LOG2_ARRAY_FLOAT_INDEX_SCALE", type := .int, accessFlags := 25, slot := 8, constantValue := 0 }, { name := "LOG2_ARRAY_DOUBLE_INDEX_SCALE", type := .int, accessFlags := 25, slot := 9, constantValue := 0 }, { name := "LOG2_BYTE_BIT_SIZE", type := .int, accessFlags := 26, slot := 10, constantValue := 0 }, { name := "T_BOOLEAN", type := .int, accessFlags := 25, slot := 11, constantValue := 0 }, { name := "T_CHAR", type := .int, accessFlags := 25, slot := 12, constantValue := 0 }, { name := "T_FLOAT", type := .int, accessFlags := 25, slot := 13, constantValue := 0 }, { name := "T_DOUBLE", type := .int, accessFlags := 25, slot := 14, constantValue := 0 }, { name := "T_BYTE", type := .int, accessFlags := 25, slot := 15, constantValue := 0 }, { name := "T_SHORT", type := .int, accessFlags := 25, slot := 16, constantValue := 0 }, { name := "T_INT", type := .int, accessFlags := 25, slot := 17, constantValue := 0 }, { name := "T_LONG", type := .int, accessFlags := 25, slot := 18, constantValue := 0 }, { name := "JLA", type := (.object "jdk/internal/access/JavaLangAccess"), accessFlags := 26, slot := 19, constantValue := 0 }, { name := "SOFT_MAX_ARRAY_LENGTH", type := .int, accessFlags := 25, slot := 20, constantValue := 0 }]
  methods := #[k13m0]
  instanceTypes := #[]
  staticTypes := #[(.object "jdk/internal/misc/Unsafe"), .boolean, .int, .int, .int, .int, .int, .int, .int, .int, .int, .int, .int, .int, .int, .int, .int, .int, .int, (.object "jdk/internal/access/JavaLangAccess"), .int]
  resolved := Array.replicate 378 none
  statics := none }

def pool14 : Array CpInfo := pool [(1, u "java/lang/Cloneable"), (0, .class_ 1), (0, u "java/lang/Object"), (0, .class_ 3)] 3

/-- java/lang/Cloneable -/
def k14 : Class := { plain "java/lang/Cloneable" (some 0) with
  accessFlags := 1537
  interfaces := #[]
  cf := some (fileOf pool14 2 #[] #[] 1537 4 #[] #[])
  fields := #[]
  methods := #[]
  instanceTypes := #[]
  staticTypes := #[]
  resolved := Array.replicate 8 none
  statics := none }

/-- the primitive byte -/
def k15 : Class := { plain "byte" none with kind := .primitive 'B', accessFlags := 0x411 }
/-- [B -/
def k16 : Class := { plain "[B" (some 0) with kind := .array 15 .byte, interfaces := #[14, 2], accessFlags := 1041 }

/-- the primitive char -/
def k17 : Class := { plain "char" none with kind := .primitive 'C', accessFlags := 0x411 }
/-- [C -/
def k18 : Class := { plain "[C" (some 0) with kind := .array 17 .char, interfaces := #[14, 2], accessFlags := 1041 }

/-- the primitive int -/
def k19 : Class := { plain "int" none with kind := .primitive 'I', accessFlags := 0x411 }
/-- [I -/
def k20 : Class := { plain "[I" (some 0) with kind := .array 19 .int, interfaces := #[14, 2], accessFlags := 1041 }

def heap : Heap := #[{ cls := 7, slots := #[.long 0, .int 1, .null, .int 0, .null, .int 0, .int 0], vm := .statics 7 },
  { cls := 12, slots := #[.null, .null, .null], vm := .statics 12 }]
def classes : Array Class := #[k0, k1, k2, k3, k4, k5, k6, k7, k8, k9, k10, k11, k12, k13, k14, k15, k16, k17, k18, k19, k20]
def interned : List (Array UInt16 × Addr) := []
def slotsUsed : Nat := 10
def theMethod : MethodId := ⟨1, 2⟩
def args0 : Array Value := #[.long 5, .long 300, .long 7, .int 2, .long 9, .int 4]
def aboutOver (below : List Frame) : State where
  vm := { classes := classes, interned := interned.toArray }
  heap := heap
  slotsUsed := slotsUsed
  threads := #[{ frames := .invoking theMethod args0 :: below }]
def below0 : List Frame := [.native { method := ⟨0, 0⟩, args := #[] }]
def about1 : State := aboutOver below0
def p0 : Program := .bare "" "" ""
def e0 : Env := launch0.env 0 0 0
theorem w_frames : about1.frames = Frame.invoking theMethod args0 :: below0 := rfl
set_option maxRecDepth 65536 in
theorem w_args : argsFit about1.vm theMethod args0 = true := by decide +kernel
set_option maxRecDepth 65536 in
theorem w_heap : heapFits about1 = true := by decide +kernel
set_option maxRecDepth 65536 in
theorem w_runnable : about1.curStatus? = some .runnable := by decide +kernel
set_option maxRecDepth 65536 in
theorem w_alone : about1.alone = true := by decide +kernel
set_option maxRecDepth 65536 in
theorem w_named : about1.methodNamed? x = some theMethod := by decide +kernel
set_option maxRecDepth 65536 in
theorem w_hears : about1.hears theMethod below0 = true := by decide +kernel
set_option maxRecDepth 65536 in
theorem w_ripe : about1.ripe theMethod args0 below0 = true := by decide +kernel
theorem w_running : about1.status = .running := rfl
set_option maxRecDepth 65536 in
theorem w_room : about1.hasRoom e0.platform room_1 = true :=
  launch0.hasRoom_least _ room_1 (by decide +kernel) (by decide +kernel) (by decide +kernel) (by decide +kernel) (by decide +kernel) (by decide +kernel)
theorem allAtoms_all (ts : List Jvm.Cond) (a : Array Jvm.Value) (st : Jvm.State) : (allAtoms ts).before a st = ts.all (fun c => c.before a st) := by
  induction ts with
  | nil => rfl
  | cons c t ih =>
    show (Jvm.Cond.and c (allAtoms t)).before a st = _
    rw [Jvm.Cond.before_and, ih, List.all_cons]
def words1 : List Jvm.Cond := Jvm.Cond.code x code maxLocals ret :: tables_1
/-- a 'code' word, met by the world's own term for the bytes: nothing is compared byte by byte -/
theorem code_word {y : MethodName} {bytes : ByteArray} {mx : Nat} {rt : Option FieldType} {a : Array Value} {s : State} {m : MethodId} {meth : Method} {c : Code} (h1 : s.methodNamed? y = some m) (h2 : s.vm.method? m = some meth) (h3 : meth.code = some c) (h4 : c.code = bytes)
    (h5 : (c.maxLocals == mx && c.exceptionTable.isEmpty && decide (c.maxStack ≤ mostOperands) && decide (meth.sig.returnType = rt) && !meth.locks && decide (parseMethodDescriptor y.desc = some meth.sig)) = true) : (Jvm.Cond.code y bytes mx rt).before a s = true := by
  simp only [Bool.and_eq_true, beq_iff_eq, Bool.not_eq_true', decide_eq_true_eq] at h5
  obtain ⟨⟨⟨⟨⟨g1, g2⟩, g3⟩, g4⟩, g5⟩, g6⟩ := h5
  simp [Cond.before, Cond.holds, Cond.value, h1, h2, h3, h4, g1, g2, g3, g4, g5, g6]
def isCode : Jvm.Cond → Bool
  | .code _ _ _ _ => true
  | _ => false
theorem all_split {L : List Jvm.Cond} {P : Jvm.Cond → Bool} (h1 : L.all (fun c => isCode c || P c) = true) (h2 : ∀ c ∈ L.filter isCode, P c = true) : L.all P = true := by
  refine List.all_eq_true.mpr fun c hc => ?_
  have h := List.all_eq_true.mp h1 c hc
  rcases Bool.eq_false_or_eq_true (isCode c) with hi | hi
  · exact h2 c (List.mem_filter.mpr ⟨hc, hi⟩)
  · simpa [hi] using h
set_option maxRecDepth 65536 in
theorem w_c0 : (Jvm.Cond.code x code maxLocals ret).before args0 about1 = true := code_word (m := ⟨1, 2⟩) (meth := k1m2) (c := k1c2) (by decide +kernel) rfl rfl rfl (by decide +kernel)
set_option maxRecDepth 65536 in
theorem w_c1 : (Jvm.Cond.code ({ cls := "com/example/epithet/epithet/store/EntryAtPinLaw", name := "principal", desc := "(I)Ljava/lang/String;" } : Jvm.MethodName) method_2_code (5 : Nat) (Option.some (Jvm.ClassFile.FieldType.object "java/lang/String"))).before args0 about1 = true := code_word (m := ⟨1, 1⟩) (meth := k1m1) (c := k1c1) (by decide +kernel) rfl rfl rfl (by decide +kernel)
set_option maxRecDepth 65536 in
theorem w_c2 : (Jvm.Cond.code ({ cls := "java/lang/String", name := "<init>", desc := "([C)V" } : Jvm.MethodName) jdk_42_method_3_code (2 : Nat) (Option.none : Option Jvm.ClassFile.FieldType)).before args0 about1 = true := code_word (m := ⟨7, 1⟩) (meth := k7m1) (c := k7c1) (by decide +kernel) rfl rfl rfl (by decide +kernel)
set_option maxRecDepth 65536 in
theorem w_c3 : (Jvm.Cond.code ({ cls := "java/lang/String", name := "<init>", desc := "([CIILjava/lang/Void;)V" } : Jvm.MethodName) jdk_42_method_149_code (6 : Nat) (Option.none : Option Jvm.ClassFile.FieldType)).before args0 about1 = true := code_word (m := ⟨7, 2⟩) (meth := k7m2) (c := k7c2) (by decide +kernel) rfl rfl rfl (by decide +kernel)
set_option maxRecDepth 65536 in
theorem w_c4 : (Jvm.Cond.code ({ cls := "java/lang/Object", name := "<init>", desc := "()V" } : Jvm.MethodName) object_method_1_code (1 : Nat) (Option.none : Option Jvm.ClassFile.FieldType)).before args0 about1 = true := code_word (m := ⟨0, 0⟩) (meth := k0m0) (c := k0c0) (by decide +kernel) rfl rfl rfl (by decide +kernel)
set_option maxRecDepth 65536 in
theorem w_c5 : (Jvm.Cond.code ({ cls := "com/example/epithet/epithet/store/TransientIndex$Entry", name := "<init>", desc := "(JJJILjava/lang/String;J)V" } : Jvm.MethodName) prog_101_method_1_code (11 : Nat) (Option.none : Option Jvm.ClassFile.FieldType)).before args0 about1 = true := code_word (m := ⟨9, 0⟩) (meth := k9m0) (c := k9c0) (by decide +kernel) rfl rfl rfl (by decide +kernel)
set_option maxRecDepth 65536 in
theorem w_c6 : (Jvm.Cond.code ({ cls := "java/lang/Record", name := "<init>", desc := "()V" } : Jvm.MethodName) jdk_30_method_1_code (1 : Nat) (Option.none : Option Jvm.ClassFile.FieldType)).before args0 about1 = true := code_word (m := ⟨8, 0⟩) (meth := k8m0) (c := k8c0) (by decide +kernel) rfl rfl rfl (by decide +kernel)
set_option maxRecDepth 65536 in
theorem w_c7 : (Jvm.Cond.code ({ cls := "com/example/epithet/epithet/store/TransientIndex$Entry", name := "at", desc := "(J)Lcom/example/epithet/epithet/store/TransientIndex$Entry;" } : Jvm.MethodName) prog_101_method_2_code (3 : Nat) (Option.some (Jvm.ClassFile.FieldType.object "com/example/epithet/epithet/store/TransientIndex$Entry"))).before args0 about1 = true := code_word (m := ⟨9, 1⟩) (meth := k9m1) (c := k9c1) (by decide +kernel) rfl rfl rfl (by decide +kernel)
set_option maxRecDepth 65536 in
theorem w_c8 : (Jvm.Cond.code ({ cls := "com/example/epithet/epithet/store/TransientIndex$Entry", name := "high", desc := "()J" } : Jvm.MethodName) prog_101_method_6_code (1 : Nat) (Option.some Jvm.ClassFile.FieldType.long)).before args0 about1 = true := code_word (m := ⟨9, 2⟩) (meth := k9m2) (c := k9c2) (by decide +kernel) rfl rfl rfl (by decide +kernel)
set_option maxRecDepth 65536 in
theorem w_c9 : (Jvm.Cond.code ({ cls := "com/example/epithet/epithet/store/TransientIndex$Entry", name := "low", desc := "()J" } : Jvm.MethodName) prog_101_method_7_code (1 : Nat) (Option.some Jvm.ClassFile.FieldType.long)).before args0 about1 = true := code_word (m := ⟨9, 3⟩) (meth := k9m3) (c := k9c3) (by decide +kernel) rfl rfl rfl (by decide +kernel)
set_option maxRecDepth 65536 in
theorem w_c10 : (Jvm.Cond.code ({ cls := "com/example/epithet/epithet/store/TransientIndex$Entry", name := "expires", desc := "()J" } : Jvm.MethodName) prog_101_method_8_code (1 : Nat) (Option.some Jvm.ClassFile.FieldType.long)).before args0 about1 = true := code_word (m := ⟨9, 4⟩) (meth := k9m4) (c := k9c4) (by decide +kernel) rfl rfl rfl (by decide +kernel)
set_option maxRecDepth 65536 in
theorem w_c11 : (Jvm.Cond.code ({ cls := "com/example/epithet/epithet/store/TransientIndex$Entry", name := "spFormat", desc := "()I" } : Jvm.MethodName) prog_101_method_9_code (1 : Nat) (Option.some Jvm.ClassFile.FieldType.int)).before args0 about1 = true := code_word (m := ⟨9, 5⟩) (meth := k9m5) (c := k9c5) (by decide +kernel) rfl rfl rfl (by decide +kernel)
set_option maxRecDepth 65536 in
theorem w_c12 : (Jvm.Cond.code ({ cls := "com/example/epithet/epithet/store/TransientIndex$Entry", name := "principal", desc := "()Ljava/lang/String;" } : Jvm.MethodName) prog_101_method_10_code (1 : Nat) (Option.some (Jvm.ClassFile.FieldType.object "java/lang/String"))).before args0 about1 = true := code_word (m := ⟨9, 6⟩) (meth := k9m6) (c := k9c6) (by decide +kernel) rfl rfl rfl (by decide +kernel)
set_option maxRecDepth 65536 in
theorem w_c13 : (Jvm.Cond.code ({ cls := "com/example/epithet/epithet/store/TransientIndex$Entry", name := "at", desc := "()J" } : Jvm.MethodName) prog_101_method_11_code (1 : Nat) (Option.some Jvm.ClassFile.FieldType.long)).before args0 about1 = true := code_word (m := ⟨9, 7⟩) (meth := k9m7) (c := k9c7) (by decide +kernel) rfl rfl rfl (by decide +kernel)
set_option maxRecDepth 65536 in
theorem w_c14 : (Jvm.Cond.code ({ cls := "java/lang/StringUTF16", name := "compress", desc := "([CII)[B" } : Jvm.MethodName) jdk_52_method_16_code (6 : Nat) (Option.some (Jvm.ClassFile.FieldType.array Jvm.ClassFile.FieldType.byte))).before args0 about1 = true := code_word (m := ⟨10, 2⟩) (meth := k10m2) (c := k10c2) (by decide +kernel) rfl rfl rfl (by decide +kernel)
set_option maxRecDepth 65536 in
theorem w_c15 : (Jvm.Cond.code ({ cls := "java/lang/StringUTF16", name := "compress", desc := "([CI[BII)I" } : Jvm.MethodName) jdk_52_method_21_code (7 : Nat) (Option.some Jvm.ClassFile.FieldType.int)).before args0 about1 = true := code_word (m := ⟨10, 3⟩) (meth := k10m3) (c := k10c3) (by decide +kernel) rfl rfl rfl (by decide +kernel)
set_option maxRecDepth 65536 in
theorem w_c16 : (Jvm.Cond.code ({ cls := "java/lang/StringUTF16", name := "coderFromArrayLen", desc := "([BI)B" } : Jvm.MethodName) jdk_52_method_15_code (2 : Nat) (Option.some Jvm.ClassFile.FieldType.byte)).before args0 about1 = true := code_word (m := ⟨10, 1⟩) (meth := k10m1) (c := k10c1) (by decide +kernel) rfl rfl rfl (by decide +kernel)
def codes1 : List Jvm.Cond := [Jvm.Cond.code x code maxLocals ret, Jvm.Cond.code ({ cls := "com/example/epithet/epithet/store/EntryAtPinLaw", name := "principal", desc := "(I)Ljava/lang/String;" } : Jvm.MethodName) method_2_code (5 : Nat) (Option.some (Jvm.ClassFile.FieldType.object "java/lang/String")), Jvm.Cond.code ({ cls := "java/lang/String", name := "<init>", desc := "([C)V" } : Jvm.MethodName) jdk_42_method_3_code (2 : Nat) (Option.none : Option Jvm.ClassFile.FieldType), Jvm.Cond.code ({ cls := "java/lang/String", name := "<init>", desc := "([CIILjava/lang/Void;)V" } : Jvm.MethodName) jdk_42_method_149_code (6 : Nat) (Option.none : Option Jvm.ClassFile.FieldType), Jvm.Cond.code ({ cls := "java/lang/Object", name := "<init>", desc := "()V" } : Jvm.MethodName) object_method_1_code (1 : Nat) (Option.none : Option Jvm.ClassFile.FieldType), Jvm.Cond.code ({ cls := "com/example/epithet/epithet/store/TransientIndex$Entry", name := "<init>", desc := "(JJJILjava/lang/String;J)V" } : Jvm.MethodName) prog_101_method_1_code (11 : Nat) (Option.none : Option Jvm.ClassFile.FieldType), Jvm.Cond.code ({ cls := "java/lang/Record", name := "<init>", desc := "()V" } : Jvm.MethodName) jdk_30_method_1_code (1 : Nat) (Option.none : Option Jvm.ClassFile.FieldType), Jvm.Cond.code ({ cls := "com/example/epithet/epithet/store/TransientIndex$Entry", name := "at", desc := "(J)Lcom/example/epithet/epithet/store/TransientIndex$Entry;" } : Jvm.MethodName) prog_101_method_2_code (3 : Nat) (Option.some (Jvm.ClassFile.FieldType.object "com/example/epithet/epithet/store/TransientIndex$Entry")), Jvm.Cond.code ({ cls := "com/example/epithet/epithet/store/TransientIndex$Entry", name := "high", desc := "()J" } : Jvm.MethodName) prog_101_method_6_code (1 : Nat) (Option.some Jvm.ClassFile.FieldType.long), Jvm.Cond.code ({ cls := "com/example/epithet/epithet/store/TransientIndex$Entry", name := "low", desc := "()J" } : Jvm.MethodName) prog_101_method_7_code (1 : Nat) (Option.some Jvm.ClassFile.FieldType.long), Jvm.Cond.code ({ cls := "com/example/epithet/epithet/store/TransientIndex$Entry", name := "expires", desc := "()J" } : Jvm.MethodName) prog_101_method_8_code (1 : Nat) (Option.some Jvm.ClassFile.FieldType.long), Jvm.Cond.code ({ cls := "com/example/epithet/epithet/store/TransientIndex$Entry", name := "spFormat", desc := "()I" } : Jvm.MethodName) prog_101_method_9_code (1 : Nat) (Option.some Jvm.ClassFile.FieldType.int), Jvm.Cond.code ({ cls := "com/example/epithet/epithet/store/TransientIndex$Entry", name := "principal", desc := "()Ljava/lang/String;" } : Jvm.MethodName) prog_101_method_10_code (1 : Nat) (Option.some (Jvm.ClassFile.FieldType.object "java/lang/String")), Jvm.Cond.code ({ cls := "com/example/epithet/epithet/store/TransientIndex$Entry", name := "at", desc := "()J" } : Jvm.MethodName) prog_101_method_11_code (1 : Nat) (Option.some Jvm.ClassFile.FieldType.long), Jvm.Cond.code ({ cls := "java/lang/StringUTF16", name := "compress", desc := "([CII)[B" } : Jvm.MethodName) jdk_52_method_16_code (6 : Nat) (Option.some (Jvm.ClassFile.FieldType.array Jvm.ClassFile.FieldType.byte)), Jvm.Cond.code ({ cls := "java/lang/StringUTF16", name := "compress", desc := "([CI[BII)I" } : Jvm.MethodName) jdk_52_method_21_code (7 : Nat) (Option.some Jvm.ClassFile.FieldType.int), Jvm.Cond.code ({ cls := "java/lang/StringUTF16", name := "coderFromArrayLen", desc := "([BI)B" } : Jvm.MethodName) jdk_52_method_15_code (2 : Nat) (Option.some Jvm.ClassFile.FieldType.byte)]
set_option maxRecDepth 65536 in
theorem codes_eq : words1.filter isCode = codes1 := rfl
theorem w_codes : ∀ c ∈ words1.filter isCode, c.before args0 about1 = true := by
  rw [codes_eq]
  intro c hc
  simp only [codes1, List.mem_cons, List.not_mem_nil, or_false] at hc
  rcases hc with rfl | rfl | rfl | rfl | rfl | rfl | rfl | rfl | rfl | rfl | rfl | rfl | rfl | rfl | rfl | rfl | rfl
  · exact w_c0
  · exact w_c1
  · exact w_c2
  · exact w_c3
  · exact w_c4
  · exact w_c5
  · exact w_c6
  · exact w_c7
  · exact w_c8
  · exact w_c9
  · exact w_c10
  · exact w_c11
  · exact w_c12
  · exact w_c13
  · exact w_c14
  · exact w_c15
  · exact w_c16
set_option maxRecDepth 65536 in
theorem w_t1 : (words1.take 24).all (fun c => isCode c || c.before args0 about1) = true := by decide +kernel
set_option maxRecDepth 65536 in
theorem w_t2 : ((words1.drop 24).take 24).all (fun c => isCode c || c.before args0 about1) = true := by decide +kernel
set_option maxRecDepth 65536 in
theorem w_t3 : (((words1.drop 24).drop 24).take 24).all (fun c => isCode c || c.before args0 about1) = true := by decide +kernel
set_option maxRecDepth 65536 in
theorem w_t4 : ((((words1.drop 24).drop 24).drop 24).take 24).all (fun c => isCode c || c.before args0 about1) = true := by decide +kernel
set_option maxRecDepth 65536 in
theorem w_t5 : ((((words1.drop 24).drop 24).drop 24).drop 24).all (fun c => isCode c || c.before args0 about1) = true := by decide +kernel
theorem w_tables : (allAtoms (Jvm.Cond.code x code maxLocals ret :: tables_1)).before args0 about1 = true := by
  rw [allAtoms_all]
  show words1.all (fun c => c.before args0 about1) = true
  refine all_split ?_ w_codes
  rw [← List.take_append_drop 24 words1, List.all_append, w_t1, ← List.take_append_drop 24 (words1.drop 24), List.all_append, w_t2, ← List.take_append_drop 24 ((words1.drop 24).drop 24), List.all_append, w_t3, ← List.take_append_drop 24 (((words1.drop 24).drop 24).drop 24), List.all_append, w_t4, w_t5]
  rfl
set_option maxRecDepth 65536 in
theorem w_rest : rest_1_c.before args0 about1 = true := by decide +kernel
set_option maxRecDepth 65536 in
theorem w_case : (Jvm.Cond.and given_1 narrow_1).before args0 about1 = true := by decide +kernel
set_option maxRecDepth 65536 in
theorem w_consts : constsHeld consts_1 about1 := Jvm.Lit.constsHeldB_iff.mp (by decide +kernel)
theorem w_applies : (headSpec (Jvm.Cond.code x code maxLocals ret :: tables_1) room_1).applies x e0.platform about1 = true :=
  (Spec.applies_iff w_frames).mpr ⟨w_running, w_runnable, w_alone, w_named, w_hears, w_ripe, w_room, w_tables⟩
theorem atStart : AtStart classFile x code maxLocals ret World_1 tables_1 room_1 Calls_1 rest_1 Pre_1 launch0 p0 e0 about1 theMethod args0 below0 :=
  ⟨lists_1, trivial, launch0.admits_env _ _ _, launch0.least_env, fairChoices_fair.cas, fairChoices_fair.clock, w_frames, w_args, w_heap, w_applies, ⟨w_consts, trivial⟩, w_rest, w_case⟩
end start1
theorem witness_1 : WitnessClaimed_1 := ⟨start1.p0, start1.e0, start1.about1, start1.theMethod, start1.args0, start1.below0, start1.atStart⟩
end Jvm.Pilot.@@N@@
