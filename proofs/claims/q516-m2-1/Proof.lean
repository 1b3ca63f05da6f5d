import JvmDerived
import JvmDerived.Pilot.@@N@@Statement
import JvmDerived.Pilot.@@N@@Code
set_option linter.unusedVariables false
set_option linter.unusedSimpArgs false
@@BLOCK:NumsL.lean.txt@@
namespace Jvm.Pilot.@@N@@
open Jvm Jvm.ClassFile Sem Op Lib Jvm.Free Jvm.Stand Jvm.LawKit Jvm.RoadKit Bundle Jvm.Pilot.@@N@@.Jvm.D
section OwnKit
variable {p : Program} {l : Launch} {e : Env} {R : Room} {s : State} {m : MethodId} {args : Array Value} {below : List Frame} {meth : Method} {c : Code} {n0 C N : Nat} {Q : Option Value → Heap → Prop} {h : Heap} {ce sl pc q : Nat} {Ls : Array Slot} {st : List Value} {Z : State} {a0 : Array Value} {EL : List (String × Nat)} {hh0 : Heap} {SF : List Addr}
theorem wZ {vm0 : Vm} {k0 : Nat} (hZ : Z.Warmed39 s.vm) (hS : s.Since vm0 k0) : Z.Warmed39 (s.setVm vm0).vm := State.Warmed39.trans (t := s) hZ hS.1
theorem wO {vm0 : Vm} {k0 : Nat} {own : String} (hown : s.vm.findClass own = some m.cls) (hS : s.Since vm0 k0) : (s.setVm vm0).vm.findClass own = some m.cls := by
  show vm0.findClass own = _
  rw [hS.1.alike.findClass]; exact hown
theorem safe_new {vm : Vm} {h' : Heap} {a : Addr} (H : CHv Z EL vm h) (E : Ext h h') (ha : h.size ≤ a) : Safe Z EL vm h' a := fun B => Safe.new ha ((H.step fun _ _ _ q => E.2 _ _ q).2 _ B)
/-- the walk that stands at pc, with these locals, this stack and this heap, comes to its end as Q says (wide: it may load String constants; EL: the entries whose texts are held; SF: the cells that are no constant's) -/
def Go (p : Program) (l : Launch) (e : Env) (R : Room) (s : State) (m : MethodId) (args : Array Value) (below : List Frame) (meth : Method) (c : Code) (n0 C N : Nat) (Q : Option Value → Heap → Prop) (Z : State) (a0 : Array Value) (EL : List (String × Nat)) (hh0 : Heap) (SF : List Addr) (h : Heap) (ce sl pc : Nat) (Ls : Array Slot) (st : List Value) : Prop :=
  ∀ (T : State) (vm0 : Vm) (locs : List Loc) (k0 : Nat), Z.Warmed39 s.vm → EW Z a0 EL → Stand p l e R (s.setVm vm0) m args below meth c T locs ce sl → s.Since vm0 k0 → k0 ≤ h.size → CHr Z EL s.vm hh0 vm0 h → (∀ x ∈ SF, x < h.size ∧ Safe Z EL vm0 h x) → Fr n0 locs → T.heap = h →
    ∃ (s₂ : State) (v : Option Value) (L : List Loc), Steps p.tables e below (T.setTop (mkF m pc Ls st)) s₂ ∧ s₂.status = .running ∧ Ended s₂ below (.returned v) ∧ (Q v s₂.heap ∧ Fr n0 L) ∧ CHr Z EL s.vm hh0 s₂.vm s₂.heap ∧ ReturnedEndW s (.returned v) s₂ L C N
/-- a method's contract, at given arguments and a given heap -/
abbrev Met (l : Launch) (Z : State) (EL : List (String × Nat)) (SF : List Addr) (y : MethodName) (bytes : ByteArray) (maxL : Nat) (rt : Option FieldType) (ws : List Cond) (rm : Room) (as : Array Value) (h0 : Heap) (n0 : Nat) (Q : Option Value → Heap → Prop) : Prop :=
  MetFree l y (head1 (Cond.code y bytes maxL rt :: ws) rm) (fun a U => a = as ∧ Z.Warmed39 U.vm ∧ U.heap = h0 ∧ CHv Z EL U.vm h0 ∧ ∀ x ∈ SF, x < h0.size ∧ Safe Z EL U.vm h0 x) (fun _ _ _ _ _ => True) (fun _ U o U' => ∃ v L, o = .returned v ∧ (Q v U'.heap ∧ Fr n0 L) ∧ CHr Z EL U.vm U.heap U'.vm U'.heap ∧ ReturnedEndW U o U' L rm.cells rm.slots)
theorem Met.of {y : MethodName} {bytes : ByteArray} {maxL : Nat} {rt : Option FieldType} {ws : List Cond} {rm : Room} {as : Array Value} {h0 : Heap} {Ls0 : Array Slot} (hpl : plainFor y = true) (hent : argsToLocals as maxL = Ls0) (hel : EW Z a0 EL)
    (body : ∀ (p : Program) (e : Env) (s : State) (m : MethodId) (below : List Frame) (meth : Method) (c : Code), p.tables.exec = Jvm.exec → c.code = bytes → c.maxLocals = maxL → meth.sig.returnType = rt → meth.locks = false → s.vm.findClass y.cls = some m.cls → meth.name = y.name → Z.Warmed39 s.vm →
      Go p l e rm s m as below meth c n0 rm.cells rm.slots Q Z a0 EL h0 SF h0 0 0 0 Ls0 []) : Met l Z EL SF y bytes maxL rt ws rm as h0 n0 Q := by
  refine MetFree.of_bodySF hpl hisR ?_
  intro p e s m args below meth c s₁ Bd hml0 hP hK
  obtain ⟨rfl, hZ, hh, hCH, hSF⟩ := hP
  have e0 : s₁.heap = h0 := by rw [← hh, Bd.state]; rfl
  obtain ⟨s₂, v, L, S, r1, r2, hq, hc, fe⟩ := body p e s m below meth c Bd.exec Bd.bytes hml0 Bd.returns Bd.notSynchronized (findClass_of_methodNamed Bd.named) (name_of_methodNamed Bd.named Bd.method).1 hZ s₁ s.vm [] h0.size hZ hel (Stand.of_body Bd) ((State.WarmedH.refl s).since _) (Nat.le_refl _) (CHr.refl hCH) hSF (Fr.nil _) e0
  have ef : entryFrame m args maxL = mkF m 0 Ls0 [] := by simp only [entryFrame, mkF, hent]
  exact ⟨s₂, _, castTop ef S, r1, r2, v, L, rfl, hq, by rw [hh]; exact hc, fe⟩
theorem backOfSF {vm0 : Vm} {y : MethodName} {bytes : ByteArray} {maxL : Nat} {ret : Option FieldType} {rm : Room} {len W : Nat} {SFc : List Addr} {as' : Array Value} {Q : Option Value → Heap → List Loc → Prop}
    (hM : MetFree l y (head1 [Cond.code y bytes maxL ret] rm) (fun a U => a = as' ∧ Z.Warmed39 U.vm ∧ U.heap = h ∧ CHv Z EL U.vm h ∧ ∀ x ∈ SFc, x < h.size ∧ Safe Z EL U.vm h x) (fun _ _ _ _ _ => True) (fun _ U o U' => ∃ v L, o = .returned v ∧ Q v U'.heap L ∧ CHr Z EL U.vm U.heap U'.vm U'.heap ∧ ReturnedEndW U o U' L rm.cells rm.slots))
    (hZ : Z.Warmed39 vm0) (wc : (Cond.code y bytes maxL ret).before a0 Z = true) (wz : (Cond.initialized y.cls).before a0 Z = true) (hf : rm.frames + 1 ≤ R.frames) (hl : W + (maxL + 11) + rm.locals ≤ R.locals) (hEL : EW Z a0 EL) (hSF : ∀ x ∈ SFc, x < h.size ∧ Safe Z EL vm0 h x) (H : CHv Z EL vm0 h) :
    BackS l R p e below (s.setVm vm0) args y len W (fun A a => a = as' ∧ A.U.heap = h ∧ A.cells + rm.cells ≤ R.cells ∧ A.slots + rm.slots ≤ R.slots)
      (fun A _ v B => ∃ L, Q v B.U.heap L ∧ B.locs = A.locs ++ L ∧ B.cells = A.cells + rm.cells ∧ B.slots = A.slots + rm.slots ∧ CHr Z EL vm0 h B.U.vm B.U.heap) :=
  BackS.of_freeW (bytes := bytes) (maxL := maxL) (ret := ret) (E := fun _ first o t L k n => k = rm.cells ∧ n = rm.slots ∧ (∃ v, o = .returned v ∧ Q v t.heap L) ∧ CHr Z EL first.vm first.heap t.vm t.heap) hM hf hl
    (fun m meth c A a Y hp => have hU : Z.Warmed39 A.U.vm := wtrans (s := s.setVm vm0) hZ Y.warmed
      ⟨by show (Cond.and _ .tt).before a A.U = true; rw [Cond.before_and, mv hU wc]; rfl, mv hU wc, mv hU wz, hp.2.2.1, hp.2.2.2⟩)
    (fun m meth c A a g mk Y hp => ⟨hp.1, wtrans (s := s.setVm vm0) hZ Y.warmed, hp.2.1, (CHv.at Y hZ hEL H).1, fun x hx => ⟨(hSF x hx).1, (CHv.at Y hZ hEL H).safe (hSF x hx).1 (hSF x hx).2⟩⟩) (fun _ _ _ _ _ _ _ _ _ => trivial)
    (fun _ _ _ _ ⟨v, L, h1, h2, h3, h4⟩ => ⟨L, _, _, h4, rfl, rfl, ⟨v, h1, h2⟩, h3⟩)
    (fun m meth c A a g mk v t L k n Y hp _ _ ⟨e1, e2, ⟨v', e3, e4⟩, e5⟩ => by
      cases e3; subst e1 e2
      refine ⟨L, e4, rfl, rfl, rfl, (CHv.at Y hZ hEL H).trans ?_⟩
      rw [← hp.2.1]; exact e5)
theorem Go.mono {ce' sl' : Nat} (hc : ce ≤ ce') (hs : sl ≤ sl') (G : Go p l e R s m args below meth c n0 C N Q Z a0 EL hh0 SF h ce' sl' pc Ls st) : Go p l e R s m args below meth c n0 C N Q Z a0 EL hh0 SF h ce sl pc Ls st :=
  fun T vm0 locs k0 hz hel X => G T vm0 locs k0 hz hel (X.more hc hs)
theorem Go.step {q' : Nat} {Ls' : Array Slot} {st' : List Value} (H : ∀ (T : State) (vm0 : Vm) (k0 : Nat) (locs : List Loc) (target : State), Stand p l e R (s.setVm vm0) m args below meth c T locs ce sl → s.Since vm0 k0 → T.heap = h → Steps p.tables e below (T.setTop (mkF m q' Ls' st')) target → Steps p.tables e below (T.setTop (mkF m pc Ls st)) target)
    (G : Go p l e R s m args below meth c n0 C N Q Z a0 EL hh0 SF h ce sl q' Ls' st') : Go p l e R s m args below meth c n0 C N Q Z a0 EL hh0 SF h ce sl pc Ls st := fun T vm0 locs k0 hz hel X hS hk hC hF Nf eT => by
  obtain ⟨s₂, v, L, S, r⟩ := G T vm0 locs k0 hz hel X hS hk hC hF Nf eT
  exact ⟨s₂, v, L, H T vm0 k0 locs s₂ X hS eT S, r⟩
theorem Go.law {ce' sl' q' : Nat} {Ls' : Array Slot} {st' : List Value} (H : ∀ (T : State) (vm0 : Vm) (k0 : Nat) (locs : List Loc), Stand p l e R (s.setVm vm0) m args below meth c T locs ce sl → s.Since vm0 k0 → T.heap = h → ∃ T', Stand p l e R (s.setVm vm0) m args below meth c T' locs ce' sl' ∧ T'.heap = h ∧ ∀ target, Steps p.tables e below (T'.setTop (mkF m q' Ls' st')) target → Steps p.tables e below (T.setTop (mkF m pc Ls st)) target)
    (G : Go p l e R s m args below meth c n0 C N Q Z a0 EL hh0 SF h ce' sl' q' Ls' st') : Go p l e R s m args below meth c n0 C N Q Z a0 EL hh0 SF h ce sl pc Ls st := fun T vm0 locs k0 hz hel X hS hk hC hF Nf eT => by
  obtain ⟨T', X', eT', hs⟩ := H T vm0 k0 locs X hS eT
  obtain ⟨s₂, v, L, S, r⟩ := G T' vm0 locs k0 hz hel X' hS hk hC hF Nf eT'
  exact ⟨s₂, v, L, hs _ S, r⟩
/-- over an Ext that makes a -/
theorem sf_ext {vm0 : Vm} {h' : Heap} {a : Addr} (hC : CHv Z EL vm0 h) (E : Ext h h') (hF : ∀ x ∈ SF, x < h.size ∧ Safe Z EL vm0 h x) (ha : a = h.size) (hlt : a < h'.size) : ∀ x ∈ a :: SF, x < h'.size ∧ Safe Z EL vm0 h' x := fun x hx => by
  rcases List.mem_cons.mp hx with rfl | hx
  · exact ⟨hlt, safe_new hC E (Nat.le_of_eq ha.symm)⟩
  · exact ⟨Nat.lt_of_lt_of_le (hF x hx).1 E.1, (CHr.ext E hC).safe (hF x hx).1 (hF x hx).2⟩
theorem sf_wr {vm0 : Vm} {h' : Heap} {a : Addr} {k : Nat} {v : Value} (hC : CHv Z EL vm0 h) (W : Wr h h' a k v) (ha : a ∈ SF) (hF : ∀ x ∈ SF, x < h.size ∧ Safe Z EL vm0 h x) : ∀ x ∈ SF, x < h'.size ∧ Safe Z EL vm0 h' x := fun x hx =>
  ⟨by rw [W.size]; exact (hF x hx).1, (CHr.wr W (hF a ha).2 hC).safe (hF x hx).1 (hF x hx).2⟩
theorem Go.iloadN (hx : p.tables.exec = Jvm.exec) {k : Fin 4} {v : Int32} (hd : decode c.code pc = .ok (.iload_n k, 1)) (hl : Ls[k.val]? = some (.val (.int v))) (hq : q = pc + 1) (G : Go p l e R s m args below meth c n0 C N Q Z a0 EL hh0 SF h ce sl q Ls (.int v :: st)) : Go p l e R s m args below meth c n0 C N Q Z a0 EL hh0 SF h ce sl pc Ls (st) := by
  subst hq
  exact Go.step (fun T vm0 k0 locs target X hS _ S => XS.iloadN X.here hx rfl hd hl S) G
theorem Go.iload (hx : p.tables.exec = Jvm.exec) {k : Nat} {v : Int32} (hd : decode c.code pc = .ok (.iload k, 2)) (hl : Ls[k]? = some (.val (.int v))) (hq : q = pc + 2) (G : Go p l e R s m args below meth c n0 C N Q Z a0 EL hh0 SF h ce sl q Ls (.int v :: st)) : Go p l e R s m args below meth c n0 C N Q Z a0 EL hh0 SF h ce sl pc Ls (st) := by
  subst hq
  exact Go.step (fun T vm0 k0 locs target X hS _ S => XS.iload X.here hx rfl hd hl S) G
theorem Go.aloadN (hx : p.tables.exec = Jvm.exec) {k : Fin 4} {v : Value} (hd : decode c.code pc = .ok (.aload_n k, 1)) (hl : Ls[k.val]? = some (.val v)) (hv : v.isRef = true) (hq : q = pc + 1) (G : Go p l e R s m args below meth c n0 C N Q Z a0 EL hh0 SF h ce sl q Ls (v :: st)) : Go p l e R s m args below meth c n0 C N Q Z a0 EL hh0 SF h ce sl pc Ls (st) := by
  subst hq
  exact Go.step (fun T vm0 k0 locs target X hS _ S => XS.aloadN X.here hx rfl hd hl hv S) G
theorem Go.aload (hx : p.tables.exec = Jvm.exec) {k : Nat} {v : Value} (hd : decode c.code pc = .ok (.aload k, 2)) (hl : Ls[k]? = some (.val v)) (hv : v.isRef = true) (hq : q = pc + 2) (G : Go p l e R s m args below meth c n0 C N Q Z a0 EL hh0 SF h ce sl q Ls (v :: st)) : Go p l e R s m args below meth c n0 C N Q Z a0 EL hh0 SF h ce sl pc Ls (st) := by
  subst hq
  exact Go.step (fun T vm0 k0 locs target X hS _ S => XS.aload X.here hx rfl hd hl hv S) G
theorem Go.lloadN (hx : p.tables.exec = Jvm.exec) {k : Fin 4} {v : Int64} (hd : decode c.code pc = .ok (.lload_n k, 1)) (hl : Ls[k.val]? = some (.val (.long v))) (hq : q = pc + 1) (G : Go p l e R s m args below meth c n0 C N Q Z a0 EL hh0 SF h ce sl q Ls (.long v :: st)) : Go p l e R s m args below meth c n0 C N Q Z a0 EL hh0 SF h ce sl pc Ls (st) := by
  subst hq
  exact Go.step (fun T vm0 k0 locs target X hS _ S => XT.lloadN X.here hx rfl hd hl S) G
theorem Go.lload (hx : p.tables.exec = Jvm.exec) {k : Nat} {v : Int64} (hd : decode c.code pc = .ok (.lload k, 2)) (hl : Ls[k]? = some (.val (.long v))) (hq : q = pc + 2) (G : Go p l e R s m args below meth c n0 C N Q Z a0 EL hh0 SF h ce sl q Ls (.long v :: st)) : Go p l e R s m args below meth c n0 C N Q Z a0 EL hh0 SF h ce sl pc Ls (st) := by
  subst hq
  exact Go.step (fun T vm0 k0 locs target X hS _ S => XT.lload X.here hx rfl hd hl S) G
theorem Go.istoreN (hx : p.tables.exec = Jvm.exec) {k : Fin 4} {x : Int32} {l' : Array Slot} (hd : decode c.code pc = .ok (.istore_n k, 1)) (hl : storeLocals Ls k.val (.int x) = some l') (hq : q = pc + 1) (G : Go p l e R s m args below meth c n0 C N Q Z a0 EL hh0 SF h ce sl q l' (st)) : Go p l e R s m args below meth c n0 C N Q Z a0 EL hh0 SF h ce sl pc Ls (.int x :: st) := by
  subst hq
  exact Go.step (fun T vm0 k0 locs target X hS _ S => XS.istoreN X.here hx rfl hd rfl hl S) G
theorem Go.istore (hx : p.tables.exec = Jvm.exec) {k : Nat} {x : Int32} {l' : Array Slot} (hd : decode c.code pc = .ok (.istore k, 2)) (hl : storeLocals Ls k (.int x) = some l') (hq : q = pc + 2) (G : Go p l e R s m args below meth c n0 C N Q Z a0 EL hh0 SF h ce sl q l' (st)) : Go p l e R s m args below meth c n0 C N Q Z a0 EL hh0 SF h ce sl pc Ls (.int x :: st) := by
  subst hq
  exact Go.step (fun T vm0 k0 locs target X hS _ S => XS.istore X.here hx rfl hd rfl hl S) G
theorem Go.lstoreN (hx : p.tables.exec = Jvm.exec) {k : Fin 4} {x : Int64} {l' : Array Slot} (hd : decode c.code pc = .ok (.lstore_n k, 1)) (hl : storeLocals Ls k.val (.long x) = some l') (hq : q = pc + 1) (G : Go p l e R s m args below meth c n0 C N Q Z a0 EL hh0 SF h ce sl q l' (st)) : Go p l e R s m args below meth c n0 C N Q Z a0 EL hh0 SF h ce sl pc Ls (.long x :: st) := by
  subst hq
  exact Go.step (fun T vm0 k0 locs target X hS _ S => XT.lstoreN X.here hx rfl hd rfl hl S) G
theorem Go.lstore (hx : p.tables.exec = Jvm.exec) {k : Nat} {x : Int64} {l' : Array Slot} (hd : decode c.code pc = .ok (.lstore k, 2)) (hl : storeLocals Ls k (.long x) = some l') (hq : q = pc + 2) (G : Go p l e R s m args below meth c n0 C N Q Z a0 EL hh0 SF h ce sl q l' (st)) : Go p l e R s m args below meth c n0 C N Q Z a0 EL hh0 SF h ce sl pc Ls (.long x :: st) := by
  subst hq
  exact Go.step (fun T vm0 k0 locs target X hS _ S => XT.lstore X.here hx rfl hd rfl hl S) G
theorem Go.astoreN (hx : p.tables.exec = Jvm.exec) {k : Fin 4} {x : Value} {l' : Array Slot} (hd : decode c.code pc = .ok (.astore_n k, 1)) (hv : x.isRef = true) (hl : storeLocals Ls k.val x = some l') (hq : q = pc + 1) (G : Go p l e R s m args below meth c n0 C N Q Z a0 EL hh0 SF h ce sl q l' (st)) : Go p l e R s m args below meth c n0 C N Q Z a0 EL hh0 SF h ce sl pc Ls (x :: st) := by
  subst hq
  exact Go.step (fun T vm0 k0 locs target X hS _ S => XS.astoreN X.here hx rfl hd rfl hv hl S) G
theorem Go.astore (hx : p.tables.exec = Jvm.exec) {k : Nat} {x : Value} {l' : Array Slot} (hd : decode c.code pc = .ok (.astore k, 2)) (hv : x.isRef = true) (hl : storeLocals Ls k x = some l') (hq : q = pc + 2) (G : Go p l e R s m args below meth c n0 C N Q Z a0 EL hh0 SF h ce sl q l' (st)) : Go p l e R s m args below meth c n0 C N Q Z a0 EL hh0 SF h ce sl pc Ls (x :: st) := by
  subst hq
  exact Go.step (fun T vm0 k0 locs target X hS _ S => XS.astore X.here hx rfl hd rfl hv hl S) G
theorem Go.iinc (hx : p.tables.exec = Jvm.exec) {k : Nat} {cst : Int} {x : Int32} {l' : Array Slot} (hd : decode c.code pc = .ok (.iinc k cst, 3)) (hl : Ls[k]? = some (.val (.int x))) (hl' : storeLocals Ls k (.int (x + Int32.ofInt cst)) = some l') (hq : q = pc + 3) (G : Go p l e R s m args below meth c n0 C N Q Z a0 EL hh0 SF h ce sl q l' (st)) : Go p l e R s m args below meth c n0 C N Q Z a0 EL hh0 SF h ce sl pc Ls (st) := by
  subst hq
  exact Go.step (fun T vm0 k0 locs target X hS _ S => XS.iinc X.here hx rfl hd hl hl' S) G
theorem Go.iconst (hx : p.tables.exec = Jvm.exec) {i : Int} {z : Int32} (hd : decode c.code pc = .ok (.iconst i, 1)) (hz : Int32.ofInt i = z) (hq : q = pc + 1) (G : Go p l e R s m args below meth c n0 C N Q Z a0 EL hh0 SF h ce sl q Ls (.int z :: st)) : Go p l e R s m args below meth c n0 C N Q Z a0 EL hh0 SF h ce sl pc Ls (st) := by
  subst hq
  exact Go.step (fun T vm0 k0 locs target X hS _ S => XS.iconst X.here hx rfl hd (by rw [hz]; exact S)) G
theorem Go.bipush (hx : p.tables.exec = Jvm.exec) {i : Int} {z : Int32} (hd : decode c.code pc = .ok (.bipush i, 2)) (hz : (Int8.ofInt i).toInt32 = z) (hq : q = pc + 2) (G : Go p l e R s m args below meth c n0 C N Q Z a0 EL hh0 SF h ce sl q Ls (.int z :: st)) : Go p l e R s m args below meth c n0 C N Q Z a0 EL hh0 SF h ce sl pc Ls (st) := by
  subst hq
  exact Go.step (fun T vm0 k0 locs target X hS _ S => XS.bipush X.here hx rfl hd (by rw [hz]; exact S)) G
theorem Go.sipush (hx : p.tables.exec = Jvm.exec) {i : Int} {z : Int32} (hd : decode c.code pc = .ok (.sipush i, 3)) (hz : (Int16.ofInt i).toInt32 = z) (hq : q = pc + 3) (G : Go p l e R s m args below meth c n0 C N Q Z a0 EL hh0 SF h ce sl q Ls (.int z :: st)) : Go p l e R s m args below meth c n0 C N Q Z a0 EL hh0 SF h ce sl pc Ls (st) := by
  subst hq
  exact Go.step (fun T vm0 k0 locs target X hS _ S => XS.sipush X.here hx rfl hd (by rw [hz]; exact S)) G
theorem Go.aconstNull (hx : p.tables.exec = Jvm.exec)  (hd : decode c.code pc = .ok (.aconst_null, 1))  (hq : q = pc + 1) (G : Go p l e R s m args below meth c n0 C N Q Z a0 EL hh0 SF h ce sl q Ls (.null :: st)) : Go p l e R s m args below meth c n0 C N Q Z a0 EL hh0 SF h ce sl pc Ls (st) := by
  subst hq
  exact Go.step (fun T vm0 k0 locs target X hS _ S => XS.aconstNull X.here hx rfl hd S) G
theorem Go.lconst (hx : p.tables.exec = Jvm.exec) {k : Fin 2} {z : Int64} (hd : decode c.code pc = .ok (.lconst k, 1)) (hz : Int64.ofNat k = z) (hq : q = pc + 1) (G : Go p l e R s m args below meth c n0 C N Q Z a0 EL hh0 SF h ce sl q Ls (.long z :: st)) : Go p l e R s m args below meth c n0 C N Q Z a0 EL hh0 SF h ce sl pc Ls (st) := by
  subst hq
  exact Go.step (fun T vm0 k0 locs target X hS _ S => XT.lconst X.here hx rfl hd (by rw [hz]; exact S)) G
theorem Go.ldcInt (hx : p.tables.exec = Jvm.exec) (hZ : Z.Warmed39 s.vm) {own : String} {index : Nat} {v : Int32} (hown : s.vm.findClass own = some m.cls) (hw : (Cond.constant own index v).before a0 Z = true) (hd : decode c.code pc = .ok (.ldc index, 2)) (hq : q = pc + 2) (G : Go p l e R s m args below meth c n0 C N Q Z a0 EL hh0 SF h ce sl q Ls (.int v :: st)) : Go p l e R s m args below meth c n0 C N Q Z a0 EL hh0 SF h ce sl pc Ls st := by
  subst hq
  exact Go.step (fun T vm0 k0 locs target X hS _ S => X.ldcInt hx (wO hown hS) (mvT (wZ hZ hS) hw) (g := mkF m pc Ls st) rfl hd target S) G
theorem Go.ldc2Long (hx : p.tables.exec = Jvm.exec) (hZ : Z.Warmed39 s.vm) {own : String} {index : Nat} {v : Int64} (hown : s.vm.findClass own = some m.cls) (hw : (Cond.constantLong own index v).before a0 Z = true) (hd : decode c.code pc = .ok (.ldc2_w index, 3)) (hq : q = pc + 3) (G : Go p l e R s m args below meth c n0 C N Q Z a0 EL hh0 SF h ce sl q Ls (.long v :: st)) : Go p l e R s m args below meth c n0 C N Q Z a0 EL hh0 SF h ce sl pc Ls st := by
  subst hq
  exact Go.step (fun T vm0 k0 locs target X hS _ S => X.ldc2Long hx (wO hown hS) (mvT (wZ hZ hS) hw) (g := mkF m pc Ls st) rfl hd target S) G
theorem Go.iadd (hx : p.tables.exec = Jvm.exec) {x y : Int32} (hd : decode c.code pc = .ok (.iadd, 1))  (hq : q = pc + 1) (G : Go p l e R s m args below meth c n0 C N Q Z a0 EL hh0 SF h ce sl q Ls (.int (x + y) :: st)) : Go p l e R s m args below meth c n0 C N Q Z a0 EL hh0 SF h ce sl pc Ls (.int y :: .int x :: st) := by
  subst hq
  exact Go.step (fun T vm0 k0 locs target X hS _ S => XS.iadd X.here hx rfl hd rfl S) G
theorem Go.isub (hx : p.tables.exec = Jvm.exec) {x y : Int32} (hd : decode c.code pc = .ok (.isub, 1))  (hq : q = pc + 1) (G : Go p l e R s m args below meth c n0 C N Q Z a0 EL hh0 SF h ce sl q Ls (.int (x - y) :: st)) : Go p l e R s m args below meth c n0 C N Q Z a0 EL hh0 SF h ce sl pc Ls (.int y :: .int x :: st) := by
  subst hq
  exact Go.step (fun T vm0 k0 locs target X hS _ S => XS.isub X.here hx rfl hd rfl S) G
theorem Go.iand (hx : p.tables.exec = Jvm.exec) {x y : Int32} (hd : decode c.code pc = .ok (.iand, 1))  (hq : q = pc + 1) (G : Go p l e R s m args below meth c n0 C N Q Z a0 EL hh0 SF h ce sl q Ls (.int (x &&& y) :: st)) : Go p l e R s m args below meth c n0 C N Q Z a0 EL hh0 SF h ce sl pc Ls (.int y :: .int x :: st) := by
  subst hq
  exact Go.step (fun T vm0 k0 locs target X hS _ S => XS.iand X.here hx rfl hd rfl S) G
theorem Go.imul (hx : p.tables.exec = Jvm.exec) {x y : Int32} (hd : decode c.code pc = .ok (.imul, 1))  (hq : q = pc + 1) (G : Go p l e R s m args below meth c n0 C N Q Z a0 EL hh0 SF h ce sl q Ls (.int (x * y) :: st)) : Go p l e R s m args below meth c n0 C N Q Z a0 EL hh0 SF h ce sl pc Ls (.int y :: .int x :: st) := by
  subst hq
  exact Go.step (fun T vm0 k0 locs target X hS _ S => XS.imul X.here hx rfl hd rfl S) G
theorem Go.idiv (hx : p.tables.exec = Jvm.exec) {x y : Int32} (hd : decode c.code pc = .ok (.idiv, 1)) (hy : y ≠ 0) (hq : q = pc + 1) (G : Go p l e R s m args below meth c n0 C N Q Z a0 EL hh0 SF h ce sl q Ls (.int (x / y) :: st)) : Go p l e R s m args below meth c n0 C N Q Z a0 EL hh0 SF h ce sl pc Ls (.int y :: .int x :: st) := by
  subst hq
  exact Go.step (fun T vm0 k0 locs target X hS _ S => XS.idiv X.here hx rfl hd rfl hy S) G
theorem Go.irem (hx : p.tables.exec = Jvm.exec) {x y : Int32} (hd : decode c.code pc = .ok (.irem, 1)) (hy : y ≠ 0) (hq : q = pc + 1) (G : Go p l e R s m args below meth c n0 C N Q Z a0 EL hh0 SF h ce sl q Ls (.int (x % y) :: st)) : Go p l e R s m args below meth c n0 C N Q Z a0 EL hh0 SF h ce sl pc Ls (.int y :: .int x :: st) := by
  subst hq
  exact Go.step (fun T vm0 k0 locs target X hS _ S => iremM X hx rfl hd rfl hy S) G
theorem Go.ineg (hx : p.tables.exec = Jvm.exec) {x : Int32} (hd : decode c.code pc = .ok (.ineg, 1))  (hq : q = pc + 1) (G : Go p l e R s m args below meth c n0 C N Q Z a0 EL hh0 SF h ce sl q Ls (.int (-x) :: st)) : Go p l e R s m args below meth c n0 C N Q Z a0 EL hh0 SF h ce sl pc Ls (.int x :: st) := by
  subst hq
  exact Go.step (fun T vm0 k0 locs target X hS _ S => XS.ineg X.here hx rfl hd rfl S) G
theorem Go.ixor (hx : p.tables.exec = Jvm.exec) {x y : Int32} (hd : decode c.code pc = .ok (.ixor, 1))  (hq : q = pc + 1) (G : Go p l e R s m args below meth c n0 C N Q Z a0 EL hh0 SF h ce sl q Ls (.int (x ^^^ y) :: st)) : Go p l e R s m args below meth c n0 C N Q Z a0 EL hh0 SF h ce sl pc Ls (.int y :: .int x :: st) := by
  subst hq
  exact Go.step (fun T vm0 k0 locs target X hS _ S => XT.ixor X.here hx rfl hd rfl S) G
theorem Go.ior (hx : p.tables.exec = Jvm.exec) {x y : Int32} (hd : decode c.code pc = .ok (.ior, 1))  (hq : q = pc + 1) (G : Go p l e R s m args below meth c n0 C N Q Z a0 EL hh0 SF h ce sl q Ls (.int (x ||| y) :: st)) : Go p l e R s m args below meth c n0 C N Q Z a0 EL hh0 SF h ce sl pc Ls (.int y :: .int x :: st) := by
  subst hq
  exact Go.step (fun T vm0 k0 locs target X hS _ S => XT.ior X.here hx rfl hd rfl S) G
theorem Go.ishl (hx : p.tables.exec = Jvm.exec) {x y : Int32} (hd : decode c.code pc = .ok (.ishl, 1))  (hq : q = pc + 1) (G : Go p l e R s m args below meth c n0 C N Q Z a0 EL hh0 SF h ce sl q Ls (.int (x <<< (y &&& 31)) :: st)) : Go p l e R s m args below meth c n0 C N Q Z a0 EL hh0 SF h ce sl pc Ls (.int y :: .int x :: st) := by
  subst hq
  exact Go.step (fun T vm0 k0 locs target X hS _ S => XT.ishl X.here hx rfl hd rfl S) G
theorem Go.ishr (hx : p.tables.exec = Jvm.exec) {x y : Int32} (hd : decode c.code pc = .ok (.ishr, 1))  (hq : q = pc + 1) (G : Go p l e R s m args below meth c n0 C N Q Z a0 EL hh0 SF h ce sl q Ls (.int (x >>> (y &&& 31)) :: st)) : Go p l e R s m args below meth c n0 C N Q Z a0 EL hh0 SF h ce sl pc Ls (.int y :: .int x :: st) := by
  subst hq
  exact Go.step (fun T vm0 k0 locs target X hS _ S => XT.ishr X.here hx rfl hd rfl S) G
theorem Go.iushr (hx : p.tables.exec = Jvm.exec) {x y : Int32} (hd : decode c.code pc = .ok (.iushr, 1))  (hq : q = pc + 1) (G : Go p l e R s m args below meth c n0 C N Q Z a0 EL hh0 SF h ce sl q Ls (.int (XT.ushr x y) :: st)) : Go p l e R s m args below meth c n0 C N Q Z a0 EL hh0 SF h ce sl pc Ls (.int y :: .int x :: st) := by
  subst hq
  exact Go.step (fun T vm0 k0 locs target X hS _ S => XT.iushr X.here hx rfl hd rfl S) G
theorem Go.ladd (hx : p.tables.exec = Jvm.exec) {x y : Int64} (hd : decode c.code pc = .ok (.ladd, 1))  (hq : q = pc + 1) (G : Go p l e R s m args below meth c n0 C N Q Z a0 EL hh0 SF h ce sl q Ls (.long (x + y) :: st)) : Go p l e R s m args below meth c n0 C N Q Z a0 EL hh0 SF h ce sl pc Ls (.long y :: .long x :: st) := by
  subst hq
  exact Go.step (fun T vm0 k0 locs target X hS _ S => XT.ladd X.here hx rfl hd rfl S) G
theorem Go.lsub (hx : p.tables.exec = Jvm.exec) {x y : Int64} (hd : decode c.code pc = .ok (.lsub, 1))  (hq : q = pc + 1) (G : Go p l e R s m args below meth c n0 C N Q Z a0 EL hh0 SF h ce sl q Ls (.long (x - y) :: st)) : Go p l e R s m args below meth c n0 C N Q Z a0 EL hh0 SF h ce sl pc Ls (.long y :: .long x :: st) := by
  subst hq
  exact Go.step (fun T vm0 k0 locs target X hS _ S => XT.lsub X.here hx rfl hd rfl S) G
theorem Go.lmul (hx : p.tables.exec = Jvm.exec) {x y : Int64} (hd : decode c.code pc = .ok (.lmul, 1))  (hq : q = pc + 1) (G : Go p l e R s m args below meth c n0 C N Q Z a0 EL hh0 SF h ce sl q Ls (.long (x * y) :: st)) : Go p l e R s m args below meth c n0 C N Q Z a0 EL hh0 SF h ce sl pc Ls (.long y :: .long x :: st) := by
  subst hq
  exact Go.step (fun T vm0 k0 locs target X hS _ S => XT.lmul X.here hx rfl hd rfl S) G
theorem Go.land (hx : p.tables.exec = Jvm.exec) {x y : Int64} (hd : decode c.code pc = .ok (.land, 1))  (hq : q = pc + 1) (G : Go p l e R s m args below meth c n0 C N Q Z a0 EL hh0 SF h ce sl q Ls (.long (x &&& y) :: st)) : Go p l e R s m args below meth c n0 C N Q Z a0 EL hh0 SF h ce sl pc Ls (.long y :: .long x :: st) := by
  subst hq
  exact Go.step (fun T vm0 k0 locs target X hS _ S => XT.land X.here hx rfl hd rfl S) G
theorem Go.lor (hx : p.tables.exec = Jvm.exec) {x y : Int64} (hd : decode c.code pc = .ok (.lor, 1))  (hq : q = pc + 1) (G : Go p l e R s m args below meth c n0 C N Q Z a0 EL hh0 SF h ce sl q Ls (.long (x ||| y) :: st)) : Go p l e R s m args below meth c n0 C N Q Z a0 EL hh0 SF h ce sl pc Ls (.long y :: .long x :: st) := by
  subst hq
  exact Go.step (fun T vm0 k0 locs target X hS _ S => XT.lor X.here hx rfl hd rfl S) G
theorem Go.lxor (hx : p.tables.exec = Jvm.exec) {x y : Int64} (hd : decode c.code pc = .ok (.lxor, 1))  (hq : q = pc + 1) (G : Go p l e R s m args below meth c n0 C N Q Z a0 EL hh0 SF h ce sl q Ls (.long (x ^^^ y) :: st)) : Go p l e R s m args below meth c n0 C N Q Z a0 EL hh0 SF h ce sl pc Ls (.long y :: .long x :: st) := by
  subst hq
  exact Go.step (fun T vm0 k0 locs target X hS _ S => XT.lxor X.here hx rfl hd rfl S) G
theorem Go.lshl (hx : p.tables.exec = Jvm.exec) {x : Int64} {y : Int32} (hd : decode c.code pc = .ok (.lshl, 1))  (hq : q = pc + 1) (G : Go p l e R s m args below meth c n0 C N Q Z a0 EL hh0 SF h ce sl q Ls (.long (x <<< (y.toInt64 &&& 63)) :: st)) : Go p l e R s m args below meth c n0 C N Q Z a0 EL hh0 SF h ce sl pc Ls (.int y :: .long x :: st) := by
  subst hq
  exact Go.step (fun T vm0 k0 locs target X hS _ S => XT.lshl X.here hx rfl hd rfl S) G
theorem Go.lshr (hx : p.tables.exec = Jvm.exec) {x : Int64} {y : Int32} (hd : decode c.code pc = .ok (.lshr, 1))  (hq : q = pc + 1) (G : Go p l e R s m args below meth c n0 C N Q Z a0 EL hh0 SF h ce sl q Ls (.long (x >>> (y.toInt64 &&& 63)) :: st)) : Go p l e R s m args below meth c n0 C N Q Z a0 EL hh0 SF h ce sl pc Ls (.int y :: .long x :: st) := by
  subst hq
  exact Go.step (fun T vm0 k0 locs target X hS _ S => XT.lshr X.here hx rfl hd rfl S) G
theorem Go.lushr (hx : p.tables.exec = Jvm.exec) {x : Int64} {y : Int32} (hd : decode c.code pc = .ok (.lushr, 1))  (hq : q = pc + 1) (G : Go p l e R s m args below meth c n0 C N Q Z a0 EL hh0 SF h ce sl q Ls (.long (XT.ushrL x y) :: st)) : Go p l e R s m args below meth c n0 C N Q Z a0 EL hh0 SF h ce sl pc Ls (.int y :: .long x :: st) := by
  subst hq
  exact Go.step (fun T vm0 k0 locs target X hS _ S => XT.lushr X.here hx rfl hd rfl S) G
theorem Go.lrem (hx : p.tables.exec = Jvm.exec) {x y : Int64} (hd : decode c.code pc = .ok (.lrem, 1)) (hy : y ≠ 0) (hq : q = pc + 1) (G : Go p l e R s m args below meth c n0 C N Q Z a0 EL hh0 SF h ce sl q Ls (.long (x - (x / y) * y) :: st)) : Go p l e R s m args below meth c n0 C N Q Z a0 EL hh0 SF h ce sl pc Ls (.long y :: .long x :: st) := by
  subst hq
  exact Go.step (fun T vm0 k0 locs target X hS _ S => XT.lrem X.here hx rfl hd rfl hy S) G
theorem Go.ldiv (hx : p.tables.exec = Jvm.exec) {x y : Int64} (hd : decode c.code pc = .ok (.ldiv, 1)) (hy : y ≠ 0) (hq : q = pc + 1) (G : Go p l e R s m args below meth c n0 C N Q Z a0 EL hh0 SF h ce sl q Ls (.long (x / y) :: st)) : Go p l e R s m args below meth c n0 C N Q Z a0 EL hh0 SF h ce sl pc Ls (.long y :: .long x :: st) := by
  subst hq
  exact Go.step (fun T vm0 k0 locs target X hS _ S => XT.ldiv X.here hx rfl hd rfl hy S) G
theorem Go.lneg (hx : p.tables.exec = Jvm.exec) {x : Int64} (hd : decode c.code pc = .ok (.lneg, 1))  (hq : q = pc + 1) (G : Go p l e R s m args below meth c n0 C N Q Z a0 EL hh0 SF h ce sl q Ls (.long (-x) :: st)) : Go p l e R s m args below meth c n0 C N Q Z a0 EL hh0 SF h ce sl pc Ls (.long x :: st) := by
  subst hq
  exact Go.step (fun T vm0 k0 locs target X hS _ S => XT.lneg X.here hx rfl hd rfl S) G
theorem Go.lcmp (hx : p.tables.exec = Jvm.exec) {x y : Int64} (hd : decode c.code pc = .ok (.lcmp, 1))  (hq : q = pc + 1) (G : Go p l e R s m args below meth c n0 C N Q Z a0 EL hh0 SF h ce sl q Ls (.int (XT.cmpL x y) :: st)) : Go p l e R s m args below meth c n0 C N Q Z a0 EL hh0 SF h ce sl pc Ls (.long y :: .long x :: st) := by
  subst hq
  exact Go.step (fun T vm0 k0 locs target X hS _ S => XT.lcmp X.here hx rfl hd rfl S) G
theorem Go.i2l (hx : p.tables.exec = Jvm.exec) {x : Int32} (hd : decode c.code pc = .ok (.i2l, 1))  (hq : q = pc + 1) (G : Go p l e R s m args below meth c n0 C N Q Z a0 EL hh0 SF h ce sl q Ls (.long (x.toInt64) :: st)) : Go p l e R s m args below meth c n0 C N Q Z a0 EL hh0 SF h ce sl pc Ls (.int x :: st) := by
  subst hq
  exact Go.step (fun T vm0 k0 locs target X hS _ S => XT.i2l X.here hx rfl hd rfl S) G
theorem Go.l2i (hx : p.tables.exec = Jvm.exec) {x : Int64} (hd : decode c.code pc = .ok (.l2i, 1))  (hq : q = pc + 1) (G : Go p l e R s m args below meth c n0 C N Q Z a0 EL hh0 SF h ce sl q Ls (.int (x.toInt32) :: st)) : Go p l e R s m args below meth c n0 C N Q Z a0 EL hh0 SF h ce sl pc Ls (.long x :: st) := by
  subst hq
  exact Go.step (fun T vm0 k0 locs target X hS _ S => XT.l2i X.here hx rfl hd rfl S) G
theorem Go.i2b (hx : p.tables.exec = Jvm.exec) {x : Int32} (hd : decode c.code pc = .ok (.i2b, 1))  (hq : q = pc + 1) (G : Go p l e R s m args below meth c n0 C N Q Z a0 EL hh0 SF h ce sl q Ls (.int (x.toInt8.toInt32) :: st)) : Go p l e R s m args below meth c n0 C N Q Z a0 EL hh0 SF h ce sl pc Ls (.int x :: st) := by
  subst hq
  exact Go.step (fun T vm0 k0 locs target X hS _ S => XT.i2b X.here hx rfl hd rfl S) G
theorem Go.i2c (hx : p.tables.exec = Jvm.exec) {x : Int32} (hd : decode c.code pc = .ok (.i2c, 1))  (hq : q = pc + 1) (G : Go p l e R s m args below meth c n0 C N Q Z a0 EL hh0 SF h ce sl q Ls (.int (x.toUInt32.toUInt16.toUInt32.toInt32) :: st)) : Go p l e R s m args below meth c n0 C N Q Z a0 EL hh0 SF h ce sl pc Ls (.int x :: st) := by
  subst hq
  exact Go.step (fun T vm0 k0 locs target X hS _ S => XT.i2c X.here hx rfl hd rfl S) G
theorem Go.i2s (hx : p.tables.exec = Jvm.exec) {x : Int32} (hd : decode c.code pc = .ok (.i2s, 1))  (hq : q = pc + 1) (G : Go p l e R s m args below meth c n0 C N Q Z a0 EL hh0 SF h ce sl q Ls (.int (x.toInt16.toInt32) :: st)) : Go p l e R s m args below meth c n0 C N Q Z a0 EL hh0 SF h ce sl pc Ls (.int x :: st) := by
  subst hq
  exact Go.step (fun T vm0 k0 locs target X hS _ S => XT.i2s X.here hx rfl hd rfl S) G
theorem Go.dup (hx : p.tables.exec = Jvm.exec) {x : Value} (hd : decode c.code pc = .ok (.dup, 1)) (hc : x.category = 1) (hq : q = pc + 1) (G : Go p l e R s m args below meth c n0 C N Q Z a0 EL hh0 SF h ce sl q Ls (x :: x :: st)) : Go p l e R s m args below meth c n0 C N Q Z a0 EL hh0 SF h ce sl pc Ls (x :: st) := by
  subst hq
  exact Go.step (fun T vm0 k0 locs target X hS _ S => XS.dup X.here hx rfl hd rfl hc S) G
theorem Go.pop (hx : p.tables.exec = Jvm.exec) {x : Value} (hd : decode c.code pc = .ok (.pop, 1)) (hc : x.category = 1) (hq : q = pc + 1) (G : Go p l e R s m args below meth c n0 C N Q Z a0 EL hh0 SF h ce sl q Ls (st)) : Go p l e R s m args below meth c n0 C N Q Z a0 EL hh0 SF h ce sl pc Ls (x :: st) := by
  subst hq
  exact Go.step (fun T vm0 k0 locs target X hS _ S => XT.pop X.here hx rfl hd rfl hc S) G
theorem Go.dupX1 (hx : p.tables.exec = Jvm.exec) {x y : Value} (hd : decode c.code pc = .ok (.dup_x1, 1)) (hc : x.category = 1) (hc' : y.category = 1) (hq : q = pc + 1) (G : Go p l e R s m args below meth c n0 C N Q Z a0 EL hh0 SF h ce sl q Ls (x :: y :: x :: st)) : Go p l e R s m args below meth c n0 C N Q Z a0 EL hh0 SF h ce sl pc Ls (x :: y :: st) := by
  subst hq
  exact Go.step (fun T vm0 k0 locs target X hS _ S => XT.dupX1 X.here hx rfl hd rfl hc hc' S) G
theorem Go.dup2 (hx : p.tables.exec = Jvm.exec) {x y : Value} (hd : decode c.code pc = .ok (.dup2, 1)) (hc : x.category = 1) (hc' : y.category = 1) (hq : q = pc + 1) (G : Go p l e R s m args below meth c n0 C N Q Z a0 EL hh0 SF h ce sl q Ls (x :: y :: x :: y :: st)) : Go p l e R s m args below meth c n0 C N Q Z a0 EL hh0 SF h ce sl pc Ls (x :: y :: st) := by
  subst hq
  exact Go.step (fun T vm0 k0 locs target X hS _ S => XT.dup2 X.here hx rfl hd rfl hc hc' S) G
theorem Go.dup2L (hx : p.tables.exec = Jvm.exec) {x : Int64} (hd : decode c.code pc = .ok (.dup2, 1))  (hq : q = pc + 1) (G : Go p l e R s m args below meth c n0 C N Q Z a0 EL hh0 SF h ce sl q Ls (.long x :: .long x :: st)) : Go p l e R s m args below meth c n0 C N Q Z a0 EL hh0 SF h ce sl pc Ls (.long x :: st) := by
  subst hq
  exact Go.step (fun T vm0 k0 locs target X hS _ S => XT.dup2L X.here hx rfl hd rfl S) G
theorem Go.goto (hx : p.tables.exec = Jvm.exec) {o : Int} (hd : decode c.code pc = .ok (.goto o, 3)) (ho : 0 ≤ (pc : Int) + o) (hq : ((pc : Int) + o).toNat = q) (G : Go p l e R s m args below meth c n0 C N Q Z a0 EL hh0 SF h ce sl q Ls st) : Go p l e R s m args below meth c n0 C N Q Z a0 EL hh0 SF h ce sl pc Ls st :=
  Go.step (fun T vm0 k0 locs target X hS _ S => XS.goto X.here hx rfl rfl hd ho hq S) G
theorem Go.icmp_eq (hx : p.tables.exec = Jvm.exec) {x y : Int32} {o : Int} {t : Nat} (hd : decode c.code pc = .ok (.if_icmp .eq o, 3)) (ho : 0 ≤ (pc : Int) + o) (ht : ((pc : Int) + o).toNat = t) (hq : q = pc + 3) (Gt : x = y → Go p l e R s m args below meth c n0 C N Q Z a0 EL hh0 SF h ce sl t Ls st) (Gf : ¬ x = y → Go p l e R s m args below meth c n0 C N Q Z a0 EL hh0 SF h ce sl q Ls st) : Go p l e R s m args below meth c n0 C N Q Z a0 EL hh0 SF h ce sl pc Ls (.int y :: .int x :: st) := by
  subst hq
  by_cases hc : x = y
  · exact Go.step (fun T vm0 k0 locs target X hS _ S => XS.icmpYes X.here hx rfl rfl hd rfl (teq hc).1 ho ht S) (Gt hc)
  · exact Go.step (fun T vm0 k0 locs target X hS _ S => XS.icmpNo X.here hx rfl hd rfl (feq hc).1 S) (Gf hc)
theorem Go.if_eq (hx : p.tables.exec = Jvm.exec) {x : Int32} {o : Int} {t : Nat} (hd : decode c.code pc = .ok (.ifCond .eq o, 3)) (ho : 0 ≤ (pc : Int) + o) (ht : ((pc : Int) + o).toNat = t) (hq : q = pc + 3) (Gt : x = 0 → Go p l e R s m args below meth c n0 C N Q Z a0 EL hh0 SF h ce sl t Ls st) (Gf : ¬ x = 0 → Go p l e R s m args below meth c n0 C N Q Z a0 EL hh0 SF h ce sl q Ls st) : Go p l e R s m args below meth c n0 C N Q Z a0 EL hh0 SF h ce sl pc Ls (.int x :: st) := by
  subst hq
  by_cases hc : x = 0
  · exact Go.step (fun T vm0 k0 locs target X hS _ S => XS.ifYes X.here hx rfl rfl hd rfl ((if0 _ _).trans (teq hc).1) ho ht S) (Gt hc)
  · exact Go.step (fun T vm0 k0 locs target X hS _ S => XS.ifNo X.here hx rfl hd rfl ((if0 _ _).trans (feq hc).1) S) (Gf hc)
theorem Go.icmp_ne (hx : p.tables.exec = Jvm.exec) {x y : Int32} {o : Int} {t : Nat} (hd : decode c.code pc = .ok (.if_icmp .ne o, 3)) (ho : 0 ≤ (pc : Int) + o) (ht : ((pc : Int) + o).toNat = t) (hq : q = pc + 3) (Gt : ¬ x = y → Go p l e R s m args below meth c n0 C N Q Z a0 EL hh0 SF h ce sl t Ls st) (Gf : x = y → Go p l e R s m args below meth c n0 C N Q Z a0 EL hh0 SF h ce sl q Ls st) : Go p l e R s m args below meth c n0 C N Q Z a0 EL hh0 SF h ce sl pc Ls (.int y :: .int x :: st) := by
  subst hq
  by_cases hc : x = y
  · exact Go.step (fun T vm0 k0 locs target X hS _ S => XS.icmpNo X.here hx rfl hd rfl (teq hc).2 S) (Gf hc)
  · exact Go.step (fun T vm0 k0 locs target X hS _ S => XS.icmpYes X.here hx rfl rfl hd rfl (feq hc).2 ho ht S) (Gt hc)
theorem Go.if_ne (hx : p.tables.exec = Jvm.exec) {x : Int32} {o : Int} {t : Nat} (hd : decode c.code pc = .ok (.ifCond .ne o, 3)) (ho : 0 ≤ (pc : Int) + o) (ht : ((pc : Int) + o).toNat = t) (hq : q = pc + 3) (Gt : ¬ x = 0 → Go p l e R s m args below meth c n0 C N Q Z a0 EL hh0 SF h ce sl t Ls st) (Gf : x = 0 → Go p l e R s m args below meth c n0 C N Q Z a0 EL hh0 SF h ce sl q Ls st) : Go p l e R s m args below meth c n0 C N Q Z a0 EL hh0 SF h ce sl pc Ls (.int x :: st) := by
  subst hq
  by_cases hc : x = 0
  · exact Go.step (fun T vm0 k0 locs target X hS _ S => XS.ifNo X.here hx rfl hd rfl ((if0 _ _).trans (teq hc).2) S) (Gf hc)
  · exact Go.step (fun T vm0 k0 locs target X hS _ S => XS.ifYes X.here hx rfl rfl hd rfl ((if0 _ _).trans (feq hc).2) ho ht S) (Gt hc)
theorem Go.icmp_lt (hx : p.tables.exec = Jvm.exec) {x y : Int32} {o : Int} {t : Nat} (hd : decode c.code pc = .ok (.if_icmp .lt o, 3)) (ho : 0 ≤ (pc : Int) + o) (ht : ((pc : Int) + o).toNat = t) (hq : q = pc + 3) (Gt : x < y → Go p l e R s m args below meth c n0 C N Q Z a0 EL hh0 SF h ce sl t Ls st) (Gf : ¬ x < y → Go p l e R s m args below meth c n0 C N Q Z a0 EL hh0 SF h ce sl q Ls st) : Go p l e R s m args below meth c n0 C N Q Z a0 EL hh0 SF h ce sl pc Ls (.int y :: .int x :: st) := by
  subst hq
  by_cases hc : x < y
  · exact Go.step (fun T vm0 k0 locs target X hS _ S => XS.icmpYes X.here hx rfl rfl hd rfl (tlt hc).1 ho ht S) (Gt hc)
  · exact Go.step (fun T vm0 k0 locs target X hS _ S => XS.icmpNo X.here hx rfl hd rfl (flt hc).1 S) (Gf hc)
theorem Go.if_lt (hx : p.tables.exec = Jvm.exec) {x : Int32} {o : Int} {t : Nat} (hd : decode c.code pc = .ok (.ifCond .lt o, 3)) (ho : 0 ≤ (pc : Int) + o) (ht : ((pc : Int) + o).toNat = t) (hq : q = pc + 3) (Gt : x < 0 → Go p l e R s m args below meth c n0 C N Q Z a0 EL hh0 SF h ce sl t Ls st) (Gf : ¬ x < 0 → Go p l e R s m args below meth c n0 C N Q Z a0 EL hh0 SF h ce sl q Ls st) : Go p l e R s m args below meth c n0 C N Q Z a0 EL hh0 SF h ce sl pc Ls (.int x :: st) := by
  subst hq
  by_cases hc : x < 0
  · exact Go.step (fun T vm0 k0 locs target X hS _ S => XS.ifYes X.here hx rfl rfl hd rfl ((if0 _ _).trans (tlt hc).1) ho ht S) (Gt hc)
  · exact Go.step (fun T vm0 k0 locs target X hS _ S => XS.ifNo X.here hx rfl hd rfl ((if0 _ _).trans (flt hc).1) S) (Gf hc)
theorem Go.icmp_ge (hx : p.tables.exec = Jvm.exec) {x y : Int32} {o : Int} {t : Nat} (hd : decode c.code pc = .ok (.if_icmp .ge o, 3)) (ho : 0 ≤ (pc : Int) + o) (ht : ((pc : Int) + o).toNat = t) (hq : q = pc + 3) (Gt : ¬ x < y → Go p l e R s m args below meth c n0 C N Q Z a0 EL hh0 SF h ce sl t Ls st) (Gf : x < y → Go p l e R s m args below meth c n0 C N Q Z a0 EL hh0 SF h ce sl q Ls st) : Go p l e R s m args below meth c n0 C N Q Z a0 EL hh0 SF h ce sl pc Ls (.int y :: .int x :: st) := by
  subst hq
  by_cases hc : x < y
  · exact Go.step (fun T vm0 k0 locs target X hS _ S => XS.icmpNo X.here hx rfl hd rfl (tlt hc).2.1 S) (Gf hc)
  · exact Go.step (fun T vm0 k0 locs target X hS _ S => XS.icmpYes X.here hx rfl rfl hd rfl (flt hc).2.1 ho ht S) (Gt hc)
theorem Go.if_ge (hx : p.tables.exec = Jvm.exec) {x : Int32} {o : Int} {t : Nat} (hd : decode c.code pc = .ok (.ifCond .ge o, 3)) (ho : 0 ≤ (pc : Int) + o) (ht : ((pc : Int) + o).toNat = t) (hq : q = pc + 3) (Gt : ¬ x < 0 → Go p l e R s m args below meth c n0 C N Q Z a0 EL hh0 SF h ce sl t Ls st) (Gf : x < 0 → Go p l e R s m args below meth c n0 C N Q Z a0 EL hh0 SF h ce sl q Ls st) : Go p l e R s m args below meth c n0 C N Q Z a0 EL hh0 SF h ce sl pc Ls (.int x :: st) := by
  subst hq
  by_cases hc : x < 0
  · exact Go.step (fun T vm0 k0 locs target X hS _ S => XS.ifNo X.here hx rfl hd rfl ((if0 _ _).trans (tlt hc).2.1) S) (Gf hc)
  · exact Go.step (fun T vm0 k0 locs target X hS _ S => XS.ifYes X.here hx rfl rfl hd rfl ((if0 _ _).trans (flt hc).2.1) ho ht S) (Gt hc)
theorem Go.icmp_gt (hx : p.tables.exec = Jvm.exec) {x y : Int32} {o : Int} {t : Nat} (hd : decode c.code pc = .ok (.if_icmp .gt o, 3)) (ho : 0 ≤ (pc : Int) + o) (ht : ((pc : Int) + o).toNat = t) (hq : q = pc + 3) (Gt : y < x → Go p l e R s m args below meth c n0 C N Q Z a0 EL hh0 SF h ce sl t Ls st) (Gf : ¬ y < x → Go p l e R s m args below meth c n0 C N Q Z a0 EL hh0 SF h ce sl q Ls st) : Go p l e R s m args below meth c n0 C N Q Z a0 EL hh0 SF h ce sl pc Ls (.int y :: .int x :: st) := by
  subst hq
  by_cases hc : y < x
  · exact Go.step (fun T vm0 k0 locs target X hS _ S => XS.icmpYes X.here hx rfl rfl hd rfl (tlt hc).2.2.1 ho ht S) (Gt hc)
  · exact Go.step (fun T vm0 k0 locs target X hS _ S => XS.icmpNo X.here hx rfl hd rfl (flt hc).2.2.1 S) (Gf hc)
theorem Go.if_gt (hx : p.tables.exec = Jvm.exec) {x : Int32} {o : Int} {t : Nat} (hd : decode c.code pc = .ok (.ifCond .gt o, 3)) (ho : 0 ≤ (pc : Int) + o) (ht : ((pc : Int) + o).toNat = t) (hq : q = pc + 3) (Gt : 0 < x → Go p l e R s m args below meth c n0 C N Q Z a0 EL hh0 SF h ce sl t Ls st) (Gf : ¬ 0 < x → Go p l e R s m args below meth c n0 C N Q Z a0 EL hh0 SF h ce sl q Ls st) : Go p l e R s m args below meth c n0 C N Q Z a0 EL hh0 SF h ce sl pc Ls (.int x :: st) := by
  subst hq
  by_cases hc : 0 < x
  · exact Go.step (fun T vm0 k0 locs target X hS _ S => XS.ifYes X.here hx rfl rfl hd rfl ((if0 _ _).trans (tlt hc).2.2.1) ho ht S) (Gt hc)
  · exact Go.step (fun T vm0 k0 locs target X hS _ S => XS.ifNo X.here hx rfl hd rfl ((if0 _ _).trans (flt hc).2.2.1) S) (Gf hc)
theorem Go.icmp_le (hx : p.tables.exec = Jvm.exec) {x y : Int32} {o : Int} {t : Nat} (hd : decode c.code pc = .ok (.if_icmp .le o, 3)) (ho : 0 ≤ (pc : Int) + o) (ht : ((pc : Int) + o).toNat = t) (hq : q = pc + 3) (Gt : ¬ y < x → Go p l e R s m args below meth c n0 C N Q Z a0 EL hh0 SF h ce sl t Ls st) (Gf : y < x → Go p l e R s m args below meth c n0 C N Q Z a0 EL hh0 SF h ce sl q Ls st) : Go p l e R s m args below meth c n0 C N Q Z a0 EL hh0 SF h ce sl pc Ls (.int y :: .int x :: st) := by
  subst hq
  by_cases hc : y < x
  · exact Go.step (fun T vm0 k0 locs target X hS _ S => XS.icmpNo X.here hx rfl hd rfl (tlt hc).2.2.2 S) (Gf hc)
  · exact Go.step (fun T vm0 k0 locs target X hS _ S => XS.icmpYes X.here hx rfl rfl hd rfl (flt hc).2.2.2 ho ht S) (Gt hc)
theorem Go.if_le (hx : p.tables.exec = Jvm.exec) {x : Int32} {o : Int} {t : Nat} (hd : decode c.code pc = .ok (.ifCond .le o, 3)) (ho : 0 ≤ (pc : Int) + o) (ht : ((pc : Int) + o).toNat = t) (hq : q = pc + 3) (Gt : ¬ 0 < x → Go p l e R s m args below meth c n0 C N Q Z a0 EL hh0 SF h ce sl t Ls st) (Gf : 0 < x → Go p l e R s m args below meth c n0 C N Q Z a0 EL hh0 SF h ce sl q Ls st) : Go p l e R s m args below meth c n0 C N Q Z a0 EL hh0 SF h ce sl pc Ls (.int x :: st) := by
  subst hq
  by_cases hc : 0 < x
  · exact Go.step (fun T vm0 k0 locs target X hS _ S => XS.ifNo X.here hx rfl hd rfl ((if0 _ _).trans (tlt hc).2.2.2) S) (Gf hc)
  · exact Go.step (fun T vm0 k0 locs target X hS _ S => XS.ifYes X.here hx rfl rfl hd rfl ((if0 _ _).trans (flt hc).2.2.2) ho ht S) (Gt hc)
theorem Go.ifnullT (hx : p.tables.exec = Jvm.exec) {b : Addr} {o : Int} {t : Nat} (hd : decode c.code pc = .ok (.ifnull o, 3)) (ho : 0 ≤ (pc : Int) + o) (ht : ((pc : Int) + o).toNat = t) (G : Go p l e R s m args below meth c n0 C N Q Z a0 EL hh0 SF h ce sl t Ls st) : Go p l e R s m args below meth c n0 C N Q Z a0 EL hh0 SF h ce sl pc Ls (.null :: st) :=
  Go.step (fun T vm0 k0 locs target X hS _ S => XS.ifnullYes X.here hx rfl rfl hd rfl ho ht S) G
theorem Go.ifnullF (hx : p.tables.exec = Jvm.exec) {b : Addr} {o : Int} (hd : decode c.code pc = .ok (.ifnull o, 3)) (hq : q = pc + 3) (G : Go p l e R s m args below meth c n0 C N Q Z a0 EL hh0 SF h ce sl q Ls st) : Go p l e R s m args below meth c n0 C N Q Z a0 EL hh0 SF h ce sl pc Ls (.ref b :: st) := by
  subst hq
  exact Go.step (fun T vm0 k0 locs target X hS _ S => XS.ifnullNo X.here hx rfl hd rfl S) G
theorem Go.ifnonnullT (hx : p.tables.exec = Jvm.exec) {b : Addr} {o : Int} {t : Nat} (hd : decode c.code pc = .ok (.ifnonnull o, 3)) (ho : 0 ≤ (pc : Int) + o) (ht : ((pc : Int) + o).toNat = t) (G : Go p l e R s m args below meth c n0 C N Q Z a0 EL hh0 SF h ce sl t Ls st) : Go p l e R s m args below meth c n0 C N Q Z a0 EL hh0 SF h ce sl pc Ls (.ref b :: st) :=
  Go.step (fun T vm0 k0 locs target X hS _ S => XT.ifnonnullYes X.here hx rfl rfl hd rfl ho ht S) G
theorem Go.ifnonnullF (hx : p.tables.exec = Jvm.exec) {b : Addr} {o : Int} (hd : decode c.code pc = .ok (.ifnonnull o, 3)) (hq : q = pc + 3) (G : Go p l e R s m args below meth c n0 C N Q Z a0 EL hh0 SF h ce sl q Ls st) : Go p l e R s m args below meth c n0 C N Q Z a0 EL hh0 SF h ce sl pc Ls (.null :: st) := by
  subst hq
  exact Go.step (fun T vm0 k0 locs target X hS _ S => XT.ifnonnullNo X.here hx rfl hd rfl S) G
theorem Go.acmp_eq (hx : p.tables.exec = Jvm.exec) {x y : Value} {o : Int} {t : Nat} (hvx : x.isRef = true) (hvy : y.isRef = true) (hd : decode c.code pc = .ok (.if_acmp .eq o, 3)) (ho : 0 ≤ (pc : Int) + o) (ht : ((pc : Int) + o).toNat = t) (hq : q = pc + 3) (Gt : x = y → Go p l e R s m args below meth c n0 C N Q Z a0 EL hh0 SF h ce sl t Ls st) (Gf : ¬ x = y → Go p l e R s m args below meth c n0 C N Q Z a0 EL hh0 SF h ce sl q Ls st) : Go p l e R s m args below meth c n0 C N Q Z a0 EL hh0 SF h ce sl pc Ls (y :: x :: st) := by
  subst hq
  by_cases hc : x = y
  · exact Go.step (fun T vm0 k0 locs target X hS _ S => XT.acmpYes X.here hx rfl rfl hd rfl hvx hvy (by simp [XT.acmp, hc]) ho ht S) (Gt hc)
  · exact Go.step (fun T vm0 k0 locs target X hS _ S => XT.acmpNo X.here hx rfl hd rfl hvx hvy (by simp [XT.acmp, hc]) S) (Gf hc)
theorem Go.acmp_ne (hx : p.tables.exec = Jvm.exec) {x y : Value} {o : Int} {t : Nat} (hvx : x.isRef = true) (hvy : y.isRef = true) (hd : decode c.code pc = .ok (.if_acmp .ne o, 3)) (ho : 0 ≤ (pc : Int) + o) (ht : ((pc : Int) + o).toNat = t) (hq : q = pc + 3) (Gt : ¬ x = y → Go p l e R s m args below meth c n0 C N Q Z a0 EL hh0 SF h ce sl t Ls st) (Gf : x = y → Go p l e R s m args below meth c n0 C N Q Z a0 EL hh0 SF h ce sl q Ls st) : Go p l e R s m args below meth c n0 C N Q Z a0 EL hh0 SF h ce sl pc Ls (y :: x :: st) := by
  subst hq
  by_cases hc : x = y
  · exact Go.step (fun T vm0 k0 locs target X hS _ S => XT.acmpNo X.here hx rfl hd rfl hvx hvy (by simp [XT.acmp, hc]) S) (Gf hc)
  · exact Go.step (fun T vm0 k0 locs target X hS _ S => XT.acmpYes X.here hx rfl rfl hd rfl hvx hvy (by simp [XT.acmp, hc]) ho ht S) (Gt hc)
theorem Go.retV (hx : p.tables.exec = Jvm.exec) {wv : Value} {t : FieldType} {i : Instr} (hret : meth.sig.returnType = some t) (hlk : meth.locks = false) (hn : narrow t wv = wv)
    (hi : (i = .ireturn ∧ (t = .int ∨ t = .boolean ∨ t = .byte ∨ t = .char ∨ t = .short) ∧ ∃ z, wv = .int z) ∨ (i = .lreturn ∧ t = .long ∧ ∃ z, wv = .long z) ∨ (i = .dreturn ∧ t = .double ∧ ∃ z, wv = .double z) ∨ (i = .freturn ∧ t = .float ∧ ∃ z, wv = .float z) ∨ (i = .areturn ∧ t.isReference = true ∧ wv.isRef = true))
    (hd : decode c.code pc = .ok (i, 1)) (hc : ce ≤ C) (hs : sl ≤ N) (hQ : Q (some wv) h) : Go p l e R s m args below meth c n0 C N Q Z a0 EL hh0 SF h ce sl pc Ls (wv :: st) := fun T vm0 locs k0 hz hel X hS hk hC hF Nf eT => by
  obtain ⟨fs, hr, hrun, hended, hRW⟩ := X.leaveW hS (by rw [eT]; exact hk) (v := some wv) (fun hh => by rw [hret] at hh; cases hh)
  refine ⟨_, _, _, retOut X hx hret hn hi hd hr, hrun, hended, ⟨?_, Nf⟩, ?_, hRW.1, hRW.2.1, hRW.2.2.1, hRW.2.2.2.mono hc hs⟩
  · show Q _ T.heap
    rw [eT]; exact hQ
  · show CHr Z EL s.vm hh0 T.vm T.heap
    rw [eT]; exact hC.trans (CHv.at X (wZ hz hS) hel hC.1)
theorem Go.retI (hx : p.tables.exec = Jvm.exec) {z : Int32} (hret : meth.sig.returnType = some .int) (hlk : meth.locks = false) (hd : decode c.code pc = .ok (.ireturn, 1)) (hc : ce ≤ C) (hs : sl ≤ N) (hQ : Q (some (.int z)) h) : Go p l e R s m args below meth c n0 C N Q Z a0 EL hh0 SF h ce sl pc Ls (.int z :: st) :=
  Go.retV hx hret hlk rfl (Or.inl ⟨rfl, Or.inl rfl, _, rfl⟩) hd hc hs hQ
theorem Go.retL (hx : p.tables.exec = Jvm.exec) {z : Int64} (hret : meth.sig.returnType = some .long) (hlk : meth.locks = false) (hd : decode c.code pc = .ok (.lreturn, 1)) (hc : ce ≤ C) (hs : sl ≤ N) (hQ : Q (some (.long z)) h) : Go p l e R s m args below meth c n0 C N Q Z a0 EL hh0 SF h ce sl pc Ls (.long z :: st) :=
  Go.retV hx hret hlk rfl (Or.inr (Or.inl ⟨rfl, rfl, _, rfl⟩)) hd hc hs hQ
theorem Go.retA (hx : p.tables.exec = Jvm.exec) {wv : Value} {t : FieldType} (hret : meth.sig.returnType = some t) (ht : t.isReference = true) (hv : wv.isRef = true) (hlk : meth.locks = false) (hd : decode c.code pc = .ok (.areturn, 1)) (hc : ce ≤ C) (hs : sl ≤ N) (hQ : Q (some wv) h) : Go p l e R s m args below meth c n0 C N Q Z a0 EL hh0 SF h ce sl pc Ls (wv :: st) :=
  Go.retV hx hret hlk (by cases wv <;> cases t <;> simp_all [Value.isRef, FieldType.isReference, narrow]) (Or.inr (Or.inr (Or.inr (Or.inr ⟨rfl, ht, hv⟩)))) hd hc hs hQ
theorem Go.retN (hx : p.tables.exec = Jvm.exec) {z : Int32} {t : FieldType} (hret : meth.sig.returnType = some t) (ht : t = .boolean ∨ t = .byte ∨ t = .char ∨ t = .short) (hlk : meth.locks = false) (hd : decode c.code pc = .ok (.ireturn, 1)) (hc : ce ≤ C) (hs : sl ≤ N) (hQ : Q (some (.int (nar t z))) h) : Go p l e R s m args below meth c n0 C N Q Z a0 EL hh0 SF h ce sl pc Ls (.int z :: st) := fun T vm0 locs k0 hz hel X hS hk hC hF Nf eT => by
  obtain ⟨fs, hr, hrun, hended, hRW⟩ := X.leaveW hS (by rw [eT]; exact hk) (v := some (.int (nar t z))) (fun hh => by rw [hret] at hh; cases hh)
  refine ⟨_, _, _, Jvm.RoadKit.retN X hx hret ht hd hr, hrun, hended, ⟨?_, Nf⟩, ?_, hRW.1, hRW.2.1, hRW.2.2.1, hRW.2.2.2.mono hc hs⟩
  · show Q _ T.heap
    rw [eT]; exact hQ
  · show CHr Z EL s.vm hh0 T.vm T.heap
    rw [eT]; exact hC.trans (CHv.at X (wZ hz hS) hel hC.1)
theorem Go.ret0 (hx : p.tables.exec = Jvm.exec) (hret : meth.sig.returnType = none) (hlk : meth.locks = false) (hd : decode c.code pc = .ok (.return_, 1)) (hc : ce ≤ C) (hs : sl ≤ N) (hQ : Q none h) : Go p l e R s m args below meth c n0 C N Q Z a0 EL hh0 SF h ce sl pc Ls [] := fun T vm0 locs k0 hz hel X hS hk hC hF Nf eT => by
  obtain ⟨fs, hr, hrun, hended, hRW⟩ := X.leaveW hS (by rw [eT]; exact hk) (v := none) (fun _ => rfl)
  refine ⟨_, _, _, X.returnOut hx hret hd hr, hrun, hended, ⟨?_, Nf⟩, ?_, hRW.1, hRW.2.1, hRW.2.2.1, hRW.2.2.2.mono hc hs⟩
  · show Q _ T.heap
    rw [eT]; exact hQ
  · show CHr Z EL s.vm hh0 T.vm T.heap
    rw [eT]; exact hC.trans (CHv.at X (wZ hz hS) hel hC.1)
theorem Go.getF (hx : p.tables.exec = Jvm.exec) (hZ : Z.Warmed39 s.vm) {own R0 O n d host : String} {index : Nat} (hown : s.vm.findClass own = some m.cls) (hw : (Cond.fieldLink own index R0 n d).before a0 Z = true ∨ (Cond.fieldLinkNest own index R0 n d host).before a0 Z = true) (via : Via Z R0 O n d) {a : Addr} {v : Value} (F : Fld Z h a O n d v) (hd : decode c.code pc = .ok (.getfield index, 3)) (hq : q = pc + 3) (G : Go p l e R s m args below meth c n0 C N Q Z a0 EL hh0 SF h ce sl q Ls (v :: st)) : Go p l e R s m args below meth c n0 C N Q Z a0 EL hh0 SF h ce sl pc Ls (.ref a :: st) := by
  subst hq
  exact Go.law (fun T vm0 k0 locs X hS eT => Jvm.RoadKit.getF X hx (wZ hZ hS) (wO hown hS) hw via eT F (g := mkF m pc Ls (.ref a :: st)) rfl rfl hd) G
theorem Go.getS (hx : p.tables.exec = Jvm.exec) (hZ : Z.Warmed39 s.vm) {own R0 O n d host : String} {index : Nat} (hown : s.vm.findClass own = some m.cls) (hw : (Cond.fieldLink own index R0 n d).before a0 Z = true ∨ (Cond.fieldLinkNest own index R0 n d host).before a0 Z = true) (via : Via Z R0 O n d) {v : Value} (F : Sta Z h O n d v) (hd : decode c.code pc = .ok (.getstatic index, 3)) (hq : q = pc + 3) (G : Go p l e R s m args below meth c n0 C N Q Z a0 EL hh0 SF h ce sl q Ls (v :: st)) : Go p l e R s m args below meth c n0 C N Q Z a0 EL hh0 SF h ce sl pc Ls st := by
  subst hq
  exact Go.law (fun T vm0 k0 locs X hS eT => Jvm.RoadKit.getS2 (host := host) X hx (wZ hZ hS) (wO hown hS) hw via eT F (g := mkF m pc Ls st) rfl hd) G
theorem Go.putF (hx : p.tables.exec = Jvm.exec) (hZ : Z.Warmed39 s.vm) {own R0 O n d host C' : String} {index kk : Nat} {ty : FieldType} (hown : s.vm.findClass own = some m.cls) (hw : (Cond.fieldLink own index R0 n d).before a0 Z = true ∨ (Cond.fieldLinkNest own index R0 n d host).before a0 Z = true) (via : Via Z R0 O n d) {a : Addr} {v old : Value} (F : Fld Z h a O n d old) (E : Exa Z h a C') (L : (Cond.lays C' O n d).before a0 Z = true ∨ ((Cond.laysFinal C' O n d).before a0 Z = true ∧ own = O ∧ meth.name = "<init>")) (wi : (Cond.instantiable C' kk).before a0 Z = true)
    (hty : parseFieldDescriptor d = some ty) (hn : narrow ty v = v) (hf : fits ty v = true) (ha : n0 ≤ a) (hsf : a ∈ SF) (hd : decode c.code pc = .ok (.putfield index, 3)) (hq : q = pc + 3) (G : ∀ h', Wr h h' a (Jvm.RoadKit.slotOf Z O n d) v → Go p l e R s m args below meth c n0 C N Q Z a0 EL hh0 SF h' ce sl q Ls st) : Go p l e R s m args below meth c n0 C N Q Z a0 EL hh0 SF h ce sl pc Ls (v :: .ref a :: st) := fun T vm0 locs k0 hz hel X hS hk hC hF Nf eT => by
  subst hq
  obtain ⟨T', h', X', eT', W, hs⟩ := Jvm.RoadKit.putF X hx (wZ hZ hS) (wO hown hS) hw via eT F E L wi hty hn hf (g := mkF m pc Ls (v :: .ref a :: st)) rfl rfl hd
  obtain ⟨s₂, v', L', S, r⟩ := G h' W T' vm0 _ k0 hz hel X' hS (by rw [W.size]; exact hk) (hC.trans (CHr.wr W (hF a hsf).2 hC.1)) (sf_wr hC.1 W hsf hF) (Fr.snoc X' Nf ha) eT'
  exact ⟨s₂, v', L', hs _ S, r⟩
theorem Go.newO (hx : p.tables.exec = Jvm.exec) (hZ : Z.Warmed39 s.vm) {own C' : String} {index n ce' sl' : Nat} (hown : s.vm.findClass own = some m.cls) (w1 : (Cond.classLink own index C').before a0 Z = true) (wi : (Cond.instantiable C' n).before a0 Z = true) (wz : (Cond.initialized C').before a0 Z = true) (hd : decode c.code pc = .ok (.new index, 3)) (hq : q = pc + 3) (hce : ce + 1 = ce') (hsl : sl + n = sl') (hc : ce' ≤ R.cells) (hl : sl' ≤ R.slots)
    (G : ∀ (h' : Heap) (a : Addr), a = h.size → Ext h h' → Exa Z h' a C' → (∀ {O nm d : String} {ty : FieldType}, Laid Z a0 C' O nm d → parseFieldDescriptor d = some ty → Fld Z h' a O nm d (defaultValue ty)) → Go p l e R s m args below meth c n0 C N Q Z a0 EL hh0 (a :: SF) h' ce' sl' q Ls (.ref a :: st)) : Go p l e R s m args below meth c n0 C N Q Z a0 EL hh0 SF h ce sl pc Ls st := fun T vm0 locs k0 hz hel X hS hk hC hF Nf eT => by
  subst hq hce hsl
  obtain ⟨T', h', X', eT', E, A, D, -, hs⟩ := Jvm.RoadKit.newO X hx (wZ hZ hS) (wO hown hS) w1 wi wz eT (g := mkF m pc Ls st) rfl hd hc hl
  obtain ⟨s₂, v', L', S, r⟩ := G h' _ rfl E A D T' vm0 _ k0 hz hel X' hS (Nat.le_trans hk E.1) (hC.trans (CHr.ext E hC.1)) (sf_ext hC.1 E hF rfl A.lt) Nf eT'
  exact ⟨s₂, v', L', hs _ S, r⟩
theorem Go.newP (hx : p.tables.exec = Jvm.exec) (hZ : Z.Warmed39 s.vm) {aty : ArrayType} {cap ce' sl' : Nat} (wa : (Cond.arrayClass (newarray.typeOf aty)).before a0 Z = true) {n : Int32} (hn : ¬ n < 0) (hcap : n.toNatClampNeg ≤ cap) (hd : decode c.code pc = .ok (.newarray aty, 2)) (hq : q = pc + 2) (hb : cap * 8 ≤ 536870912) (hce : ce + 1 = ce') (hsl : sl + cap = sl') (hc : ce' ≤ R.cells) (hl : sl' ≤ R.slots)
    (G : ∀ (h' : Heap) (a : Addr) (k : ClassId), a = h.size → Ext h h' → Arv Z h' a k (newarray.typeOf aty) n [] (defaultValue (newarray.typeOf aty)) → Go p l e R s m args below meth c n0 C N Q Z a0 EL hh0 (a :: SF) h' ce' sl' q Ls (.ref a :: st)) : Go p l e R s m args below meth c n0 C N Q Z a0 EL hh0 SF h ce sl pc Ls (.int n :: st) := fun T vm0 locs k0 hz hel X hS hk hC hF Nf eT => by
  subst hq hce hsl
  obtain ⟨T', h', k, X', eT', E, A, hs⟩ := Jvm.RoadKit.newP X hx (wZ hZ hS) wa eT (g := mkF m pc Ls (.int n :: st)) rfl hd rfl hn hcap hb hc hl
  obtain ⟨s₂, v', L', S, r⟩ := G h' _ k rfl E (Arv.new A hn) T' vm0 _ k0 hz hel X' hS (Nat.le_trans hk E.1) (hC.trans (CHr.ext E hC.1)) (sf_ext hC.1 E hF rfl A.lt) Nf eT'
  exact ⟨s₂, v', L', hs _ S, r⟩
theorem Go.newR (hx : p.tables.exec = Jvm.exec) (hZ : Z.Warmed39 s.vm) {own C' : String} {index cap ce' sl' : Nat} (hown : s.vm.findClass own = some m.cls) (w1 : (Cond.classLink own index C').before a0 Z = true) (w2 : (Cond.arrayOver (.object C')).before a0 Z = true) {n : Int32} (hn : ¬ n < 0) (hcap : n.toNatClampNeg ≤ cap) (hd : decode c.code pc = .ok (.anewarray index, 3)) (hq : q = pc + 3) (hb : cap * 8 ≤ 536870912) (hce : ce + 1 = ce') (hsl : sl + cap = sl') (hc : ce' ≤ R.cells) (hl : sl' ≤ R.slots)
    (G : ∀ (h' : Heap) (a : Addr) (k : ClassId), a = h.size → Ext h h' → Arv Z h' a k (.object C') n [] .null → Ovr Z k C' → Go p l e R s m args below meth c n0 C N Q Z a0 EL hh0 (a :: SF) h' ce' sl' q Ls (.ref a :: st)) : Go p l e R s m args below meth c n0 C N Q Z a0 EL hh0 SF h ce sl pc Ls (.int n :: st) := fun T vm0 locs k0 hz hel X hS hk hC hF Nf eT => by
  subst hq hce hsl
  obtain ⟨T', h', k, X', eT', E, A, O, hs⟩ := Jvm.RoadKit.newR X hx (wZ hZ hS) (wO hown hS) w1 w2 eT (g := mkF m pc Ls (.int n :: st)) rfl hd rfl hn hcap hb hc hl
  obtain ⟨s₂, v', L', S, r⟩ := G h' _ k rfl E (Arv.new A hn) O T' vm0 _ k0 hz hel X' hS (Nat.le_trans hk E.1) (hC.trans (CHr.ext E hC.1)) (sf_ext hC.1 E hF rfl A.lt) Nf eT'
  exact ⟨s₂, v', L', hs _ S, r⟩
theorem Go.initO (hx : p.tables.exec = Jvm.exec) (hZ : Z.Warmed39 s.vm) {own : String} {idx : Nat} (hown : s.vm.findClass own = some m.cls) (w1 : (Cond.methodLink own idx Lib.objectInit).before a0 Z = true) (w2 : (Cond.instanceMethod Lib.objectInit).before a0 Z = true) (w3 : (Cond.code Lib.objectInit ⟨#[0xb1]⟩ 1 none).before a0 Z = true) (hsize : Ls.size = c.maxLocals) {a : Addr} (hd : decode c.code pc = .ok (.invokespecial idx, 3)) (hq : q = pc + 3) (hf : 1 ≤ R.frames) (hl : (st.map fun v => v.category).sum + 12 ≤ R.locals) (G : Go p l e R s m args below meth c n0 C N Q Z a0 EL hh0 SF h ce sl q Ls st) : Go p l e R s m args below meth c n0 C N Q Z a0 EL hh0 SF h ce sl pc Ls (.ref a :: st) := by
  subst hq
  exact Go.law (fun T vm0 k0 locs X hS eT => Jvm.RoadKit.initO X hx (wZ hZ hS) (wO hown hS) w1 w2 w3 eT (g := mkF m pc Ls (.ref a :: st)) rfl hsize rfl hd hf (W := (st.map fun v => v.category).sum) (by show 2 * 0 + _ ≤ _; omega) hl) G
theorem Go.castY (hx : p.tables.exec = Jvm.exec) (hZ : Z.Warmed39 s.vm) {own K : String} {index : Nat} (hown : s.vm.findClass own = some m.cls) (w1 : (Cond.classLink own index K).before a0 Z = true) {a : Addr} (F : Ins Z h a K true) (hd : decode c.code pc = .ok (.checkcast index, 3)) (hq : q = pc + 3) (G : Go p l e R s m args below meth c n0 C N Q Z a0 EL hh0 SF h ce sl q Ls (.ref a :: st)) : Go p l e R s m args below meth c n0 C N Q Z a0 EL hh0 SF h ce sl pc Ls (.ref a :: st) := by
  subst hq
  exact Go.law (fun T vm0 k0 locs X hS eT => Jvm.RoadKit.castY X hx (wZ hZ hS) (wO hown hS) w1 eT F (g := mkF m pc Ls (.ref a :: st)) rfl rfl hd) G
theorem Go.instY (hx : p.tables.exec = Jvm.exec) (hZ : Z.Warmed39 s.vm) {own K : String} {index : Nat} (hown : s.vm.findClass own = some m.cls) (w1 : (Cond.classLink own index K).before a0 Z = true) {a : Addr} (F : Ins Z h a K true) (hd : decode c.code pc = .ok (.instanceof index, 3)) (hq : q = pc + 3) (G : Go p l e R s m args below meth c n0 C N Q Z a0 EL hh0 SF h ce sl q Ls (.int 1 :: st)) : Go p l e R s m args below meth c n0 C N Q Z a0 EL hh0 SF h ce sl pc Ls (.ref a :: st) := by
  subst hq
  exact Go.law (fun T vm0 k0 locs X hS eT => Jvm.RoadKit.instY X hx (wZ hZ hS) (wO hown hS) w1 eT F (g := mkF m pc Ls (.ref a :: st)) rfl rfl hd) G
theorem Go.alen (hx : p.tables.exec = Jvm.exec) (hZ : Z.Warmed39 s.vm) {a : Addr} {k : ClassId} {ty : FieldType} {n : Int32} {vs : List Value} {dv : Value} (A : Arv Z h a k ty n vs dv) (hd : decode c.code pc = .ok (.arraylength, 1)) (hq : q = pc + 1) (G : Go p l e R s m args below meth c n0 C N Q Z a0 EL hh0 SF h ce sl q Ls (.int n :: st)) : Go p l e R s m args below meth c n0 C N Q Z a0 EL hh0 SF h ce sl pc Ls (.ref a :: st) := by
  subst hq
  obtain ⟨cl, Ar, q1, S1, N1, H1, F1⟩ := A
  refine Go.step (fun T vm0 k0 locs target X hS eT S => X.arraylength hx (by rw [eT]; exact Ar.1) (State.isArrayOf_alike (wZ hZ hS).alike Ar.2.1) (g := mkF m pc Ls (.ref a :: st)) rfl rfl hd target ?_) G
  rw [len_of S1 N1]; exact S
theorem Go.baload (hx : p.tables.exec = Jvm.exec) (hZ : Z.Warmed39 s.vm) {a : Addr} {k : ClassId} {n j : Int32} {vs : List Value} {dv v : Value} (A : Arv Z h a k .byte n vs dv) (hj : ¬ j < 0 ∧ j < n) (hv : vs.getD j.toNatClampNeg dv = v) (hd : decode c.code pc = .ok (.baload, 1)) (hq : q = pc + 1) (G : Go p l e R s m args below meth c n0 C N Q Z a0 EL hh0 SF h ce sl q Ls (v :: st)) : Go p l e R s m args below meth c n0 C N Q Z a0 EL hh0 SF h ce sl pc Ls (.int j :: .ref a :: st) := by
  subst hq
  obtain ⟨cl, Ar, q1, S1, N1, H1, F1⟩ := A
  exact Go.step (fun T vm0 k0 locs target X hS eT S => X.baloadBytes hx (by rw [eT]; exact Ar.1) (State.isArrayOf_alike (wZ hZ hS).alike Ar.2.1) Ar.2.2 (inb_of S1 hj) (H1.at (inb_of S1 hj) hv) (g := mkF m pc Ls (.int j :: .ref a :: st)) rfl rfl hd target S) G
theorem Go.zaload (hx : p.tables.exec = Jvm.exec) (hZ : Z.Warmed39 s.vm) {a : Addr} {k : ClassId} {n j : Int32} {vs : List Value} {dv v : Value} (A : Arv Z h a k .boolean n vs dv) (hj : ¬ j < 0 ∧ j < n) (hv : vs.getD j.toNatClampNeg dv = v) (hd : decode c.code pc = .ok (.baload, 1)) (hq : q = pc + 1) (G : Go p l e R s m args below meth c n0 C N Q Z a0 EL hh0 SF h ce sl q Ls (v :: st)) : Go p l e R s m args below meth c n0 C N Q Z a0 EL hh0 SF h ce sl pc Ls (.int j :: .ref a :: st) := by
  subst hq
  obtain ⟨cl, Ar, q1, S1, N1, H1, F1⟩ := A
  exact Go.step (fun T vm0 k0 locs target X hS eT S => X.baloadBooleans hx (by rw [eT]; exact Ar.1) (State.isArrayOf_alike (wZ hZ hS).alike Ar.2.1) Ar.2.2 (inb_of S1 hj) (H1.at (inb_of S1 hj) hv) (g := mkF m pc Ls (.int j :: .ref a :: st)) rfl rfl hd target S) G
theorem Go.caload (hx : p.tables.exec = Jvm.exec) (hZ : Z.Warmed39 s.vm) {a : Addr} {k : ClassId} {n j : Int32} {vs : List Value} {dv v : Value} (A : Arv Z h a k .char n vs dv) (hj : ¬ j < 0 ∧ j < n) (hv : vs.getD j.toNatClampNeg dv = v) (hd : decode c.code pc = .ok (.caload, 1)) (hq : q = pc + 1) (G : Go p l e R s m args below meth c n0 C N Q Z a0 EL hh0 SF h ce sl q Ls (v :: st)) : Go p l e R s m args below meth c n0 C N Q Z a0 EL hh0 SF h ce sl pc Ls (.int j :: .ref a :: st) := by
  subst hq
  obtain ⟨cl, Ar, q1, S1, N1, H1, F1⟩ := A
  exact Go.step (fun T vm0 k0 locs target X hS eT S => X.caload hx (by rw [eT]; exact Ar.1) (State.isArrayOf_alike (wZ hZ hS).alike Ar.2.1) Ar.2.2 (inb_of S1 hj) (H1.at (inb_of S1 hj) hv) (g := mkF m pc Ls (.int j :: .ref a :: st)) rfl rfl hd target S) G
theorem Go.saload (hx : p.tables.exec = Jvm.exec) (hZ : Z.Warmed39 s.vm) {a : Addr} {k : ClassId} {n j : Int32} {vs : List Value} {dv v : Value} (A : Arv Z h a k .short n vs dv) (hj : ¬ j < 0 ∧ j < n) (hv : vs.getD j.toNatClampNeg dv = v) (hd : decode c.code pc = .ok (.saload, 1)) (hq : q = pc + 1) (G : Go p l e R s m args below meth c n0 C N Q Z a0 EL hh0 SF h ce sl q Ls (v :: st)) : Go p l e R s m args below meth c n0 C N Q Z a0 EL hh0 SF h ce sl pc Ls (.int j :: .ref a :: st) := by
  subst hq
  obtain ⟨cl, Ar, q1, S1, N1, H1, F1⟩ := A
  exact Go.step (fun T vm0 k0 locs target X hS eT S => X.saload hx (by rw [eT]; exact Ar.1) (State.isArrayOf_alike (wZ hZ hS).alike Ar.2.1) Ar.2.2 (inb_of S1 hj) (H1.at (inb_of S1 hj) hv) (g := mkF m pc Ls (.int j :: .ref a :: st)) rfl rfl hd target S) G
theorem Go.iaload (hx : p.tables.exec = Jvm.exec) (hZ : Z.Warmed39 s.vm) {a : Addr} {k : ClassId} {n j : Int32} {vs : List Value} {dv v : Value} (A : Arv Z h a k .int n vs dv) (hj : ¬ j < 0 ∧ j < n) (hv : vs.getD j.toNatClampNeg dv = v) (hd : decode c.code pc = .ok (.iaload, 1)) (hq : q = pc + 1) (G : Go p l e R s m args below meth c n0 C N Q Z a0 EL hh0 SF h ce sl q Ls (v :: st)) : Go p l e R s m args below meth c n0 C N Q Z a0 EL hh0 SF h ce sl pc Ls (.int j :: .ref a :: st) := by
  subst hq
  obtain ⟨cl, Ar, q1, S1, N1, H1, F1⟩ := A
  exact Go.step (fun T vm0 k0 locs target X hS eT S => X.iaload hx (by rw [eT]; exact Ar.1) (State.isArrayOf_alike (wZ hZ hS).alike Ar.2.1) Ar.2.2 (inb_of S1 hj) (H1.at (inb_of S1 hj) hv) (g := mkF m pc Ls (.int j :: .ref a :: st)) rfl rfl hd target S) G
theorem Go.laload (hx : p.tables.exec = Jvm.exec) (hZ : Z.Warmed39 s.vm) {a : Addr} {k : ClassId} {n j : Int32} {vs : List Value} {dv v : Value} (A : Arv Z h a k .long n vs dv) (hj : ¬ j < 0 ∧ j < n) (hv : vs.getD j.toNatClampNeg dv = v) (hd : decode c.code pc = .ok (.laload, 1)) (hq : q = pc + 1) (G : Go p l e R s m args below meth c n0 C N Q Z a0 EL hh0 SF h ce sl q Ls (v :: st)) : Go p l e R s m args below meth c n0 C N Q Z a0 EL hh0 SF h ce sl pc Ls (.int j :: .ref a :: st) := by
  subst hq
  obtain ⟨cl, Ar, q1, S1, N1, H1, F1⟩ := A
  exact Go.step (fun T vm0 k0 locs target X hS eT S => X.laload hx (by rw [eT]; exact Ar.1) (State.isArrayOf_alike (wZ hZ hS).alike Ar.2.1) Ar.2.2 (inb_of S1 hj) (H1.at (inb_of S1 hj) hv) (g := mkF m pc Ls (.int j :: .ref a :: st)) rfl rfl hd target S) G
theorem Go.aaload (hx : p.tables.exec = Jvm.exec) (hZ : Z.Warmed39 s.vm) {a : Addr} {k : ClassId} {ty : FieldType} {n j : Int32} {vs : List Value} {dv v : Value} (A : Arv Z h a k ty n vs dv) (hty : ty.isReference = true) (hj : ¬ j < 0 ∧ j < n) (hv : vs.getD j.toNatClampNeg dv = v) (hd : decode c.code pc = .ok (.aaload, 1)) (hq : q = pc + 1) (G : Go p l e R s m args below meth c n0 C N Q Z a0 EL hh0 SF h ce sl q Ls (v :: st)) : Go p l e R s m args below meth c n0 C N Q Z a0 EL hh0 SF h ce sl pc Ls (.int j :: .ref a :: st) := by
  subst hq
  obtain ⟨cl, Ar, q1, S1, N1, H1, F1⟩ := A
  exact Go.step (fun T vm0 k0 locs target X hS eT S => X.aaload hx (by rw [eT]; exact Ar.1) (State.isArrayOf_alike (wZ hZ hS).alike Ar.2.1) hty Ar.2.2 (inb_of S1 hj) (H1.at (inb_of S1 hj) hv) (g := mkF m pc Ls (.int j :: .ref a :: st)) rfl rfl hd target S) G
theorem Go.bastore (hx : p.tables.exec = Jvm.exec) (hZ : Z.Warmed39 s.vm) {a : Addr} {k : ClassId} {n j x : Int32} {vs : List Value} {dv : Value} (A : Arv Z h a k .byte n vs dv) (hj : ¬ j < 0 ∧ j < n) (i : Nat) (hi : j.toNatClampNeg = i) (hlen : i < vs.length) (ha : n0 ≤ a) (hsf : a ∈ SF) (hd : decode c.code pc = .ok (.bastore, 1)) (hq : q = pc + 1)
    (G : ∀ h', Wr h h' a j.toNatClampNeg (.int (nar .byte x)) → Arv Z h' a k .byte n (vs.set i (.int (nar .byte x))) dv → Go p l e R s m args below meth c n0 C N Q Z a0 EL hh0 SF h' ce sl q Ls st) : Go p l e R s m args below meth c n0 C N Q Z a0 EL hh0 SF h ce sl pc Ls (.int x :: .int j :: .ref a :: st) := fun T vm0 locs k0 hz hel X hS hk hC hF Nf eT => by
  subst hq
  obtain ⟨cl, Ar, q1, S1, N1, H1, F1⟩ := A
  obtain ⟨T', h', X', eT', W, hs⟩ := stB X hx (wZ hZ hS) eT Ar (inb_of S1 hj) (g := mkF m pc Ls (.int x :: .int j :: .ref a :: st)) rfl rfl hd
  obtain ⟨s₂, v', L', S, r⟩ := G h' W (Arv.set Ar q1 S1 N1 H1 F1 (fits_nar_byte _) W i hi hlen) T' vm0 _ k0 hz hel X' hS (by rw [W.size]; exact hk) (hC.trans (CHr.wr W (hF a hsf).2 hC.1)) (sf_wr hC.1 W hsf hF) (Fr.snoc X' Nf ha) eT'
  exact ⟨s₂, v', L', hs _ S, r⟩
theorem Go.zastore (hx : p.tables.exec = Jvm.exec) (hZ : Z.Warmed39 s.vm) {a : Addr} {k : ClassId} {n j x : Int32} {vs : List Value} {dv : Value} (A : Arv Z h a k .boolean n vs dv) (hj : ¬ j < 0 ∧ j < n) (i : Nat) (hi : j.toNatClampNeg = i) (hlen : i < vs.length) (ha : n0 ≤ a) (hsf : a ∈ SF) (hd : decode c.code pc = .ok (.bastore, 1)) (hq : q = pc + 1)
    (G : ∀ h', Wr h h' a j.toNatClampNeg (.int (nar .boolean x)) → Arv Z h' a k .boolean n (vs.set i (.int (nar .boolean x))) dv → Go p l e R s m args below meth c n0 C N Q Z a0 EL hh0 SF h' ce sl q Ls st) : Go p l e R s m args below meth c n0 C N Q Z a0 EL hh0 SF h ce sl pc Ls (.int x :: .int j :: .ref a :: st) := fun T vm0 locs k0 hz hel X hS hk hC hF Nf eT => by
  subst hq
  obtain ⟨cl, Ar, q1, S1, N1, H1, F1⟩ := A
  obtain ⟨T', h', X', eT', W, hs⟩ := stZ X hx (wZ hZ hS) eT Ar (inb_of S1 hj) (g := mkF m pc Ls (.int x :: .int j :: .ref a :: st)) rfl rfl hd
  obtain ⟨s₂, v', L', S, r⟩ := G h' W (Arv.set Ar q1 S1 N1 H1 F1 (fits_nar_bool _) W i hi hlen) T' vm0 _ k0 hz hel X' hS (by rw [W.size]; exact hk) (hC.trans (CHr.wr W (hF a hsf).2 hC.1)) (sf_wr hC.1 W hsf hF) (Fr.snoc X' Nf ha) eT'
  exact ⟨s₂, v', L', hs _ S, r⟩
theorem Go.castore (hx : p.tables.exec = Jvm.exec) (hZ : Z.Warmed39 s.vm) {a : Addr} {k : ClassId} {n j x : Int32} {vs : List Value} {dv : Value} (A : Arv Z h a k .char n vs dv) (hj : ¬ j < 0 ∧ j < n) (i : Nat) (hi : j.toNatClampNeg = i) (hlen : i < vs.length) (ha : n0 ≤ a) (hsf : a ∈ SF) (hd : decode c.code pc = .ok (.castore, 1)) (hq : q = pc + 1)
    (G : ∀ h', Wr h h' a j.toNatClampNeg (.int (nar .char x)) → Arv Z h' a k .char n (vs.set i (.int (nar .char x))) dv → Go p l e R s m args below meth c n0 C N Q Z a0 EL hh0 SF h' ce sl q Ls st) : Go p l e R s m args below meth c n0 C N Q Z a0 EL hh0 SF h ce sl pc Ls (.int x :: .int j :: .ref a :: st) := fun T vm0 locs k0 hz hel X hS hk hC hF Nf eT => by
  subst hq
  obtain ⟨cl, Ar, q1, S1, N1, H1, F1⟩ := A
  obtain ⟨T', h', X', eT', W, hs⟩ := stC X hx (wZ hZ hS) eT Ar (inb_of S1 hj) (g := mkF m pc Ls (.int x :: .int j :: .ref a :: st)) rfl rfl hd
  obtain ⟨s₂, v', L', S, r⟩ := G h' W (Arv.set Ar q1 S1 N1 H1 F1 (fits_nar_char _) W i hi hlen) T' vm0 _ k0 hz hel X' hS (by rw [W.size]; exact hk) (hC.trans (CHr.wr W (hF a hsf).2 hC.1)) (sf_wr hC.1 W hsf hF) (Fr.snoc X' Nf ha) eT'
  exact ⟨s₂, v', L', hs _ S, r⟩
theorem Go.sastore (hx : p.tables.exec = Jvm.exec) (hZ : Z.Warmed39 s.vm) {a : Addr} {k : ClassId} {n j x : Int32} {vs : List Value} {dv : Value} (A : Arv Z h a k .short n vs dv) (hj : ¬ j < 0 ∧ j < n) (i : Nat) (hi : j.toNatClampNeg = i) (hlen : i < vs.length) (ha : n0 ≤ a) (hsf : a ∈ SF) (hd : decode c.code pc = .ok (.sastore, 1)) (hq : q = pc + 1)
    (G : ∀ h', Wr h h' a j.toNatClampNeg (.int (nar .short x)) → Arv Z h' a k .short n (vs.set i (.int (nar .short x))) dv → Go p l e R s m args below meth c n0 C N Q Z a0 EL hh0 SF h' ce sl q Ls st) : Go p l e R s m args below meth c n0 C N Q Z a0 EL hh0 SF h ce sl pc Ls (.int x :: .int j :: .ref a :: st) := fun T vm0 locs k0 hz hel X hS hk hC hF Nf eT => by
  subst hq
  obtain ⟨cl, Ar, q1, S1, N1, H1, F1⟩ := A
  obtain ⟨T', h', X', eT', W, hs⟩ := stS X hx (wZ hZ hS) eT Ar (inb_of S1 hj) (g := mkF m pc Ls (.int x :: .int j :: .ref a :: st)) rfl rfl hd
  obtain ⟨s₂, v', L', S, r⟩ := G h' W (Arv.set Ar q1 S1 N1 H1 F1 (fits_nar_short _) W i hi hlen) T' vm0 _ k0 hz hel X' hS (by rw [W.size]; exact hk) (hC.trans (CHr.wr W (hF a hsf).2 hC.1)) (sf_wr hC.1 W hsf hF) (Fr.snoc X' Nf ha) eT'
  exact ⟨s₂, v', L', hs _ S, r⟩
theorem Go.iastore (hx : p.tables.exec = Jvm.exec) (hZ : Z.Warmed39 s.vm) {a : Addr} {k : ClassId} {n j x : Int32} {vs : List Value} {dv : Value} (A : Arv Z h a k .int n vs dv) (hj : ¬ j < 0 ∧ j < n) (i : Nat) (hi : j.toNatClampNeg = i) (hlen : i < vs.length) (ha : n0 ≤ a) (hsf : a ∈ SF) (hd : decode c.code pc = .ok (.iastore, 1)) (hq : q = pc + 1)
    (G : ∀ h', Wr h h' a j.toNatClampNeg (.int x) → Arv Z h' a k .int n (vs.set i (.int x)) dv → Go p l e R s m args below meth c n0 C N Q Z a0 EL hh0 SF h' ce sl q Ls st) : Go p l e R s m args below meth c n0 C N Q Z a0 EL hh0 SF h ce sl pc Ls (.int x :: .int j :: .ref a :: st) := fun T vm0 locs k0 hz hel X hS hk hC hF Nf eT => by
  subst hq
  obtain ⟨cl, Ar, q1, S1, N1, H1, F1⟩ := A
  obtain ⟨T', h', X', eT', W, hs⟩ := stI X hx (wZ hZ hS) eT Ar (inb_of S1 hj) (g := mkF m pc Ls (.int x :: .int j :: .ref a :: st)) rfl rfl hd
  obtain ⟨s₂, v', L', S, r⟩ := G h' W (Arv.set Ar q1 S1 N1 H1 F1 (rfl) W i hi hlen) T' vm0 _ k0 hz hel X' hS (by rw [W.size]; exact hk) (hC.trans (CHr.wr W (hF a hsf).2 hC.1)) (sf_wr hC.1 W hsf hF) (Fr.snoc X' Nf ha) eT'
  exact ⟨s₂, v', L', hs _ S, r⟩
theorem Go.aastore (hx : p.tables.exec = Jvm.exec) (hZ : Z.Warmed39 s.vm) {a : Addr} {k : ClassId} {C' : String} {n j : Int32} {x : Value} {vs : List Value} {dv : Value} (A : Arv Z h a k (.object C') n vs dv) (F : Sto Z h a x) (hxr : x.isRef = true) (hj : ¬ j < 0 ∧ j < n) (i : Nat) (hi : j.toNatClampNeg = i) (hlen : i < vs.length) (ha : n0 ≤ a) (hsf : a ∈ SF) (hd : decode c.code pc = .ok (.aastore, 1)) (hq : q = pc + 1)
    (G : ∀ h', Wr h h' a j.toNatClampNeg x → Arv Z h' a k (.object C') n (vs.set i x) dv → Go p l e R s m args below meth c n0 C N Q Z a0 EL hh0 SF h' ce sl q Ls st) : Go p l e R s m args below meth c n0 C N Q Z a0 EL hh0 SF h ce sl pc Ls (x :: .int j :: .ref a :: st) := fun T vm0 locs k0 hz hel X hS hk hC hF Nf eT => by
  subst hq
  obtain ⟨cl, Ar, q1, S1, N1, H1, F1⟩ := A
  obtain ⟨T', h', X', eT', W, hs⟩ := stR X hx (wZ hZ hS) eT Ar (inb_of S1 hj) rfl F (g := mkF m pc Ls (x :: .int j :: .ref a :: st)) rfl rfl hd
  obtain ⟨s₂, v', L', S, r⟩ := G h' W (Arv.set Ar q1 S1 N1 H1 F1 (by rcases ref_cases hxr with rfl | ⟨y, rfl⟩ <;> rfl) W i hi hlen) T' vm0 _ k0 hz hel X' hS (by rw [W.size]; exact hk) (hC.trans (CHr.wr W (hF a hsf).2 hC.1)) (sf_wr hC.1 W hsf hF) (Fr.snoc X' Nf ha) eT'
  exact ⟨s₂, v', L', hs _ S, r⟩
theorem Go.callS (hx : p.tables.exec = Jvm.exec) (hZ : Z.Warmed39 s.vm) {own : String} {index : Nat} {y : MethodName} {bytes : ByteArray} {maxL : Nat} {rt r' : Option FieldType} {ps : List FieldType} {rm : Room} {SFc : List Addr} {Qc : Option Value → Heap → Prop} {argsL rest : List Value} {ce' sl' : Nat} (hown : s.vm.findClass own = some m.cls) (w1 : (Cond.methodLink own index y).before a0 Z = true) (w2 : (Cond.static y).before a0 Z = true) (w3 : (Cond.initialized y.cls).before a0 Z = true) (w4 : (Cond.code y bytes maxL rt).before a0 Z = true) (hy : y.cls ≠ "java/lang/invoke/MethodHandle" ∧ y.cls ≠ "java/lang/invoke/VarHandle")
    (hM : Met l Z EL SFc y bytes maxL rt [] rm argsL.toArray h n0 Qc) (hsub : ∀ x ∈ SFc, x ∈ SF) (hsize : Ls.size = c.maxLocals) (hpd : parseMethodDescriptor y.desc = some ⟨ps, r'⟩) (hlen : argsL.length = ps.length) (hst : st = argsL.reverse ++ rest) (hd : decode c.code pc = .ok (.invokestatic index, 3)) (hq : q = pc + 3) (hf : rm.frames + 1 ≤ R.frames) (hl : (rest.map fun v => v.category).sum + (maxL + 11) + rm.locals ≤ R.locals) (hce : ce + rm.cells = ce') (hsl : sl + rm.slots = sl') (hc : ce' ≤ R.cells) (hs : sl' ≤ R.slots)
    (G : ∀ (v : Option Value) (h' : Heap), Qc v h' → Go p l e R s m args below meth c n0 C N Q Z a0 EL hh0 SF h' ce' sl' q Ls (v.toList ++ rest)) : Go p l e R s m args below meth c n0 C N Q Z a0 EL hh0 SF h ce sl pc Ls st := fun T vm0 locs k0 hz hel X hS hk hC hF Nf eT => by
  subst hq hce hsl
  obtain ⟨v, _, ⟨T', L', k', n'⟩, -, X', hS', hg', ⟨Lc, ⟨hQ, hF'⟩, hl1, hl2, hl3, hC'⟩, hst'⟩ := Jvm.RoadKit.callSS X hx (wO hown hS) (mvT (wZ hZ hS) w1) (mvT (wZ hZ hS) w2) (mvT (wZ hZ hS) w3) (mvT (wZ hZ hS) w4) hy (backOfSF (W := (rest.map fun v => v.category).sum) (Q := fun v h' L => Qc v h' ∧ Fr n0 L) hM (wZ hZ hS) w4 w3 hf hl hel (fun x hx => hF x (hsub x hx)) hC.1) (g := mkF m pc Ls st) rfl hsize (argsL := argsL) (rest := rest) (lenOf hpd hlen) hst (by show 2 * 0 + _ ≤ _; omega) hd (fun _ _ => ⟨rfl, eT, hc, hs⟩)
  dsimp only [Pt.U, Pt.locs, Pt.cells, Pt.slots] at X' hl1 hl2 hl3 hst' hQ hC' hS' hg'
  subst hl1 hl2 hl3
  obtain ⟨s₂, v', L'', S, r⟩ := G v _ hQ T' T'.vm _ T'.heap.size hz hel X' (foldS hS (by rw [eT]; exact hk) hS' hg') (Nat.le_refl _) (hC.trans hC') (fun x hx => ⟨Nat.lt_of_lt_of_le (hF x hx).1 hC'.2.1, hC'.safe (hF x hx).1 (hF x hx).2⟩) (Fr.app Nf hF') rfl
  exact ⟨s₂, v', L'', hst'.trans S, r⟩
theorem Go.callI (hx : p.tables.exec = Jvm.exec) (hZ : Z.Warmed39 s.vm) {own : String} {index : Nat} {y : MethodName} {bytes : ByteArray} {maxL : Nat} {r' : Option FieldType} {ps : List FieldType} {rm : Room} {SFc : List Addr} {Qc : Option Value → Heap → Prop} {a : Addr} {argsL rest : List Value} {ce' sl' : Nat} (hown : s.vm.findClass own = some m.cls) (hnm : y.name = "<init>") (w1 : (Cond.methodLink own index y).before a0 Z = true) (w2 : (Cond.instanceMethod y).before a0 Z = true) (w3 : (Cond.initialized y.cls).before a0 Z = true) (w4 : (Cond.code y bytes maxL none).before a0 Z = true) (hy : y.cls ≠ "java/lang/invoke/MethodHandle" ∧ y.cls ≠ "java/lang/invoke/VarHandle")
    (hM : Met l Z EL SFc y bytes maxL none [] rm (.ref a :: argsL).toArray h n0 Qc) (hsub : ∀ x ∈ SFc, x ∈ SF) (hsize : Ls.size = c.maxLocals) (hpd : parseMethodDescriptor y.desc = some ⟨ps, r'⟩) (hlen : argsL.length = ps.length) (hst : st = argsL.reverse ++ .ref a :: rest) (hd : decode c.code pc = .ok (.invokespecial index, 3)) (hq : q = pc + 3) (hf : rm.frames + 1 ≤ R.frames) (hl : (rest.map fun v => v.category).sum + (maxL + 11) + rm.locals ≤ R.locals) (hce : ce + rm.cells = ce') (hsl : sl + rm.slots = sl') (hc : ce' ≤ R.cells) (hs : sl' ≤ R.slots)
    (G : ∀ (v : Option Value) (h' : Heap), Qc v h' → Go p l e R s m args below meth c n0 C N Q Z a0 EL hh0 SF h' ce' sl' q Ls (v.toList ++ rest)) : Go p l e R s m args below meth c n0 C N Q Z a0 EL hh0 SF h ce sl pc Ls st := fun T vm0 locs k0 hz hel X hS hk hC hF Nf eT => by
  subst hq hce hsl
  obtain ⟨v, _, ⟨T', L', k', n'⟩, -, X', hS', hg', ⟨Lc, ⟨hQ, hF'⟩, hl1, hl2, hl3, hC'⟩, hst'⟩ := X.specialBackS hx hnm (wO hown hS) (mvT (wZ hZ hS) w1) (mvT (wZ hZ hS) w2) (mvT (wZ hZ hS) w4) hy (backOfSF (W := (rest.map fun v => v.category).sum) (Q := fun v h' L => Qc v h' ∧ Fr n0 L) hM (wZ hZ hS) w4 w3 hf hl hel (fun x hx => hF x (hsub x hx)) hC.1) (g := mkF m pc Ls st) rfl hsize (Steps.refl _) (a := a) (argsL := argsL) (rest := rest) (lenOf hpd hlen) hst (by show 2 * 0 + _ ≤ _; omega) hd (fun _ _ => ⟨rfl, eT, hc, hs⟩)
  dsimp only [Pt.U, Pt.locs, Pt.cells, Pt.slots] at X' hl1 hl2 hl3 hst' hQ hC' hS' hg'
  subst hl1 hl2 hl3
  obtain ⟨s₂, v', L'', S, r⟩ := G v _ hQ T' T'.vm _ T'.heap.size hz hel X' (foldS hS (by rw [eT]; exact hk) hS' hg') (Nat.le_refl _) (hC.trans hC') (fun x hx => ⟨Nat.lt_of_lt_of_le (hF x hx).1 hC'.2.1, hC'.safe (hF x hx).1 (hF x hx).2⟩) (Fr.app Nf hF') rfl
  exact ⟨s₂, v', L'', hst'.trans S, r⟩
theorem Go.callV (hx : p.tables.exec = Jvm.exec) (hZ : Z.Warmed39 s.vm) {own C' : String} {index : Nat} {y z : MethodName} {bytes : ByteArray} {maxL : Nat} {rt r' : Option FieldType} {ps : List FieldType} {rm : Room} {SFc : List Addr} {Qc : Option Value → Heap → Prop} {a : Addr} {argsL rest : List Value} {ce' sl' : Nat} (hown : s.vm.findClass own = some m.cls) (w1 : (Cond.methodLink own index y).before a0 Z = true) (w2 : (Cond.declares y).before a0 Z = true) (hnf : ∀ vm : Vm, Z.Warmed39 (s.setVm vm).vm → NotFace (s.setVm vm) y) (w5 : (Cond.selects C' y z).before a0 Z = true) (w6 : (Cond.instanceMethod z).before a0 Z = true) (w3 : (Cond.initialized z.cls).before a0 Z = true) (w4 : (Cond.code z bytes maxL rt).before a0 Z = true) (hy : y.cls ≠ "java/lang/invoke/MethodHandle" ∧ y.cls ≠ "java/lang/invoke/VarHandle")
    (E : Exa Z h a C') (hM : Met l Z EL SFc z bytes maxL rt [] rm (.ref a :: argsL).toArray h n0 Qc) (hsub : ∀ x ∈ SFc, x ∈ SF) (hsize : Ls.size = c.maxLocals) (hpd : parseMethodDescriptor y.desc = some ⟨ps, r'⟩) (hlen : argsL.length = ps.length) (hst : st = argsL.reverse ++ .ref a :: rest) (hd : decode c.code pc = .ok (.invokevirtual index, 3)) (hq : q = pc + 3) (hf : rm.frames + 1 ≤ R.frames) (hl : (rest.map fun v => v.category).sum + (maxL + 11) + rm.locals ≤ R.locals) (hce : ce + rm.cells = ce') (hsl : sl + rm.slots = sl') (hc : ce' ≤ R.cells) (hs : sl' ≤ R.slots)
    (G : ∀ (v : Option Value) (h' : Heap), Qc v h' → Go p l e R s m args below meth c n0 C N Q Z a0 EL hh0 SF h' ce' sl' q Ls (v.toList ++ rest)) : Go p l e R s m args below meth c n0 C N Q Z a0 EL hh0 SF h ce sl pc Ls st := fun T vm0 locs k0 hz hel X hS hk hC hF Nf eT => by
  subst hq hce hsl
  obtain ⟨cB, kB, qa, qb, qc⟩ := isOf (wZ hZ hS) eT E
  obtain ⟨v, _, ⟨T', L', k', n'⟩, -, X', hS', hg', ⟨Lc, ⟨hQ, hF'⟩, hl1, hl2, hl3, hC'⟩, hst'⟩ := X.virtualBackS hx (wO hown hS) (mvT (wZ hZ hS) w1) (mvT (wZ hZ hS) w2) (hnf vm0 (wZ hZ hS)) (mvT (wZ hZ hS) w5) (mvT (wZ hZ hS) w6) hy (backOfSF (W := (rest.map fun v => v.category).sum) (Q := fun v h' L => Qc v h' ∧ Fr n0 L) hM (wZ hZ hS) w4 w3 hf hl hel (fun x hx => hF x (hsub x hx)) hC.1) qa qc (g := mkF m pc Ls st) rfl hsize (Steps.refl _) (argsL := argsL) (rest := rest) (lenOf hpd hlen) hst (by show 2 * 0 + _ ≤ _; omega) hd (fun _ _ => ⟨rfl, eT, hc, hs⟩)
  dsimp only [Pt.U, Pt.locs, Pt.cells, Pt.slots] at X' hl1 hl2 hl3 hst' hQ hC' hS' hg'
  subst hl1 hl2 hl3
  obtain ⟨s₂, v', L'', S, r⟩ := G v _ hQ T' T'.vm _ T'.heap.size hz hel X' (foldS hS (by rw [eT]; exact hk) hS' hg') (Nat.le_refl _) (hC.trans hC') (fun x hx => ⟨Nat.lt_of_lt_of_le (hF x hx).1 hC'.2.1, hC'.safe (hF x hx).1 (hF x hx).2⟩) (Fr.app Nf hF') rfl
  exact ⟨s₂, v', L'', hst'.trans S, r⟩
theorem Go.instNull (hx : p.tables.exec = Jvm.exec) {index : Nat} (hd : decode c.code pc = .ok (.instanceof index, 3)) (hq : q = pc + 3) (G : Go p l e R s m args below meth c n0 C N Q Z a0 EL hh0 SF h ce sl q Ls (.int 0 :: st)) : Go p l e R s m args below meth c n0 C N Q Z a0 EL hh0 SF h ce sl pc Ls (.null :: st) := by
  subst hq
  exact Go.step (fun T vm0 k0 locs target X hS eT S => X.instanceofNull hx (g := mkF m pc Ls (.null :: st)) rfl rfl hd target S) G
theorem Go.castNull (hx : p.tables.exec = Jvm.exec) {index : Nat} (hd : decode c.code pc = .ok (.checkcast index, 3)) (hq : q = pc + 3) (G : Go p l e R s m args below meth c n0 C N Q Z a0 EL hh0 SF h ce sl q Ls (.null :: st)) : Go p l e R s m args below meth c n0 C N Q Z a0 EL hh0 SF h ce sl pc Ls (.null :: st) := by
  subst hq
  exact Go.step (fun T vm0 k0 locs target X hS eT S => X.checkcastNull hx (g := mkF m pc Ls (.null :: st)) rfl rfl hd target S) G
theorem Go.instNo (hx : p.tables.exec = Jvm.exec) (hZ : Z.Warmed39 s.vm) {own K C' : String} {index : Nat} (hown : s.vm.findClass own = some m.cls) (w1 : (Cond.classLink own index K).before a0 Z = true) {a : Addr} (E : Exa Z h a C') (F : ∃ c t, Z.vm.findClass C' = some c ∧ Z.vm.findClass K = some t ∧ Z.vm.assignable c t = false) (hd : decode c.code pc = .ok (.instanceof index, 3)) (hq : q = pc + 3) (G : Go p l e R s m args below meth c n0 C N Q Z a0 EL hh0 SF h ce sl q Ls (.int 0 :: st)) : Go p l e R s m args below meth c n0 C N Q Z a0 EL hh0 SF h ce sl pc Ls (.ref a :: st) := by
  subst hq
  exact Go.law (fun T vm0 k0 locs X hS eT => Jvm.RoadKit.instNo X hx (wZ hZ hS) (wO hown hS) w1 eT E F (g := mkF m pc Ls (.ref a :: st)) rfl rfl hd) G
theorem Go.aaloadC (hx : p.tables.exec = Jvm.exec) (hZ : Z.Warmed39 s.vm) {a : Addr} {cl : Cell} {ty : FieldType} {j : Int32} {v : Value} (A : Arr Z h a cl ty) (hty : ty.isReference = true) (hj : ¬ (j < 0 ∨ cl.slots.size ≤ j.toNatClampNeg)) (hv : cl.slots[j.toNatClampNeg]? = some v) (hd : decode c.code pc = .ok (.aaload, 1)) (hq : q = pc + 1) (G : Go p l e R s m args below meth c n0 C N Q Z a0 EL hh0 SF h ce sl q Ls (v :: st)) : Go p l e R s m args below meth c n0 C N Q Z a0 EL hh0 SF h ce sl pc Ls (.int j :: .ref a :: st) := by
  subst hq
  exact Go.step (fun T vm0 k0 locs target X hS eT S => X.aaload hx (by rw [eT]; exact A.1) (State.isArrayOf_alike (wZ hZ hS).alike A.2.1) hty A.2.2 hj hv (g := mkF m pc Ls (.int j :: .ref a :: st)) rfl rfl hd target S) G
theorem sto_of {a y : Addr} {k : ClassId} {C' : String} {n : Int32} {vs : List Value} {dv : Value} (A : Arv Z h a k (.object C') n vs dv) (O : Ovr Z k C') (I : Ins Z h y C' true) : Sto Z h a (.ref y) := by
  obtain ⟨cl, Ar, q1, -⟩ := A
  exact Sto.ofV Ar q1 O I
theorem cat_ref {v : Value} (hv : v.isRef = true) : v.category = 1 := by rcases ref_cases hv with rfl | ⟨x, rfl⟩ <;> rfl
theorem nar_ref {v : Value} {t : FieldType} (hv : v.isRef = true) (ht : t.isReference = true) : narrow t v = v := by rcases ref_cases hv with rfl | ⟨x, rfl⟩ <;> cases t <;> rfl
theorem fits_of_ref {v : Value} {t : FieldType} (hv : v.isRef = true) (ht : t.isReference = true) : fits t v = true := by rcases ref_cases hv with rfl | ⟨x, rfl⟩ <;> cases t <;> first | rfl | cases ht
theorem cmpL_gt (x y : Int64) : (0 : Int32) < XT.cmpL x y ↔ y < x := by
  unfold XT.cmpL; split <;> (try split) <;> simp_all <;> decide
theorem cmpL_lt (x y : Int64) : XT.cmpL x y < (0 : Int32) ↔ x < y := by
  unfold XT.cmpL; split <;> (try split) <;> simp_all [Int64.lt_iff_toInt_lt, ← Int64.toInt_inj, Int32.lt_iff_toInt_lt] <;> omega
theorem cmpL_eq (x y : Int64) : XT.cmpL x y = (0 : Int32) ↔ x = y := by
  unfold XT.cmpL; split <;> (try split) <;> simp_all [Int64.lt_iff_toInt_lt, ← Int64.toInt_inj] <;> omega
theorem ns_root {K O : String} {kn : Nat} (w1 : (Cond.noSuperclass O).before a0 Z = true) (wk : (Cond.instantiable K kn).before a0 Z = true) (hn : O ≠ K) : NS Z O K := by
  obtain ⟨c, k, h1, h2, h3, -, -⟩ := Cond.noSuperclass_spec w1
  obtain ⟨t, kt, g1, -⟩ := Cond.instantiable_spec wk
  have ne := ids_ne h1 g1 hn
  refine ⟨c, t, h1, g1, fun fuel => ?_⟩
  cases fuel with
  | zero => rfl
  | succ f => simp [Vm.isSubclassAux, ne, h2, h3]
theorem ns_no {C' S K : String} {kn : Nat} (w1 : (Cond.superclass C' S).before a0 Z = true) (wk : (Cond.instantiable K kn).before a0 Z = true) (nn : NS Z C' K) (hn : C' ≠ K) : ∃ c t, Z.vm.findClass C' = some c ∧ Z.vm.findClass K = some t ∧ Z.vm.assignable c t = false := by
  obtain ⟨c, t, h0, g0, n3⟩ := nn
  obtain ⟨p, k, kp, h1, h2, h3, h4, h5, -, h7⟩ := Cond.superclass_spec h0 w1
  obtain ⟨t', kt, g1, g2, g5, g7, -⟩ := Cond.instantiable_spec wk
  cases g0.symm.trans g1
  have g8 : kt.isInterface = false := by rw [Bool.or_eq_false_iff] at g7; exact g7.1
  have ne := ids_ne h0 g0 hn
  refine ⟨c, t, h0, g0, ?_⟩
  show Z.vm.assignableAux (255 + 1) c t = false
  simp [Vm.assignableAux, ne, h2, g2, h5, g5, g8, Vm.isSubclass, n3]
theorem Go.ldcStr (hx : p.tables.exec = Jvm.exec) (hZ : Z.Warmed39 s.vm) {own text : String} {index nn ce' sl' : Nat} {vs : List Value} {z : Int32} (hown : s.vm.findClass own = some m.cls) (w1 : (Cond.stringLink own index text).before a0 Z = true) (wS : ∀ a ∈ Bundle.stringAtoms, a.before a0 Z = true) (hmem : (own, index) ∈ EL)
    (ht : (∀ c ∈ text.toList, c.toNat < 256) ∧ text.toList.map (fun c => Value.int (Jvm.Lit.byteI c.toNat.toUInt16)) = vs) (hz : ¬ z < 0) (hl : z.toNatClampNeg = vs.length) (hd : decode c.code pc = .ok (.ldc index, 2)) (hq : q = pc + 2) (hn : 4 * text.toList.length ≤ nn) (hbig : nn ≤ 536870912) (hce : ce + 2 = ce') (hsl : sl + (nn + 4) = sl') (hc : ce' ≤ R.cells) (hl' : sl' ≤ R.slots)
    (G : ∀ (h' : Heap) (a b : Addr) (k : ClassId), Ext h h' → Exa Z h' a "java/lang/String" → Fld Z h' a "java/lang/String" "coder" "B" (.int 0) → Fld Z h' a "java/lang/String" "value" "[B" (.ref b) → Arv Z h' b k .byte z vs (.int 0) → (∀ x ∈ SF, x ≠ a ∧ x ≠ b) → Go p l e R s m args below meth c n0 C N Q Z a0 EL hh0 SF h' ce' sl' q Ls (.ref a :: st)) : Go p l e R s m args below meth c n0 C N Q Z a0 EL hh0 SF h ce sl pc Ls st := fun T vm0 locs k0 hz' hel X hS hk hC hF Nf eT => by
  subst hq hce hsl
  obtain ⟨a, T', h', k1, b, k, X', eT', E, hS', hk', hZ', hown', x1, x2, x3, x4, x5, x6, hC', hL, hne, hs⟩ := ldcCH X hx (wZ hZ hS) (wO hown hS) w1 wS eT hS hk hel hmem hC.1 ht hz hl (g := mkF m pc Ls st) rfl hd hn hbig hc hl'
  have hF' : ∀ x ∈ SF, x < h'.size ∧ Safe Z EL T'.vm h' x := fun x hx => ⟨Nat.lt_of_lt_of_le (hF x hx).1 E.1, hC'.safe (hF x hx).1 (hF x hx).2⟩
  obtain ⟨s₂, v', L', S, r⟩ := G h' a b k E x1 x2 x3 x4 (fun x hx => hne x (hF' x hx).2) T' T'.vm _ k1 hz' hel X' hS' hk' (hC.trans hC') hF' Nf eT'
  exact ⟨s₂, v', L', hs _ S, r⟩
theorem Go.ldcOpq (hx : p.tables.exec = Jvm.exec) (hZ : Z.Warmed39 s.vm) {own text : String} {index nn ce' sl' : Nat} (hown : s.vm.findClass own = some m.cls) (w1 : (Cond.stringLink own index text).before a0 Z = true) (wS : ∀ a ∈ Bundle.stringAtoms, a.before a0 Z = true)
    (hd : decode c.code pc = .ok (.ldc index, 2)) (hq : q = pc + 2) (hn : 4 * text.toList.length ≤ nn) (hbig : nn ≤ 536870912) (hce : ce + 2 = ce') (hsl : sl + (nn + 4) = sl') (hc : ce' ≤ R.cells) (hl' : sl' ≤ R.slots)
    (G : ∀ (h' : Heap) (a : Addr), Ext h h' → Go p l e R s m args below meth c n0 C N Q Z a0 EL hh0 SF h' ce' sl' q Ls (.ref a :: st)) : Go p l e R s m args below meth c n0 C N Q Z a0 EL hh0 SF h ce sl pc Ls st := fun T vm0 locs k0 hz' hel X hS hk hC hF Nf eT => by
  subst hq hce hsl
  obtain ⟨a, T', h', k1, X', eT', E, hS', hk', hZ', hown', hC', hL, hs⟩ := ldcOH X hx (wZ hZ hS) (wO hown hS) w1 wS eT hS hk hel hC.1 (g := mkF m pc Ls st) rfl hd hn hbig hc hl'
  have hF' : ∀ x ∈ SF, x < h'.size ∧ Safe Z EL T'.vm h' x := fun x hx => ⟨Nat.lt_of_lt_of_le (hF x hx).1 E.1, hC'.safe (hF x hx).1 (hF x hx).2⟩
  obtain ⟨s₂, v', L', S, r⟩ := G h' a E T' T'.vm _ k1 hz' hel X' hS' hk' (hC.trans hC') hF' Nf eT'
  exact ⟨s₂, v', L', hs _ S, r⟩
end OwnKit
theorem mask255 (x : Int32) : 0 ≤ (x &&& (255 : Int32)).toInt ∧ (x &&& (255 : Int32)).toInt ≤ 255 := by
  have e1 : (x &&& 255).toInt = x.toInt % 2 ^ 8 := Jvm.Kit.i32_mask x 255 (k := 8) (by decide) (by decide)
  omega
theorem char_ok (x : Int32) : ¬ (255 : Int32) < nar .char ((x &&& (255 : Int32)).toUInt32.toUInt16.toUInt32.toInt32) := by
  simp only [nar, i2c_mask]
  have e2 : (255 : Int32).toInt = 255 := rfl
  have := mask255 x
  rw [Int32.lt_iff_toInt_lt]; omega
theorem and3 (x : Int32) : (x &&& (3 : Int32)) = (0 : Int32) ∨ (x &&& (3 : Int32)) = (1 : Int32) ∨ (x &&& (3 : Int32)) = (2 : Int32) ∨ (x &&& (3 : Int32)) = (3 : Int32) := by
  have e1 : (x &&& 3).toInt = x.toInt % 2 ^ 2 := Jvm.Kit.i32_mask x 3 (k := 2) (by decide) (by decide)
  have f0 : (0 : Int32).toInt = 0 := rfl
  have f1 : (1 : Int32).toInt = 1 := rfl
  have f2 : (2 : Int32).toInt = 2 := rfl
  have f3 : (3 : Int32).toInt = 3 := rfl
  simp only [← Int32.toInt_inj]
  omega
theorem d5_0 : decode jdk_52_method_15_code 0 = .ok (.iload_n 1, 1) := by decide +kernel
theorem d5_1 : decode jdk_52_method_15_code 1 = .ok (.aload_n 0, 1) := by decide +kernel
theorem d5_2 : decode jdk_52_method_15_code 2 = .ok (.arraylength, 1) := by decide +kernel
theorem d5_3 : decode jdk_52_method_15_code 3 = .ok (.isub, 1) := by decide +kernel
theorem d5_4 : decode jdk_52_method_15_code 4 = .ok (.bipush 31, 2) := by decide +kernel
theorem d5_6 : decode jdk_52_method_15_code 6 = .ok (.iushr, 1) := by decide +kernel
theorem d5_7 : decode jdk_52_method_15_code 7 = .ok (.i2b, 1) := by decide +kernel
theorem d5_8 : decode jdk_52_method_15_code 8 = .ok (.ireturn, 1) := by decide +kernel
theorem pl_0 : plainFor (⟨"java/lang/StringUTF16", "coderFromArrayLen", "([BI)B"⟩ : MethodName) = true := plainFor_of_name (by first | (simp [plainName, overriddenIn]; done) | decide +kernel)
set_option maxRecDepth 65536 in
set_option maxHeartbeats 40000000 in
theorem rmK (l : Launch) (Z : State) (a0 : Array Value) (hw : ∀ d ∈ tables_1, d.before a0 Z = true) (hel : EW Z a0 []) (b : Addr) (kb : ClassId) (n : Int32) (vs : List Value) (h0 : Heap) (n0 : Nat) (Z0 : n0 ≤ h0.size) (B : Arv Z h0 b kb .byte n vs (.int (0 : Int32))) :
    Met l Z [] [] (⟨"java/lang/StringUTF16", "coderFromArrayLen", "([BI)B"⟩ : MethodName) jdk_52_method_15_code 2 (Option.some FieldType.byte) [] ({ frames := 0, cells := 0, slots := 0, locals := 0 } : Room) #[(.ref b), (.int n)] h0 n0 (fun v h => v = some (.int (0 : Int32)) ∧ h0 = h) := by
  refine Met.of (Ls0 := #[.val (.ref b), .val (.int n)]) pl_0 (by first | (simp [argsToLocals, Value.category]; done) | rfl) hel ?_
  intro p e s m below meth c hx hby hml hret hlk hown hnm hZ
  refine Go.iloadN (q := 1) hx (hb hby d5_0) rfl rfl ?_
  refine Go.aloadN (q := 2) hx (hb hby d5_1) rfl (by rfl) rfl ?_
  refine Go.alen (q := 3) hx hZ B (hb hby d5_2) rfl ?_
  refine Go.isub (q := 4) hx (hb hby d5_3) rfl ?_
  refine Go.bipush (q := 6) (z := (31 : Int32)) hx (hb hby d5_4) rfl rfl ?_
  refine Go.iushr (q := 7) hx (hb hby d5_6) rfl ?_
  refine Go.i2b (q := 8) hx (hb hby d5_7) rfl ?_
  refine Go.retN hx (t := .byte) hret (by simp) hlk (hb hby d5_8) (by decide) (by decide) ?_
  exact ⟨by rw [Int32.sub_self]; rfl, rfl⟩
theorem d4_0 : decode jdk_52_method_21_code 0 = .ok (.iconst 0, 1) := by decide +kernel
theorem d4_1 : decode jdk_52_method_21_code 1 = .ok (.istore 5, 2) := by decide +kernel
theorem d4_3 : decode jdk_52_method_21_code 3 = .ok (.iload 5, 2) := by decide +kernel
theorem d4_5 : decode jdk_52_method_21_code 5 = .ok (.iload 4, 2) := by decide +kernel
theorem d4_7 : decode jdk_52_method_21_code 7 = .ok (.if_icmp .ge 37, 3) := by decide +kernel
theorem d4_10 : decode jdk_52_method_21_code 10 = .ok (.aload_n 0, 1) := by decide +kernel
theorem d4_11 : decode jdk_52_method_21_code 11 = .ok (.iload_n 1, 1) := by decide +kernel
theorem d4_12 : decode jdk_52_method_21_code 12 = .ok (.caload, 1) := by decide +kernel
theorem d4_13 : decode jdk_52_method_21_code 13 = .ok (.istore 6, 2) := by decide +kernel
theorem d4_15 : decode jdk_52_method_21_code 15 = .ok (.iload 6, 2) := by decide +kernel
theorem d4_17 : decode jdk_52_method_21_code 17 = .ok (.sipush 255, 3) := by decide +kernel
theorem d4_20 : decode jdk_52_method_21_code 20 = .ok (.if_icmp .le 6, 3) := by decide +kernel
theorem d4_23 : decode jdk_52_method_21_code 23 = .ok (.iload 5, 2) := by decide +kernel
theorem d4_25 : decode jdk_52_method_21_code 25 = .ok (.ireturn, 1) := by decide +kernel
theorem d4_26 : decode jdk_52_method_21_code 26 = .ok (.aload_n 2, 1) := by decide +kernel
theorem d4_27 : decode jdk_52_method_21_code 27 = .ok (.iload_n 3, 1) := by decide +kernel
theorem d4_28 : decode jdk_52_method_21_code 28 = .ok (.iload 6, 2) := by decide +kernel
theorem d4_30 : decode jdk_52_method_21_code 30 = .ok (.i2b, 1) := by decide +kernel
theorem d4_31 : decode jdk_52_method_21_code 31 = .ok (.bastore, 1) := by decide +kernel
theorem d4_32 : decode jdk_52_method_21_code 32 = .ok (.iinc 1 1, 3) := by decide +kernel
theorem d4_35 : decode jdk_52_method_21_code 35 = .ok (.iinc 3 1, 3) := by decide +kernel
theorem d4_38 : decode jdk_52_method_21_code 38 = .ok (.iinc 5 1, 3) := by decide +kernel
theorem d4_41 : decode jdk_52_method_21_code 41 = .ok (.goto (-38), 3) := by decide +kernel
theorem d4_44 : decode jdk_52_method_21_code 44 = .ok (.iload 4, 2) := by decide +kernel
theorem d4_46 : decode jdk_52_method_21_code 46 = .ok (.ireturn, 1) := by decide +kernel
theorem pl_1 : plainFor (⟨"java/lang/StringUTF16", "compress", "([CI[BII)I"⟩ : MethodName) = true := plainFor_of_name (by first | (simp [plainName, overriddenIn]; done) | decide +kernel)
set_option maxRecDepth 65536 in
set_option maxHeartbeats 40000000 in
theorem rmC2 (l : Launch) (Z : State) (a0 : Array Value) (hw : ∀ d ∈ tables_1, d.before a0 Z = true) (hel : EW Z a0 []) (a b : Addr) (ka kb : ClassId) (c0 c1 : Int32) (h0 : Heap) (n0 : Nat) (Z0 : n0 ≤ h0.size) (A : Arv Z h0 a ka .char (2 : Int32) [.int c0, .int c1] (.int (0 : Int32))) (B : Arv Z h0 b kb .byte (2 : Int32) [(.int (0 : Int32)), (.int (0 : Int32))] (.int (0 : Int32))) (gb : n0 ≤ b) (nab : a ≠ b) (hp0 : ¬ (255 : Int32) < c0) (hp1 : ¬ (255 : Int32) < c1) :
    Met l Z [] [b] (⟨"java/lang/StringUTF16", "compress", "([CI[BII)I"⟩ : MethodName) jdk_52_method_21_code 7 (Option.some FieldType.int) [] ({ frames := 0, cells := 0, slots := 0, locals := 0 } : Room) #[(.ref a), (.int (0 : Int32)), (.ref b), (.int (0 : Int32)), (.int (2 : Int32))] h0 n0 (fun v h => v = some (.int (2 : Int32)) ∧ Keep h0 h [b] ∧ Arv Z h b kb .byte (2 : Int32) [(.int (nar .byte c0.toInt8.toInt32)), (.int (nar .byte c1.toInt8.toInt32))] (.int (0 : Int32))) := by
  refine Met.of (Ls0 := #[.val (.ref a), .val (.int (0 : Int32)), .val (.ref b), .val (.int (0 : Int32)), .val (.int (2 : Int32)), .unset, .unset]) pl_1 (by first | (simp [argsToLocals, Value.category]; done) | rfl) hel ?_
  intro p e s m below meth c hx hby hml hret hlk hown hnm hZ
  refine Go.iconst (q := 1) (z := (0 : Int32)) hx (hb hby d4_0) rfl rfl ?_
  refine Go.istore (q := 3) (l' := #[.val (.ref a), .val (.int (0 : Int32)), .val (.ref b), .val (.int (0 : Int32)), .val (.int (2 : Int32)), .val (.int (0 : Int32)), .unset]) hx (hb hby d4_1) rfl rfl ?_
  refine Go.iload (q := 5) hx (hb hby d4_3) rfl rfl ?_
  refine Go.iload (q := 7) hx (hb hby d4_5) rfl rfl ?_
  refine Go.icmp_ge (q := 10) (t := 44) hx (hb hby d4_7) (by decide) rfl rfl (fun hc7 => absurd hc7 (by decide)) (fun hc7 => ?_)
  refine Go.aloadN (q := 11) hx (hb hby d4_10) rfl (by rfl) rfl ?_
  refine Go.iloadN (q := 12) hx (hb hby d4_11) rfl rfl ?_
  refine Go.caload (q := 13) (v := (.int c0)) hx hZ A ⟨by decide, by decide⟩ rfl (hb hby d4_12) rfl ?_
  refine Go.istore (q := 15) (l' := #[.val (.ref a), .val (.int (0 : Int32)), .val (.ref b), .val (.int (0 : Int32)), .val (.int (2 : Int32)), .val (.int (0 : Int32)), .val (.int c0)]) hx (hb hby d4_13) rfl rfl ?_
  refine Go.iload (q := 17) hx (hb hby d4_15) rfl rfl ?_
  refine Go.sipush (q := 20) (z := (255 : Int32)) hx (hb hby d4_17) rfl rfl ?_
  refine Go.icmp_le (q := 23) (t := 26) hx (hb hby d4_20) (by decide) rfl rfl (fun hc20 => ?_) (fun hc20 => absurd hc20 hp0)
  refine Go.aloadN (q := 27) hx (hb hby d4_26) rfl (by rfl) rfl ?_
  refine Go.iloadN (q := 28) hx (hb hby d4_27) rfl rfl ?_
  refine Go.iload (q := 30) hx (hb hby d4_28) rfl rfl ?_
  refine Go.i2b (q := 31) hx (hb hby d4_30) rfl ?_
  refine Go.bastore (q := 32) hx hZ B ⟨by decide, by decide⟩ 0 rfl (Nat.le_of_ble_eq_true rfl) gb (by simp) (hb hby d4_31) rfl (fun h1 W2 V3 => ?_)
  refine Go.iinc (q := 35) (l' := #[.val (.ref a), .val (.int ((0 : Int32) + (1 : Int32))), .val (.ref b), .val (.int (0 : Int32)), .val (.int (2 : Int32)), .val (.int (0 : Int32)), .val (.int c0)]) hx (hb hby d4_32) rfl rfl rfl ?_
  refine Go.iinc (q := 38) (l' := #[.val (.ref a), .val (.int ((0 : Int32) + (1 : Int32))), .val (.ref b), .val (.int ((0 : Int32) + (1 : Int32))), .val (.int (2 : Int32)), .val (.int (0 : Int32)), .val (.int c0)]) hx (hb hby d4_35) rfl rfl rfl ?_
  refine Go.iinc (q := 41) (l' := #[.val (.ref a), .val (.int ((0 : Int32) + (1 : Int32))), .val (.ref b), .val (.int ((0 : Int32) + (1 : Int32))), .val (.int (2 : Int32)), .val (.int ((0 : Int32) + (1 : Int32))), .val (.int c0)]) hx (hb hby d4_38) rfl rfl rfl ?_
  refine Go.goto (q := 3) hx (hb hby d4_41) (by decide) rfl ?_
  refine Go.iload (q := 5) hx (hb hby d4_3) rfl rfl ?_
  refine Go.iload (q := 7) hx (hb hby d4_5) rfl rfl ?_
  refine Go.icmp_ge (q := 10) (t := 44) hx (hb hby d4_7) (by decide) rfl rfl (fun hc7_1 => absurd hc7_1 (by decide)) (fun hc7_1 => ?_)
  refine Go.aloadN (q := 11) hx (hb hby d4_10) rfl (by rfl) rfl ?_
  refine Go.iloadN (q := 12) hx (hb hby d4_11) rfl rfl ?_
  refine Go.caload (q := 13) (v := (.int c1)) hx hZ (A.other W2 nab) ⟨by decide, by decide⟩ rfl (hb hby d4_12) rfl ?_
  refine Go.istore (q := 15) (l' := #[.val (.ref a), .val (.int ((0 : Int32) + (1 : Int32))), .val (.ref b), .val (.int ((0 : Int32) + (1 : Int32))), .val (.int (2 : Int32)), .val (.int ((0 : Int32) + (1 : Int32))), .val (.int c1)]) hx (hb hby d4_13) rfl rfl ?_
  refine Go.iload (q := 17) hx (hb hby d4_15) rfl rfl ?_
  refine Go.sipush (q := 20) (z := (255 : Int32)) hx (hb hby d4_17) rfl rfl ?_
  refine Go.icmp_le (q := 23) (t := 26) hx (hb hby d4_20) (by decide) rfl rfl (fun hc20_1 => ?_) (fun hc20_1 => absurd hc20_1 hp1)
  refine Go.aloadN (q := 27) hx (hb hby d4_26) rfl (by rfl) rfl ?_
  refine Go.iloadN (q := 28) hx (hb hby d4_27) rfl rfl ?_
  refine Go.iload (q := 30) hx (hb hby d4_28) rfl rfl ?_
  refine Go.i2b (q := 31) hx (hb hby d4_30) rfl ?_
  refine Go.bastore (q := 32) hx hZ V3 ⟨by decide, by decide⟩ 1 rfl (Nat.le_of_ble_eq_true rfl) gb (by simp) (hb hby d4_31) rfl (fun h4 W5 V6 => ?_)
  refine Go.iinc (q := 35) (l' := #[.val (.ref a), .val (.int (((0 : Int32) + (1 : Int32)) + (1 : Int32))), .val (.ref b), .val (.int ((0 : Int32) + (1 : Int32))), .val (.int (2 : Int32)), .val (.int ((0 : Int32) + (1 : Int32))), .val (.int c1)]) hx (hb hby d4_32) rfl rfl rfl ?_
  refine Go.iinc (q := 38) (l' := #[.val (.ref a), .val (.int (((0 : Int32) + (1 : Int32)) + (1 : Int32))), .val (.ref b), .val (.int (((0 : Int32) + (1 : Int32)) + (1 : Int32))), .val (.int (2 : Int32)), .val (.int ((0 : Int32) + (1 : Int32))), .val (.int c1)]) hx (hb hby d4_35) rfl rfl rfl ?_
  refine Go.iinc (q := 41) (l' := #[.val (.ref a), .val (.int (((0 : Int32) + (1 : Int32)) + (1 : Int32))), .val (.ref b), .val (.int (((0 : Int32) + (1 : Int32)) + (1 : Int32))), .val (.int (2 : Int32)), .val (.int (((0 : Int32) + (1 : Int32)) + (1 : Int32))), .val (.int c1)]) hx (hb hby d4_38) rfl rfl rfl ?_
  refine Go.goto (q := 3) hx (hb hby d4_41) (by decide) rfl ?_
  refine Go.iload (q := 5) hx (hb hby d4_3) rfl rfl ?_
  refine Go.iload (q := 7) hx (hb hby d4_5) rfl rfl ?_
  refine Go.icmp_ge (q := 10) (t := 44) hx (hb hby d4_7) (by decide) rfl rfl (fun hc7_2 => ?_) (fun hc7_2 => absurd hc7_2 (by decide))
  refine Go.iload (q := 46) hx (hb hby d4_44) rfl rfl ?_
  refine Go.retI hx hret hlk (hb hby d4_46) (by decide) (by decide) ?_
  exact ⟨rfl, (((Keep.refl h0 [b]).wr W2 (Or.inl (by simp))).wr W5 (Or.inl (by simp))), V6⟩
theorem d3_0 : decode jdk_52_method_16_code 0 = .ok (.iload_n 2, 1) := by decide +kernel
theorem d3_1 : decode jdk_52_method_16_code 1 = .ok (.newarray .byte, 2) := by decide +kernel
theorem d3_3 : decode jdk_52_method_16_code 3 = .ok (.astore_n 3, 1) := by decide +kernel
theorem d3_4 : decode jdk_52_method_16_code 4 = .ok (.aload_n 0, 1) := by decide +kernel
theorem d3_5 : decode jdk_52_method_16_code 5 = .ok (.iload_n 1, 1) := by decide +kernel
theorem d3_6 : decode jdk_52_method_16_code 6 = .ok (.aload_n 3, 1) := by decide +kernel
theorem d3_7 : decode jdk_52_method_16_code 7 = .ok (.iconst 0, 1) := by decide +kernel
theorem d3_8 : decode jdk_52_method_16_code 8 = .ok (.iload_n 2, 1) := by decide +kernel
theorem d3_9 : decode jdk_52_method_16_code 9 = .ok (.invokestatic 115, 3) := by decide +kernel
theorem d3_12 : decode jdk_52_method_16_code 12 = .ok (.istore 4, 2) := by decide +kernel
theorem d3_14 : decode jdk_52_method_16_code 14 = .ok (.iload 4, 2) := by decide +kernel
theorem d3_16 : decode jdk_52_method_16_code 16 = .ok (.iload_n 2, 1) := by decide +kernel
theorem d3_17 : decode jdk_52_method_16_code 17 = .ok (.if_icmp .eq 40, 3) := by decide +kernel
theorem d3_20 : decode jdk_52_method_16_code 20 = .ok (.aload_n 0, 1) := by decide +kernel
theorem d3_21 : decode jdk_52_method_16_code 21 = .ok (.iload_n 1, 1) := by decide +kernel
theorem d3_22 : decode jdk_52_method_16_code 22 = .ok (.iload_n 2, 1) := by decide +kernel
theorem d3_23 : decode jdk_52_method_16_code 23 = .ok (.invokestatic 119, 3) := by decide +kernel
theorem d3_26 : decode jdk_52_method_16_code 26 = .ok (.astore 5, 2) := by decide +kernel
theorem d3_28 : decode jdk_52_method_16_code 28 = .ok (.aload 5, 2) := by decide +kernel
theorem d3_30 : decode jdk_52_method_16_code 30 = .ok (.iload 4, 2) := by decide +kernel
theorem d3_32 : decode jdk_52_method_16_code 32 = .ok (.invokestatic 71, 3) := by decide +kernel
theorem d3_35 : decode jdk_52_method_16_code 35 = .ok (.sipush 255, 3) := by decide +kernel
theorem d3_38 : decode jdk_52_method_16_code 38 = .ok (.if_icmp .gt 16, 3) := by decide +kernel
theorem d3_41 : decode jdk_52_method_16_code 41 = .ok (.aload 5, 2) := by decide +kernel
theorem d3_43 : decode jdk_52_method_16_code 43 = .ok (.iconst 0, 1) := by decide +kernel
theorem d3_44 : decode jdk_52_method_16_code 44 = .ok (.aload_n 3, 1) := by decide +kernel
theorem d3_45 : decode jdk_52_method_16_code 45 = .ok (.iconst 0, 1) := by decide +kernel
theorem d3_46 : decode jdk_52_method_16_code 46 = .ok (.iload_n 2, 1) := by decide +kernel
theorem d3_47 : decode jdk_52_method_16_code 47 = .ok (.invokestatic 123, 3) := by decide +kernel
theorem d3_50 : decode jdk_52_method_16_code 50 = .ok (.iload_n 2, 1) := by decide +kernel
theorem d3_51 : decode jdk_52_method_16_code 51 = .ok (.if_icmp .eq 6, 3) := by decide +kernel
theorem d3_54 : decode jdk_52_method_16_code 54 = .ok (.aload 5, 2) := by decide +kernel
theorem d3_56 : decode jdk_52_method_16_code 56 = .ok (.areturn, 1) := by decide +kernel
theorem d3_57 : decode jdk_52_method_16_code 57 = .ok (.aload_n 3, 1) := by decide +kernel
theorem d3_58 : decode jdk_52_method_16_code 58 = .ok (.areturn, 1) := by decide +kernel
theorem pl_2 : plainFor (⟨"java/lang/StringUTF16", "compress", "([CII)[B"⟩ : MethodName) = true := plainFor_of_name (by first | (simp [plainName, overriddenIn]; done) | decide +kernel)
theorem pd_0 : parseMethodDescriptor "([CI[BII)I" = some ⟨[(.array .char), .int, (.array .byte), .int, .int], some .int⟩ := by decide +kernel
set_option maxRecDepth 65536 in
set_option maxHeartbeats 40000000 in
theorem rmD2 (l : Launch) (Z : State) (a0 : Array Value) (hw : ∀ d ∈ tables_1, d.before a0 Z = true) (hel : EW Z a0 []) (a : Addr) (ka : ClassId) (c0 c1 : Int32) (h0 : Heap) (n0 : Nat) (Z0 : n0 ≤ h0.size) (A : Arv Z h0 a ka .char (2 : Int32) [.int c0, .int c1] (.int (0 : Int32))) (hp0 : ¬ (255 : Int32) < c0) (hp1 : ¬ (255 : Int32) < c1) :
    Met l Z [] [] (⟨"java/lang/StringUTF16", "compress", "([CII)[B"⟩ : MethodName) jdk_52_method_16_code 6 (Option.some (FieldType.array FieldType.byte)) [] ({ frames := 1, cells := 1, slots := 2, locals := 18 } : Room) #[(.ref a), (.int (0 : Int32)), (.int (2 : Int32))] h0 n0 (fun v h => ∃ b kb, v = some (.ref b) ∧ h0.size ≤ b ∧ Keep h0 h [] ∧ Arv Z h b kb .byte (2 : Int32) [(.int (nar .byte c0.toInt8.toInt32)), (.int (nar .byte c1.toInt8.toInt32))] (.int (0 : Int32))) := by
  refine Met.of (Ls0 := #[.val (.ref a), .val (.int (0 : Int32)), .val (.int (2 : Int32)), .unset, .unset, .unset]) pl_2 (by first | (simp [argsToLocals, Value.category]; done) | rfl) hel ?_
  intro p e s m below meth c hx hby hml hret hlk hown hnm hZ
  refine Go.iloadN (q := 1) hx (hb hby d3_0) rfl rfl ?_
  refine Go.newP (q := 3) (cap := 2) hx hZ (hw _ (List.mem_of_getElem? (i := 19) rfl)) (by decide) (by decide) (hb hby d3_1) rfl (by decide) (ce' := 1) (sl' := 2) rfl rfl (by decide) (by decide) (fun h7 a8 k9 g10 E11 A12 => ?_)
  have ne13 : a ≠ a8 := by rw [g10]; exact Nat.ne_of_lt (A).lt
  have gz14 : n0 ≤ a8 := by rw [g10]; exact Z0
  have gk15 : h0.size ≤ a8 := by rw [g10]; exact (Keep.refl h0 []).1
  have V16 : Arv Z h7 a8 k9 .byte (2 : Int32) [(.int (0 : Int32)), (.int (0 : Int32))] (.int (0 : Int32)) := A12.pad (pad_rep [] (.int (0 : Int32)) 2)
  refine Go.astoreN (q := 4) (l' := #[.val (.ref a), .val (.int (0 : Int32)), .val (.int (2 : Int32)), .val (.ref a8), .unset, .unset]) hx (hb hby d3_3) (by rfl) rfl rfl ?_
  refine Go.aloadN (q := 5) hx (hb hby d3_4) rfl (by rfl) rfl ?_
  refine Go.iloadN (q := 6) hx (hb hby d3_5) rfl rfl ?_
  refine Go.aloadN (q := 7) hx (hb hby d3_6) rfl (by rfl) rfl ?_
  refine Go.iconst (q := 8) (z := (0 : Int32)) hx (hb hby d3_7) rfl rfl ?_
  refine Go.iloadN (q := 9) hx (hb hby d3_8) rfl rfl ?_
  refine Go.callS (q := 12) hx hZ (argsL := [(.ref a), (.int (0 : Int32)), (.ref a8), (.int (0 : Int32)), (.int (2 : Int32))]) (rest := []) hown (hw _ (List.mem_of_getElem? (i := 20) rfl)) (hw _ (List.mem_of_getElem? (i := 21) rfl)) (hw _ (List.mem_of_getElem? (i := 17) rfl)) (hw _ (List.mem_of_getElem? (i := 22) rfl)) (by decide) (rmC2 l Z a0 hw hel a a8 ka k9 c0 c1 h7 n0 (Nat.le_trans Z0 E11.1) (A.ext E11) V16 gz14 ne13 hp0 hp1) (by simp) (by rw [hml]; rfl) pd_0 rfl rfl (hb hby d3_9) rfl (by decide) (Nat.le_of_ble_eq_true rfl) (ce' := 1) (sl' := 2) rfl rfl (by decide) (by decide) (fun v17 h18 hQ19 => ?_)
  obtain ⟨rfl, K20, V21⟩ := hQ19
  show Go _ _ _ _ _ _ _ _ _ _ _ _ _ _ _ _ _ _ _ _ 1 2 12 #[.val (.ref a), .val (.int (0 : Int32)), .val (.int (2 : Int32)), .val (.ref a8), .unset, .unset] [(.int (2 : Int32))]
  refine Go.istore (q := 14) (l' := #[.val (.ref a), .val (.int (0 : Int32)), .val (.int (2 : Int32)), .val (.ref a8), .val (.int (2 : Int32)), .unset]) hx (hb hby d3_12) rfl rfl ?_
  refine Go.iload (q := 16) hx (hb hby d3_14) rfl rfl ?_
  refine Go.iloadN (q := 17) hx (hb hby d3_16) rfl rfl ?_
  refine Go.icmp_eq (q := 20) (t := 57) hx (hb hby d3_17) (by decide) rfl rfl (fun hc17 => ?_) (fun hc17 => absurd hc17 (by decide))
  refine Go.aloadN (q := 58) hx (hb hby d3_57) rfl (by rfl) rfl ?_
  refine Go.retA hx hret rfl (by rfl) hlk (hb hby d3_58) (by decide) (by decide) ?_
  exact ⟨a8, _, rfl, gk15, (Keep.trans ((Keep.refl h0 []).ext E11) K20 (allS (Or.inr gk15) all0)), V21⟩
theorem d1_0 : decode jdk_42_method_149_code 0 = .ok (.aload_n 0, 1) := by decide +kernel
theorem d1_1 : decode jdk_42_method_149_code 1 = .ok (.invokespecial 1, 3) := by decide +kernel
theorem d1_4 : decode jdk_42_method_149_code 4 = .ok (.iload_n 3, 1) := by decide +kernel
theorem d1_5 : decode jdk_42_method_149_code 5 = .ok (.ifCond .ne 22, 3) := by decide +kernel
theorem d1_8 : decode jdk_42_method_149_code 8 = .ok (.aload_n 0, 1) := by decide +kernel
theorem d1_9 : decode jdk_42_method_149_code 9 = .ok (.ldc 7, 2) := by decide +kernel
theorem d1_11 : decode jdk_42_method_149_code 11 = .ok (.getfield 9, 3) := by decide +kernel
theorem d1_14 : decode jdk_42_method_149_code 14 = .ok (.putfield 9, 3) := by decide +kernel
theorem d1_17 : decode jdk_42_method_149_code 17 = .ok (.aload_n 0, 1) := by decide +kernel
theorem d1_18 : decode jdk_42_method_149_code 18 = .ok (.ldc 7, 2) := by decide +kernel
theorem d1_20 : decode jdk_42_method_149_code 20 = .ok (.getfield 15, 3) := by decide +kernel
theorem d1_23 : decode jdk_42_method_149_code 23 = .ok (.putfield 15, 3) := by decide +kernel
theorem d1_26 : decode jdk_42_method_149_code 26 = .ok (.return_, 1) := by decide +kernel
theorem d1_27 : decode jdk_42_method_149_code 27 = .ok (.getstatic 38, 3) := by decide +kernel
theorem d1_30 : decode jdk_42_method_149_code 30 = .ok (.ifCond .eq 28, 3) := by decide +kernel
theorem d1_33 : decode jdk_42_method_149_code 33 = .ok (.aload_n 1, 1) := by decide +kernel
theorem d1_34 : decode jdk_42_method_149_code 34 = .ok (.iload_n 2, 1) := by decide +kernel
theorem d1_35 : decode jdk_42_method_149_code 35 = .ok (.iload_n 3, 1) := by decide +kernel
theorem d1_36 : decode jdk_42_method_149_code 36 = .ok (.invokestatic 177, 3) := by decide +kernel
theorem d1_39 : decode jdk_42_method_149_code 39 = .ok (.astore 5, 2) := by decide +kernel
theorem d1_41 : decode jdk_42_method_149_code 41 = .ok (.aload_n 0, 1) := by decide +kernel
theorem d1_42 : decode jdk_42_method_149_code 42 = .ok (.aload 5, 2) := by decide +kernel
theorem d1_44 : decode jdk_42_method_149_code 44 = .ok (.iload_n 3, 1) := by decide +kernel
theorem d1_45 : decode jdk_42_method_149_code 45 = .ok (.invokestatic 47, 3) := by decide +kernel
theorem d1_48 : decode jdk_42_method_149_code 48 = .ok (.putfield 15, 3) := by decide +kernel
theorem d1_51 : decode jdk_42_method_149_code 51 = .ok (.aload_n 0, 1) := by decide +kernel
theorem d1_52 : decode jdk_42_method_149_code 52 = .ok (.aload 5, 2) := by decide +kernel
theorem d1_54 : decode jdk_42_method_149_code 54 = .ok (.putfield 9, 3) := by decide +kernel
theorem d1_57 : decode jdk_42_method_149_code 57 = .ok (.return_, 1) := by decide +kernel
theorem d1_58 : decode jdk_42_method_149_code 58 = .ok (.aload_n 0, 1) := by decide +kernel
theorem d1_59 : decode jdk_42_method_149_code 59 = .ok (.iconst 1, 1) := by decide +kernel
theorem d1_60 : decode jdk_42_method_149_code 60 = .ok (.putfield 15, 3) := by decide +kernel
theorem d1_63 : decode jdk_42_method_149_code 63 = .ok (.aload_n 0, 1) := by decide +kernel
theorem d1_64 : decode jdk_42_method_149_code 64 = .ok (.aload_n 1, 1) := by decide +kernel
theorem d1_65 : decode jdk_42_method_149_code 65 = .ok (.iload_n 2, 1) := by decide +kernel
theorem d1_66 : decode jdk_42_method_149_code 66 = .ok (.iload_n 3, 1) := by decide +kernel
theorem d1_67 : decode jdk_42_method_149_code 67 = .ok (.invokestatic 180, 3) := by decide +kernel
theorem d1_70 : decode jdk_42_method_149_code 70 = .ok (.putfield 9, 3) := by decide +kernel
theorem d1_73 : decode jdk_42_method_149_code 73 = .ok (.return_, 1) := by decide +kernel
theorem pl_3 : plainFor (⟨"java/lang/String", "<init>", "([CIILjava/lang/Void;)V"⟩ : MethodName) = true := plainFor_of_name (by first | (simp [plainName, overriddenIn]; done) | decide +kernel)
theorem pd_1 : parseMethodDescriptor "()V" = some ⟨[], none⟩ := by decide +kernel
theorem pd_2 : parseMethodDescriptor "([CII)[B" = some ⟨[(.array .char), .int, .int], some (.array .byte)⟩ := by decide +kernel
theorem pd_3 : parseMethodDescriptor "([BI)B" = some ⟨[(.array .byte), .int], some .byte⟩ := by decide +kernel
set_option maxRecDepth 65536 in
set_option maxHeartbeats 40000000 in
theorem rmS2 (l : Launch) (Z : State) (a0 : Array Value) (hw : ∀ d ∈ tables_1, d.before a0 Z = true) (hel : EW Z a0 []) (sa a : Addr) (ka : ClassId) (cst : Int32) (c0 c1 : Int32) (h0 : Heap) (n0 : Nat) (Z0 : n0 ≤ h0.size) (gs : n0 ≤ sa) (nas : a ≠ sa) (E : Exa Z h0 sa "java/lang/String") (F1 : Fld Z h0 sa "java/lang/String" "value" "[B" .null) (F2 : Fld Z h0 sa "java/lang/String" "coder" "B" (.int (0 : Int32))) (A : Arv Z h0 a ka .char (2 : Int32) [.int c0, .int c1] (.int (0 : Int32))) (hp0 : ¬ (255 : Int32) < c0) (hp1 : ¬ (255 : Int32) < c1) (X0 : Old Z n0 h0) (SC : Sta Z Z.heap "java/lang/String" "COMPACT_STRINGS" "Z" (.int cst)) (hcs : ¬ cst = (0 : Int32)) :
    Met l Z [] [sa] (⟨"java/lang/String", "<init>", "([CIILjava/lang/Void;)V"⟩ : MethodName) jdk_42_method_149_code 6 (Option.none : Option FieldType) [] ({ frames := 2, cells := 1, slots := 2, locals := 35 } : Room) #[(.ref sa), (.ref a), (.int (0 : Int32)), (.int (2 : Int32)), .null] h0 n0 (fun v h => v = none ∧ Keep h0 h [sa] ∧ ∃ b kb, h0.size ≤ b ∧ Fld Z h sa "java/lang/String" "value" "[B" (.ref b) ∧ Fld Z h sa "java/lang/String" "coder" "B" (.int (0 : Int32)) ∧ Arv Z h b kb .byte (2 : Int32) [(.int (nar .byte c0.toInt8.toInt32)), (.int (nar .byte c1.toInt8.toInt32))] (.int (0 : Int32))) := by
  refine Met.of (Ls0 := #[.val (.ref sa), .val (.ref a), .val (.int (0 : Int32)), .val (.int (2 : Int32)), .val .null, .unset]) pl_3 (by first | (simp [argsToLocals, Value.category]; done) | rfl) hel ?_
  have hSA : ∀ d ∈ Bundle.stringAtoms, d.before a0 Z = true := fun d hd => hw d ((by decide +kernel : ∀ d ∈ Bundle.stringAtoms, d ∈ tables_1) d hd)
  intro p e s m below meth c hx hby hml hret hlk hown hnm hZ
  refine Go.aloadN (q := 1) hx (hb hby d1_0) rfl (by rfl) rfl ?_
  refine Go.initO (q := 4) hx hZ hown (hw _ (List.mem_of_getElem? (i := 11) rfl)) (hw _ (List.mem_of_getElem? (i := 12) rfl)) (hw _ (List.mem_of_getElem? (i := 13) rfl)) (by rw [hml]; rfl) (hb hby d1_1) rfl (by decide) (Nat.le_of_ble_eq_true rfl) ?_
  refine Go.iloadN (q := 5) hx (hb hby d1_4) rfl rfl ?_
  refine Go.if_ne (q := 8) (t := 27) hx (hb hby d1_5) (by decide) rfl rfl (fun hc5 => ?_) (fun hc5 => absurd hc5 (by decide))
  refine Go.getS (q := 30) hx hZ hown (host := "") (Or.inl (hw _ (List.mem_of_getElem? (i := 14) rfl))) Via.refl (Sta.ext X0.2 SC) (hb hby d1_27) rfl ?_
  refine Go.if_eq (q := 33) (t := 58) hx (hb hby d1_30) (by decide) rfl rfl (fun hc30 => absurd hc30 hcs) (fun hc30 => ?_)
  refine Go.aloadN (q := 34) hx (hb hby d1_33) rfl (by rfl) rfl ?_
  refine Go.iloadN (q := 35) hx (hb hby d1_34) rfl rfl ?_
  refine Go.iloadN (q := 36) hx (hb hby d1_35) rfl rfl ?_
  refine Go.callS (q := 39) hx hZ (argsL := [(.ref a), (.int (0 : Int32)), (.int (2 : Int32))]) (rest := []) hown (hw _ (List.mem_of_getElem? (i := 15) rfl)) (hw _ (List.mem_of_getElem? (i := 16) rfl)) (hw _ (List.mem_of_getElem? (i := 17) rfl)) (hw _ (List.mem_of_getElem? (i := 18) rfl)) (by decide) (rmD2 l Z a0 hw hel a ka c0 c1 h0 n0 Z0 A hp0 hp1) (fun _ hx => nomatch hx) (by rw [hml]; rfl) pd_2 rfl rfl (hb hby d1_36) rfl (by decide) (Nat.le_of_ble_eq_true rfl) (ce' := 1) (sl' := 2) rfl rfl (by decide) (by decide) (fun v22 h23 hQ24 => ?_)
  have lt30 := (E).lt
  obtain ⟨b25, k26, rfl, g27, K28, V29⟩ := hQ24
  have ne31 : sa ≠ b25 := Nat.ne_of_lt (Nat.lt_of_lt_of_le lt30 g27)
  show Go _ _ _ _ _ _ _ _ _ _ _ _ _ _ _ _ _ _ _ _ 1 2 39 #[.val (.ref sa), .val (.ref a), .val (.int (0 : Int32)), .val (.int (2 : Int32)), .val .null, .unset] [(.ref b25)]
  refine Go.astore (q := 41) (l' := #[.val (.ref sa), .val (.ref a), .val (.int (0 : Int32)), .val (.int (2 : Int32)), .val .null, .val (.ref b25)]) hx (hb hby d1_39) (by rfl) rfl rfl ?_
  refine Go.aloadN (q := 42) hx (hb hby d1_41) rfl (by rfl) rfl ?_
  refine Go.aload (q := 44) hx (hb hby d1_42) rfl (by rfl) rfl ?_
  refine Go.iloadN (q := 45) hx (hb hby d1_44) rfl rfl ?_
  refine Go.callS (q := 48) hx hZ (argsL := [(.ref b25), (.int (2 : Int32))]) (rest := [(.ref sa)]) hown (hw _ (List.mem_of_getElem? (i := 23) rfl)) (hw _ (List.mem_of_getElem? (i := 24) rfl)) (hw _ (List.mem_of_getElem? (i := 17) rfl)) (hw _ (List.mem_of_getElem? (i := 25) rfl)) (by decide) (rmK l Z a0 hw hel b25 k26 (2 : Int32) _ h23 n0 (Nat.le_trans Z0 K28.1) V29) (fun _ hx => nomatch hx) (by rw [hml]; rfl) pd_3 rfl rfl (hb hby d1_45) rfl (by decide) (Nat.le_of_ble_eq_true rfl) (ce' := 1) (sl' := 2) rfl rfl (by decide) (by decide) (fun v32 h33 hQ34 => ?_)
  obtain ⟨rfl, rfl⟩ := hQ34
  show Go _ _ _ _ _ _ _ _ _ _ _ _ _ _ _ _ _ _ _ _ 1 2 48 #[.val (.ref sa), .val (.ref a), .val (.int (0 : Int32)), .val (.int (2 : Int32)), .val .null, .val (.ref b25)] [(.int (0 : Int32)), (.ref sa)]
  refine Go.putF (q := 51) hx hZ hown (host := "") (Or.inl (hw _ (List.mem_of_getElem? (i := 26) rfl))) Via.refl (F2.keep K28 nin0) (E.keep K28) (Or.inr ⟨(hw _ (List.mem_of_getElem? (i := 27) rfl)), rfl, hnm⟩) (hw _ (List.mem_of_getElem? (i := 2) rfl)) (ty := .byte) (by decide) rfl rfl gs (by simp) (hb hby d1_48) rfl (fun h35 W36 => ?_)
  refine Go.aloadN (q := 52) hx (hb hby d1_51) rfl (by rfl) rfl ?_
  refine Go.aload (q := 54) hx (hb hby d1_52) rfl (by rfl) rfl ?_
  refine Go.putF (q := 57) hx hZ hown (host := "") (Or.inl (hw _ (List.mem_of_getElem? (i := 28) rfl))) Via.refl (Fld.other W36 (F1.keep K28 nin0) (Or.inr (slot_ne (C := "java/lang/String") (Or.inr (hw _ (List.mem_of_getElem? (i := 29) rfl))) (Or.inr (hw _ (List.mem_of_getElem? (i := 27) rfl))) (by decide) (by decide : _ = some (.array .byte)) (by decide : _ = some .byte)))) (Exa.wr W36 (E.keep K28)) (Or.inr ⟨(hw _ (List.mem_of_getElem? (i := 29) rfl)), rfl, hnm⟩) (hw _ (List.mem_of_getElem? (i := 2) rfl)) (ty := (.array .byte)) (by decide) rfl rfl gs (by simp) (hb hby d1_54) rfl (fun h37 W38 => ?_)
  refine Go.ret0 hx hret hlk (hb hby d1_57) (by decide) (by decide) ?_
  exact ⟨rfl, (((Keep.trans (Keep.refl h0 [sa]) K28 all0).wr W36 (Or.inl (by simp))).wr W38 (Or.inl (by simp))), b25, k26, g27, (Fld.same W38 (Fld.other W36 (F1.keep K28 nin0) (Or.inr (slot_ne (C := "java/lang/String") (Or.inr (hw _ (List.mem_of_getElem? (i := 29) rfl))) (Or.inr (hw _ (List.mem_of_getElem? (i := 27) rfl))) (by decide) (by decide : _ = some (.array .byte)) (by decide : _ = some .byte))))), (Fld.other W38 (Fld.same W36 (F2.keep K28 nin0)) (Or.inr (slot_ne (C := "java/lang/String") (Or.inr (hw _ (List.mem_of_getElem? (i := 27) rfl))) (Or.inr (hw _ (List.mem_of_getElem? (i := 29) rfl))) (by decide) (by decide : _ = some .byte) (by decide : _ = some (.array .byte))))), ((V29.other W36 ne31.symm).other W38 ne31.symm)⟩
theorem d0_0 : decode jdk_42_method_3_code 0 = .ok (.aload_n 0, 1) := by decide +kernel
theorem d0_1 : decode jdk_42_method_3_code 1 = .ok (.aload_n 1, 1) := by decide +kernel
theorem d0_2 : decode jdk_42_method_3_code 2 = .ok (.iconst 0, 1) := by decide +kernel
theorem d0_3 : decode jdk_42_method_3_code 3 = .ok (.aload_n 1, 1) := by decide +kernel
theorem d0_4 : decode jdk_42_method_3_code 4 = .ok (.arraylength, 1) := by decide +kernel
theorem d0_5 : decode jdk_42_method_3_code 5 = .ok (.aconst_null, 1) := by decide +kernel
theorem d0_6 : decode jdk_42_method_3_code 6 = .ok (.invokespecial 27, 3) := by decide +kernel
theorem d0_9 : decode jdk_42_method_3_code 9 = .ok (.return_, 1) := by decide +kernel
theorem pl_4 : plainFor (⟨"java/lang/String", "<init>", "([C)V"⟩ : MethodName) = true := plainFor_of_name (by first | (simp [plainName, overriddenIn]; done) | decide +kernel)
theorem pd_4 : parseMethodDescriptor "([CIILjava/lang/Void;)V" = some ⟨[(.array .char), .int, .int, (.object "java/lang/Void")], none⟩ := by decide +kernel
set_option maxRecDepth 65536 in
set_option maxHeartbeats 40000000 in
theorem rmI2 (l : Launch) (Z : State) (a0 : Array Value) (hw : ∀ d ∈ tables_1, d.before a0 Z = true) (hel : EW Z a0 []) (sa a : Addr) (ka : ClassId) (cst : Int32) (c0 c1 : Int32) (h0 : Heap) (n0 : Nat) (Z0 : n0 ≤ h0.size) (gs : n0 ≤ sa) (nas : a ≠ sa) (E : Exa Z h0 sa "java/lang/String") (F1 : Fld Z h0 sa "java/lang/String" "value" "[B" .null) (F2 : Fld Z h0 sa "java/lang/String" "coder" "B" (.int (0 : Int32))) (A : Arv Z h0 a ka .char (2 : Int32) [.int c0, .int c1] (.int (0 : Int32))) (hp0 : ¬ (255 : Int32) < c0) (hp1 : ¬ (255 : Int32) < c1) (X0 : Old Z n0 h0) (SC : Sta Z Z.heap "java/lang/String" "COMPACT_STRINGS" "Z" (.int cst)) (hcs : ¬ cst = (0 : Int32)) :
    Met l Z [] [sa] (⟨"java/lang/String", "<init>", "([C)V"⟩ : MethodName) jdk_42_method_3_code 2 (Option.none : Option FieldType) [] ({ frames := 3, cells := 1, slots := 2, locals := 52 } : Room) #[(.ref sa), (.ref a)] h0 n0 (fun v h => v = none ∧ Keep h0 h [sa] ∧ ∃ b kb, h0.size ≤ b ∧ Fld Z h sa "java/lang/String" "value" "[B" (.ref b) ∧ Fld Z h sa "java/lang/String" "coder" "B" (.int (0 : Int32)) ∧ Arv Z h b kb .byte (2 : Int32) [(.int (nar .byte c0.toInt8.toInt32)), (.int (nar .byte c1.toInt8.toInt32))] (.int (0 : Int32))) := by
  refine Met.of (Ls0 := #[.val (.ref sa), .val (.ref a)]) pl_4 (by first | (simp [argsToLocals, Value.category]; done) | rfl) hel ?_
  intro p e s m below meth c hx hby hml hret hlk hown hnm hZ
  refine Go.aloadN (q := 1) hx (hb hby d0_0) rfl (by rfl) rfl ?_
  refine Go.aloadN (q := 2) hx (hb hby d0_1) rfl (by rfl) rfl ?_
  refine Go.iconst (q := 3) (z := (0 : Int32)) hx (hb hby d0_2) rfl rfl ?_
  refine Go.aloadN (q := 4) hx (hb hby d0_3) rfl (by rfl) rfl ?_
  refine Go.alen (q := 5) hx hZ A (hb hby d0_4) rfl ?_
  refine Go.aconstNull (q := 6) hx (hb hby d0_5) rfl ?_
  refine Go.callI (q := 9) hx hZ (a := sa) (argsL := [(.ref a), (.int (0 : Int32)), (.int (2 : Int32)), .null]) (rest := []) hown rfl (hw _ (List.mem_of_getElem? (i := 7) rfl)) (hw _ (List.mem_of_getElem? (i := 8) rfl)) (hw _ (List.mem_of_getElem? (i := 3) rfl)) (hw _ (List.mem_of_getElem? (i := 10) rfl)) (by decide) (rmS2 l Z a0 hw hel sa a ka cst c0 c1 h0 n0 Z0 gs nas E F1 F2 A hp0 hp1 X0 SC hcs) (by simp) (by rw [hml]; rfl) pd_4 rfl rfl (hb hby d0_6) rfl (by decide) (Nat.le_of_ble_eq_true rfl) (ce' := 1) (sl' := 2) rfl rfl (by decide) (by decide) (fun v39 h40 hQ41 => ?_)
  obtain ⟨rfl, K42, Y43⟩ := hQ41
  show Go _ _ _ _ _ _ _ _ _ _ _ _ _ _ _ _ _ _ _ _ 1 2 9 #[.val (.ref sa), .val (.ref a)] []
  refine Go.ret0 hx hret hlk (hb hby d0_9) (by decide) (by decide) ?_
  exact ⟨rfl, (Keep.trans (Keep.refl h0 [sa]) K42 (allS (Or.inl (by simp)) all0)), Y43⟩
theorem d7_0 : decode prog_96_method_1_code 0 = .ok (.aload_n 0, 1) := by decide +kernel
theorem d7_1 : decode prog_96_method_1_code 1 = .ok (.invokespecial 1, 3) := by decide +kernel
theorem d7_4 : decode prog_96_method_1_code 4 = .ok (.return_, 1) := by decide +kernel
theorem pl_5 : plainFor (⟨"com/example/resolvent/resolvent/term/Term", "<init>", "()V"⟩ : MethodName) = true := plainFor_of_name (by first | (simp [plainName, overriddenIn]; done) | decide +kernel)
set_option maxRecDepth 65536 in
set_option maxHeartbeats 40000000 in
theorem rmT (l : Launch) (Z : State) (a0 : Array Value) (hw : ∀ d ∈ tables_1, d.before a0 Z = true) (hel : EW Z a0 []) (a : Addr) (h0 : Heap) (n0 : Nat) (Z0 : n0 ≤ h0.size)  :
    Met l Z [] [] (⟨"com/example/resolvent/resolvent/term/Term", "<init>", "()V"⟩ : MethodName) prog_96_method_1_code 1 (Option.none : Option FieldType) [] ({ frames := 1, cells := 0, slots := 0, locals := 12 } : Room) #[(.ref a)] h0 n0 (fun v h => v = none ∧ h0 = h) := by
  refine Met.of (Ls0 := #[.val (.ref a)]) pl_5 (by first | (simp [argsToLocals, Value.category]; done) | rfl) hel ?_
  intro p e s m below meth c hx hby hml hret hlk hown hnm hZ
  refine Go.aloadN (q := 1) hx (hb hby d7_0) rfl (by rfl) rfl ?_
  refine Go.initO (q := 4) hx hZ hown (hw _ (List.mem_of_getElem? (i := 41) rfl)) (hw _ (List.mem_of_getElem? (i := 12) rfl)) (hw _ (List.mem_of_getElem? (i := 13) rfl)) (by rw [hml]; rfl) (hb hby d7_1) rfl (by decide) (Nat.le_of_ble_eq_true rfl) ?_
  refine Go.ret0 hx hret hlk (hb hby d7_4) (by decide) (by decide) ?_
  exact ⟨rfl, rfl⟩
theorem d16_0 : decode jdk_18_method_1_code 0 = .ok (.aload_n 0, 1) := by decide +kernel
theorem d16_1 : decode jdk_18_method_1_code 1 = .ok (.invokespecial 1, 3) := by decide +kernel
theorem d16_4 : decode jdk_18_method_1_code 4 = .ok (.return_, 1) := by decide +kernel
theorem pl_6 : plainFor (⟨"java/lang/Number", "<init>", "()V"⟩ : MethodName) = true := plainFor_of_name (by first | (simp [plainName, overriddenIn]; done) | decide +kernel)
set_option maxRecDepth 65536 in
set_option maxHeartbeats 40000000 in
theorem rmN (l : Launch) (Z : State) (a0 : Array Value) (hw : ∀ d ∈ tables_1, d.before a0 Z = true) (hel : EW Z a0 []) (a : Addr) (h0 : Heap) (n0 : Nat) (Z0 : n0 ≤ h0.size)  :
    Met l Z [] [] (⟨"java/lang/Number", "<init>", "()V"⟩ : MethodName) jdk_18_method_1_code 1 (Option.none : Option FieldType) [] ({ frames := 1, cells := 0, slots := 0, locals := 12 } : Room) #[(.ref a)] h0 n0 (fun v h => v = none ∧ h0 = h) := by
  refine Met.of (Ls0 := #[.val (.ref a)]) pl_6 (by first | (simp [argsToLocals, Value.category]; done) | rfl) hel ?_
  intro p e s m below meth c hx hby hml hret hlk hown hnm hZ
  refine Go.aloadN (q := 1) hx (hb hby d16_0) rfl (by rfl) rfl ?_
  refine Go.initO (q := 4) hx hZ hown (hw _ (List.mem_of_getElem? (i := 114) rfl)) (hw _ (List.mem_of_getElem? (i := 12) rfl)) (hw _ (List.mem_of_getElem? (i := 13) rfl)) (by rw [hml]; rfl) (hb hby d16_1) rfl (by decide) (Nat.le_of_ble_eq_true rfl) ?_
  refine Go.ret0 hx hret hlk (hb hby d16_4) (by decide) (by decide) ?_
  exact ⟨rfl, rfl⟩
theorem d8_0 : decode jdk_31_method_11_code 0 = .ok (.aload_n 0, 1) := by decide +kernel
theorem d8_1 : decode jdk_31_method_11_code 1 = .ok (.ifnonnull 12, 3) := by decide +kernel
theorem d8_4 : decode jdk_31_method_11_code 4 = .ok (.new 84, 3) := by decide +kernel
theorem d8_7 : decode jdk_31_method_11_code 7 = .ok (.dup, 1) := by decide +kernel
theorem d8_8 : decode jdk_31_method_11_code 8 = .ok (.aload_n 1, 1) := by decide +kernel
theorem d8_9 : decode jdk_31_method_11_code 9 = .ok (.invokespecial 87, 3) := by decide +kernel
theorem d8_12 : decode jdk_31_method_11_code 12 = .ok (.athrow, 1) := by decide +kernel
theorem d8_13 : decode jdk_31_method_11_code 13 = .ok (.aload_n 0, 1) := by decide +kernel
theorem d8_14 : decode jdk_31_method_11_code 14 = .ok (.areturn, 1) := by decide +kernel
theorem pl_7 : plainFor (⟨"java/util/Objects", "requireNonNull", "(Ljava/lang/Object;Ljava/lang/String;)Ljava/lang/Object;"⟩ : MethodName) = true := plainFor_of_name (by first | (simp [plainName, overriddenIn]; done) | decide +kernel)
set_option maxRecDepth 65536 in
set_option maxHeartbeats 40000000 in
theorem rmQ (l : Launch) (Z : State) (a0 : Array Value) (hw : ∀ d ∈ tables_1, d.before a0 Z = true) (hel : EW Z a0 []) (o m' : Addr) (h0 : Heap) (n0 : Nat) (Z0 : n0 ≤ h0.size)  :
    Met l Z [] [] (⟨"java/util/Objects", "requireNonNull", "(Ljava/lang/Object;Ljava/lang/String;)Ljava/lang/Object;"⟩ : MethodName) jdk_31_method_11_code 2 (Option.some (FieldType.object "java/lang/Object")) [] ({ frames := 0, cells := 0, slots := 0, locals := 0 } : Room) #[(.ref o), (.ref m')] h0 n0 (fun v h => v = some (.ref o) ∧ h0 = h) := by
  refine Met.of (Ls0 := #[.val (.ref o), .val (.ref m')]) pl_7 (by first | (simp [argsToLocals, Value.category]; done) | rfl) hel ?_
  intro p e s m below meth c hx hby hml hret hlk hown hnm hZ
  refine Go.aloadN (q := 1) hx (hb hby d8_0) rfl (by rfl) rfl ?_
  refine Go.ifnonnullT (t := 13) hx (hb hby d8_1) (by decide) rfl ?_
  refine Go.aloadN (q := 14) hx (hb hby d8_13) rfl (by rfl) rfl ?_
  refine Go.retA hx hret rfl (by rfl) hlk (hb hby d8_14) (by decide) (by decide) ?_
  exact ⟨rfl, rfl⟩
theorem d6_0 : decode prog_86_method_1_code 0 = .ok (.aload_n 0, 1) := by decide +kernel
theorem d6_1 : decode prog_86_method_1_code 1 = .ok (.invokespecial 1, 3) := by decide +kernel
theorem d6_4 : decode prog_86_method_1_code 4 = .ok (.aload_n 0, 1) := by decide +kernel
theorem d6_5 : decode prog_86_method_1_code 5 = .ok (.aload_n 1, 1) := by decide +kernel
theorem d6_6 : decode prog_86_method_1_code 6 = .ok (.ldc 7, 2) := by decide +kernel
theorem d6_8 : decode prog_86_method_1_code 8 = .ok (.invokestatic 9, 3) := by decide +kernel
theorem d6_11 : decode prog_86_method_1_code 11 = .ok (.checkcast 15, 3) := by decide +kernel
theorem d6_14 : decode prog_86_method_1_code 14 = .ok (.putfield 17, 3) := by decide +kernel
theorem d6_17 : decode prog_86_method_1_code 17 = .ok (.return_, 1) := by decide +kernel
theorem pl_8 : plainFor (⟨"com/example/resolvent/resolvent/term/Atom", "<init>", "(Ljava/lang/String;)V"⟩ : MethodName) = true := plainFor_of_name (by first | (simp [plainName, overriddenIn]; done) | decide +kernel)
theorem pd_5 : parseMethodDescriptor "(Ljava/lang/Object;Ljava/lang/String;)Ljava/lang/Object;" = some ⟨[(.object "java/lang/Object"), (.object "java/lang/String")], some (.object "java/lang/Object")⟩ := by decide +kernel
set_option maxRecDepth 65536 in
set_option maxHeartbeats 40000000 in
theorem rmA (l : Launch) (Z : State) (a0 : Array Value) (hw : ∀ d ∈ tables_1, d.before a0 Z = true) (hel : EW Z a0 []) (a : Addr) (nm : Addr) (h0 : Heap) (n0 : Nat) (Z0 : n0 ≤ h0.size) (ga : n0 ≤ a) (E : Exa Z h0 a "com/example/resolvent/resolvent/term/Atom") (F0 : Fld Z h0 a "com/example/resolvent/resolvent/term/Atom" "name" "Ljava/lang/String;" (.null)) (G : Exa Z h0 nm "java/lang/String") :
    Met l Z [] [a] (⟨"com/example/resolvent/resolvent/term/Atom", "<init>", "(Ljava/lang/String;)V"⟩ : MethodName) prog_86_method_1_code 2 (Option.none : Option FieldType) [] ({ frames := 2, cells := 2, slots := 20, locals := 24 } : Room) #[(.ref a), (.ref nm)] h0 n0 (fun v h => v = none ∧ Keep h0 h [a]) := by
  refine Met.of (Ls0 := #[.val (.ref a), .val (.ref nm)]) pl_8 (by first | (simp [argsToLocals, Value.category]; done) | rfl) hel ?_
  have hSA : ∀ d ∈ Bundle.stringAtoms, d.before a0 Z = true := fun d hd => hw d ((by decide +kernel : ∀ d ∈ Bundle.stringAtoms, d ∈ tables_1) d hd)
  intro p e s m below meth c hx hby hml hret hlk hown hnm hZ
  refine Go.aloadN (q := 1) hx (hb hby d6_0) rfl (by rfl) rfl ?_
  refine Go.callI (q := 4) hx hZ (a := a) (argsL := []) (rest := []) hown rfl (hw _ (List.mem_of_getElem? (i := 36) rfl)) (hw _ (List.mem_of_getElem? (i := 37) rfl)) (hw _ (List.mem_of_getElem? (i := 39) rfl)) (hw _ (List.mem_of_getElem? (i := 40) rfl)) (by decide) (rmT l Z a0 hw hel a h0 n0 Z0) (fun _ hx => nomatch hx) (by rw [hml]; rfl) pd_1 rfl rfl (hb hby d6_1) rfl (by decide) (Nat.le_of_ble_eq_true rfl) (ce' := 0) (sl' := 0) rfl rfl (by decide) (by decide) (fun v44 h45 hQ46 => ?_)
  obtain ⟨rfl, rfl⟩ := hQ46
  show Go _ _ _ _ _ _ _ _ _ _ _ _ _ _ _ _ _ _ _ _ 0 0 4 #[.val (.ref a), .val (.ref nm)] []
  refine Go.aloadN (q := 5) hx (hb hby d6_4) rfl (by rfl) rfl ?_
  refine Go.aloadN (q := 6) hx (hb hby d6_5) rfl (by rfl) rfl ?_
  refine Go.ldcOpq (q := 8) (nn := 16) hx hZ hown (hw _ (List.mem_of_getElem? (i := 42) rfl)) hSA (hb hby d6_6) rfl (by decide) (by decide) (ce' := 2) (sl' := 20) rfl rfl (by decide) (by decide) (fun h47 a48 E49 => ?_)
  refine Go.callS (q := 11) hx hZ (argsL := [(.ref nm), (.ref a48)]) (rest := [(.ref a)]) hown (hw _ (List.mem_of_getElem? (i := 45) rfl)) (hw _ (List.mem_of_getElem? (i := 46) rfl)) (hw _ (List.mem_of_getElem? (i := 47) rfl)) (hw _ (List.mem_of_getElem? (i := 48) rfl)) (by decide) (rmQ l Z a0 hw hel nm a48 h47 n0 (Nat.le_trans Z0 E49.1)) (fun _ hx => nomatch hx) (by rw [hml]; rfl) pd_5 rfl rfl (hb hby d6_8) rfl (by decide) (Nat.le_of_ble_eq_true rfl) (ce' := 2) (sl' := 20) rfl rfl (by decide) (by decide) (fun v50 h51 hQ52 => ?_)
  obtain ⟨rfl, rfl⟩ := hQ52
  show Go _ _ _ _ _ _ _ _ _ _ _ _ _ _ _ _ _ _ _ _ 2 20 11 #[.val (.ref a), .val (.ref nm)] [(.ref nm), (.ref a)]
  refine Go.castY (q := 14) hx hZ hown (hw _ (List.mem_of_getElem? (i := 49) rfl)) (Ins.self (Exa.ext E49 G)) (hb hby d6_11) rfl ?_
  refine Go.putF (q := 17) hx hZ hown (host := "") (Or.inl (hw _ (List.mem_of_getElem? (i := 50) rfl))) Via.refl (Fld.ext E49 F0) (Exa.ext E49 E) (Or.inr ⟨(hw _ (List.mem_of_getElem? (i := 51) rfl)), rfl, hnm⟩) (hw _ (List.mem_of_getElem? (i := 31) rfl)) (ty := (.object "java/lang/String")) (by decide) rfl rfl ga (by simp) (hb hby d6_14) rfl (fun h53 W54 => ?_)
  refine Go.ret0 hx hret hlk (hb hby d6_17) (by decide) (by decide) ?_
  exact ⟨rfl, (((Keep.refl h0 [a]).ext E49).wr W54 (Or.inl (by simp)))⟩
theorem d17_0 : decode prog_89_method_1_code 0 = .ok (.aload_n 0, 1) := by decide +kernel
theorem d17_1 : decode prog_89_method_1_code 1 = .ok (.invokespecial 1, 3) := by decide +kernel
theorem d17_4 : decode prog_89_method_1_code 4 = .ok (.aload_n 0, 1) := by decide +kernel
theorem d17_5 : decode prog_89_method_1_code 5 = .ok (.aload_n 1, 1) := by decide +kernel
theorem d17_6 : decode prog_89_method_1_code 6 = .ok (.ldc 7, 2) := by decide +kernel
theorem d17_8 : decode prog_89_method_1_code 8 = .ok (.invokestatic 9, 3) := by decide +kernel
theorem d17_11 : decode prog_89_method_1_code 11 = .ok (.checkcast 15, 3) := by decide +kernel
theorem d17_14 : decode prog_89_method_1_code 14 = .ok (.putfield 17, 3) := by decide +kernel
theorem d17_17 : decode prog_89_method_1_code 17 = .ok (.return_, 1) := by decide +kernel
theorem pl_9 : plainFor (⟨"com/example/resolvent/resolvent/term/Int", "<init>", "(Ljava/math/BigInteger;)V"⟩ : MethodName) = true := plainFor_of_name (by first | (simp [plainName, overriddenIn]; done) | decide +kernel)
set_option maxRecDepth 65536 in
set_option maxHeartbeats 40000000 in
theorem rmInt (l : Launch) (Z : State) (a0 : Array Value) (hw : ∀ d ∈ tables_1, d.before a0 Z = true) (hel : EW Z a0 []) (a : Addr) (nm : Addr) (h0 : Heap) (n0 : Nat) (Z0 : n0 ≤ h0.size) (ga : n0 ≤ a) (E : Exa Z h0 a "com/example/resolvent/resolvent/term/Int") (F0 : Fld Z h0 a "com/example/resolvent/resolvent/term/Int" "value" "Ljava/math/BigInteger;" (.null)) (G : Exa Z h0 nm "java/math/BigInteger") :
    Met l Z [] [a] (⟨"com/example/resolvent/resolvent/term/Int", "<init>", "(Ljava/math/BigInteger;)V"⟩ : MethodName) prog_89_method_1_code 2 (Option.none : Option FieldType) [] ({ frames := 2, cells := 2, slots := 24, locals := 24 } : Room) #[(.ref a), (.ref nm)] h0 n0 (fun v h => v = none ∧ Keep h0 h [a]) := by
  refine Met.of (Ls0 := #[.val (.ref a), .val (.ref nm)]) pl_9 (by first | (simp [argsToLocals, Value.category]; done) | rfl) hel ?_
  have hSA : ∀ d ∈ Bundle.stringAtoms, d.before a0 Z = true := fun d hd => hw d ((by decide +kernel : ∀ d ∈ Bundle.stringAtoms, d ∈ tables_1) d hd)
  intro p e s m below meth c hx hby hml hret hlk hown hnm hZ
  refine Go.aloadN (q := 1) hx (hb hby d17_0) rfl (by rfl) rfl ?_
  refine Go.callI (q := 4) hx hZ (a := a) (argsL := []) (rest := []) hown rfl (hw _ (List.mem_of_getElem? (i := 123) rfl)) (hw _ (List.mem_of_getElem? (i := 37) rfl)) (hw _ (List.mem_of_getElem? (i := 39) rfl)) (hw _ (List.mem_of_getElem? (i := 40) rfl)) (by decide) (rmT l Z a0 hw hel a h0 n0 Z0) (fun _ hx => nomatch hx) (by rw [hml]; rfl) pd_1 rfl rfl (hb hby d17_1) rfl (by decide) (Nat.le_of_ble_eq_true rfl) (ce' := 0) (sl' := 0) rfl rfl (by decide) (by decide) (fun v55 h56 hQ57 => ?_)
  obtain ⟨rfl, rfl⟩ := hQ57
  show Go _ _ _ _ _ _ _ _ _ _ _ _ _ _ _ _ _ _ _ _ 0 0 4 #[.val (.ref a), .val (.ref nm)] []
  refine Go.aloadN (q := 5) hx (hb hby d17_4) rfl (by rfl) rfl ?_
  refine Go.aloadN (q := 6) hx (hb hby d17_5) rfl (by rfl) rfl ?_
  refine Go.ldcOpq (q := 8) (nn := 20) hx hZ hown (hw _ (List.mem_of_getElem? (i := 124) rfl)) hSA (hb hby d17_6) rfl (by decide) (by decide) (ce' := 2) (sl' := 24) rfl rfl (by decide) (by decide) (fun h58 a59 E60 => ?_)
  refine Go.callS (q := 11) hx hZ (argsL := [(.ref nm), (.ref a59)]) (rest := [(.ref a)]) hown (hw _ (List.mem_of_getElem? (i := 125) rfl)) (hw _ (List.mem_of_getElem? (i := 46) rfl)) (hw _ (List.mem_of_getElem? (i := 47) rfl)) (hw _ (List.mem_of_getElem? (i := 48) rfl)) (by decide) (rmQ l Z a0 hw hel nm a59 h58 n0 (Nat.le_trans Z0 E60.1)) (fun _ hx => nomatch hx) (by rw [hml]; rfl) pd_5 rfl rfl (hb hby d17_8) rfl (by decide) (Nat.le_of_ble_eq_true rfl) (ce' := 2) (sl' := 24) rfl rfl (by decide) (by decide) (fun v61 h62 hQ63 => ?_)
  obtain ⟨rfl, rfl⟩ := hQ63
  show Go _ _ _ _ _ _ _ _ _ _ _ _ _ _ _ _ _ _ _ _ 2 24 11 #[.val (.ref a), .val (.ref nm)] [(.ref nm), (.ref a)]
  refine Go.castY (q := 14) hx hZ hown (hw _ (List.mem_of_getElem? (i := 126) rfl)) (Ins.self (Exa.ext E60 G)) (hb hby d17_11) rfl ?_
  refine Go.putF (q := 17) hx hZ hown (host := "") (Or.inl (hw _ (List.mem_of_getElem? (i := 127) rfl))) Via.refl (Fld.ext E60 F0) (Exa.ext E60 E) (Or.inl (hw _ (List.mem_of_getElem? (i := 128) rfl))) (hw _ (List.mem_of_getElem? (i := 95) rfl)) (ty := (.object "java/math/BigInteger")) (by decide) rfl rfl ga (by simp) (hb hby d17_14) rfl (fun h64 W65 => ?_)
  refine Go.ret0 hx hret hlk (hb hby d17_17) (by decide) (by decide) ?_
  exact ⟨rfl, (((Keep.refl h0 [a]).ext E60).wr W65 (Or.inl (by simp)))⟩
theorem d19_0 : decode prog_121_method_2_code 0 = .ok (.aload_n 0, 1) := by decide +kernel
theorem d19_1 : decode prog_121_method_2_code 1 = .ok (.invokespecial 7, 3) := by decide +kernel
theorem d19_4 : decode prog_121_method_2_code 4 = .ok (.aload_n 0, 1) := by decide +kernel
theorem d19_5 : decode prog_121_method_2_code 5 = .ok (.aload_n 1, 1) := by decide +kernel
theorem d19_6 : decode prog_121_method_2_code 6 = .ok (.ldc 12, 2) := by decide +kernel
theorem d19_8 : decode prog_121_method_2_code 8 = .ok (.invokestatic 14, 3) := by decide +kernel
theorem d19_11 : decode prog_121_method_2_code 11 = .ok (.checkcast 20, 3) := by decide +kernel
theorem d19_14 : decode prog_121_method_2_code 14 = .ok (.putfield 22, 3) := by decide +kernel
theorem d19_17 : decode prog_121_method_2_code 17 = .ok (.aload_n 0, 1) := by decide +kernel
theorem d19_18 : decode prog_121_method_2_code 18 = .ok (.aload_n 2, 1) := by decide +kernel
theorem d19_19 : decode prog_121_method_2_code 19 = .ok (.putfield 25, 3) := by decide +kernel
theorem d19_22 : decode prog_121_method_2_code 22 = .ok (.aload_n 0, 1) := by decide +kernel
theorem d19_23 : decode prog_121_method_2_code 23 = .ok (.lload_n 3, 1) := by decide +kernel
theorem d19_24 : decode prog_121_method_2_code 24 = .ok (.putfield 29, 3) := by decide +kernel
theorem d19_27 : decode prog_121_method_2_code 27 = .ok (.return_, 1) := by decide +kernel
theorem pl_10 : plainFor (⟨"com/example/resolvent/resolvent/term/Variable", "<init>", "(Ljava/lang/String;Lcom/example/resolvent/resolvent/term/VariableStore;J)V"⟩ : MethodName) = true := plainFor_of_name (by first | (simp [plainName, overriddenIn]; done) | decide +kernel)
set_option maxRecDepth 65536 in
set_option maxHeartbeats 40000000 in
theorem rmV3 (l : Launch) (Z : State) (a0 : Array Value) (hw : ∀ d ∈ tables_1, d.before a0 Z = true) (hel : EW Z a0 []) (a : Addr) (nm : Addr) (h0 : Heap) (n0 : Nat) (Z0 : n0 ≤ h0.size) (ga : n0 ≤ a) (E : Exa Z h0 a "com/example/resolvent/resolvent/term/Variable") (F0 : Fld Z h0 a "com/example/resolvent/resolvent/term/Variable" "name" "Ljava/lang/String;" (.null)) (F1 : Fld Z h0 a "com/example/resolvent/resolvent/term/Variable" "store" "Lcom/example/resolvent/resolvent/term/VariableStore;" (.null)) (F2 : Fld Z h0 a "com/example/resolvent/resolvent/term/Variable" "serial" "J" (.long (0 : Int64))) (G : Exa Z h0 nm "java/lang/String") :
    Met l Z [] [a] (⟨"com/example/resolvent/resolvent/term/Variable", "<init>", "(Ljava/lang/String;Lcom/example/resolvent/resolvent/term/VariableStore;J)V"⟩ : MethodName) prog_121_method_2_code 5 (Option.none : Option FieldType) [] ({ frames := 2, cells := 2, slots := 20, locals := 24 } : Room) #[(.ref a), (.ref nm), .null, (.long (0 : Int64))] h0 n0 (fun v h => v = none ∧ Keep h0 h [a]) := by
  refine Met.of (Ls0 := #[.val (.ref a), .val (.ref nm), .val .null, .val (.long (0 : Int64)), .second]) pl_10 (by first | (simp [argsToLocals, Value.category]; done) | rfl) hel ?_
  have hSA : ∀ d ∈ Bundle.stringAtoms, d.before a0 Z = true := fun d hd => hw d ((by decide +kernel : ∀ d ∈ Bundle.stringAtoms, d ∈ tables_1) d hd)
  intro p e s m below meth c hx hby hml hret hlk hown hnm hZ
  refine Go.aloadN (q := 1) hx (hb hby d19_0) rfl (by rfl) rfl ?_
  refine Go.callI (q := 4) hx hZ (a := a) (argsL := []) (rest := []) hown rfl (hw _ (List.mem_of_getElem? (i := 141) rfl)) (hw _ (List.mem_of_getElem? (i := 37) rfl)) (hw _ (List.mem_of_getElem? (i := 39) rfl)) (hw _ (List.mem_of_getElem? (i := 40) rfl)) (by decide) (rmT l Z a0 hw hel a h0 n0 Z0) (fun _ hx => nomatch hx) (by rw [hml]; rfl) pd_1 rfl rfl (hb hby d19_1) rfl (by decide) (Nat.le_of_ble_eq_true rfl) (ce' := 0) (sl' := 0) rfl rfl (by decide) (by decide) (fun v66 h67 hQ68 => ?_)
  obtain ⟨rfl, rfl⟩ := hQ68
  show Go _ _ _ _ _ _ _ _ _ _ _ _ _ _ _ _ _ _ _ _ 0 0 4 #[.val (.ref a), .val (.ref nm), .val .null, .val (.long (0 : Int64)), .second] []
  refine Go.aloadN (q := 5) hx (hb hby d19_4) rfl (by rfl) rfl ?_
  refine Go.aloadN (q := 6) hx (hb hby d19_5) rfl (by rfl) rfl ?_
  refine Go.ldcOpq (q := 8) (nn := 16) hx hZ hown (hw _ (List.mem_of_getElem? (i := 142) rfl)) hSA (hb hby d19_6) rfl (by decide) (by decide) (ce' := 2) (sl' := 20) rfl rfl (by decide) (by decide) (fun h69 a70 E71 => ?_)
  refine Go.callS (q := 11) hx hZ (argsL := [(.ref nm), (.ref a70)]) (rest := [(.ref a)]) hown (hw _ (List.mem_of_getElem? (i := 143) rfl)) (hw _ (List.mem_of_getElem? (i := 46) rfl)) (hw _ (List.mem_of_getElem? (i := 47) rfl)) (hw _ (List.mem_of_getElem? (i := 48) rfl)) (by decide) (rmQ l Z a0 hw hel nm a70 h69 n0 (Nat.le_trans Z0 E71.1)) (fun _ hx => nomatch hx) (by rw [hml]; rfl) pd_5 rfl rfl (hb hby d19_8) rfl (by decide) (Nat.le_of_ble_eq_true rfl) (ce' := 2) (sl' := 20) rfl rfl (by decide) (by decide) (fun v72 h73 hQ74 => ?_)
  obtain ⟨rfl, rfl⟩ := hQ74
  show Go _ _ _ _ _ _ _ _ _ _ _ _ _ _ _ _ _ _ _ _ 2 20 11 #[.val (.ref a), .val (.ref nm), .val .null, .val (.long (0 : Int64)), .second] [(.ref nm), (.ref a)]
  refine Go.castY (q := 14) hx hZ hown (hw _ (List.mem_of_getElem? (i := 144) rfl)) (Ins.self (Exa.ext E71 G)) (hb hby d19_11) rfl ?_
  refine Go.putF (q := 17) hx hZ hown (host := "") (Or.inl (hw _ (List.mem_of_getElem? (i := 145) rfl))) Via.refl (Fld.ext E71 F0) (Exa.ext E71 E) (Or.inl (hw _ (List.mem_of_getElem? (i := 146) rfl))) (hw _ (List.mem_of_getElem? (i := 133) rfl)) (ty := (.object "java/lang/String")) (by decide) rfl rfl ga (by simp) (hb hby d19_14) rfl (fun h75 W76 => ?_)
  refine Go.aloadN (q := 18) hx (hb hby d19_17) rfl (by rfl) rfl ?_
  refine Go.aloadN (q := 19) hx (hb hby d19_18) rfl (by rfl) rfl ?_
  refine Go.putF (q := 22) hx hZ hown (host := "") (Or.inl (hw _ (List.mem_of_getElem? (i := 147) rfl))) Via.refl (Fld.other W76 (Fld.ext E71 F1) (Or.inr (slot_ne (C := "com/example/resolvent/resolvent/term/Variable") (Or.inl (hw _ (List.mem_of_getElem? (i := 148) rfl))) (Or.inl (hw _ (List.mem_of_getElem? (i := 146) rfl))) (by decide) (by decide : _ = some (.object "com/example/resolvent/resolvent/term/VariableStore")) (by decide : _ = some (.object "java/lang/String"))))) (Exa.wr W76 (Exa.ext E71 E)) (Or.inl (hw _ (List.mem_of_getElem? (i := 148) rfl))) (hw _ (List.mem_of_getElem? (i := 133) rfl)) (ty := (.object "com/example/resolvent/resolvent/term/VariableStore")) (by decide) rfl rfl ga (by simp) (hb hby d19_19) rfl (fun h77 W78 => ?_)
  refine Go.aloadN (q := 23) hx (hb hby d19_22) rfl (by rfl) rfl ?_
  refine Go.lloadN (q := 24) hx (hb hby d19_23) rfl rfl ?_
  refine Go.putF (q := 27) hx hZ hown (host := "") (Or.inl (hw _ (List.mem_of_getElem? (i := 149) rfl))) Via.refl (Fld.other W78 (Fld.other W76 (Fld.ext E71 F2) (Or.inr (slot_ne (C := "com/example/resolvent/resolvent/term/Variable") (Or.inl (hw _ (List.mem_of_getElem? (i := 150) rfl))) (Or.inl (hw _ (List.mem_of_getElem? (i := 146) rfl))) (by decide) (by decide : _ = some .long) (by decide : _ = some (.object "java/lang/String"))))) (Or.inr (slot_ne (C := "com/example/resolvent/resolvent/term/Variable") (Or.inl (hw _ (List.mem_of_getElem? (i := 150) rfl))) (Or.inl (hw _ (List.mem_of_getElem? (i := 148) rfl))) (by decide) (by decide : _ = some .long) (by decide : _ = some (.object "com/example/resolvent/resolvent/term/VariableStore"))))) (Exa.wr W78 (Exa.wr W76 (Exa.ext E71 E))) (Or.inl (hw _ (List.mem_of_getElem? (i := 150) rfl))) (hw _ (List.mem_of_getElem? (i := 133) rfl)) (ty := .long) (by decide) rfl rfl ga (by simp) (hb hby d19_24) rfl (fun h79 W80 => ?_)
  refine Go.ret0 hx hret hlk (hb hby d19_27) (by decide) (by decide) ?_
  exact ⟨rfl, (((((Keep.refl h0 [a]).ext E71).wr W76 (Or.inl (by simp))).wr W78 (Or.inl (by simp))).wr W80 (Or.inl (by simp)))⟩
theorem d18_0 : decode prog_121_method_1_code 0 = .ok (.aload_n 0, 1) := by decide +kernel
theorem d18_1 : decode prog_121_method_1_code 1 = .ok (.aload_n 1, 1) := by decide +kernel
theorem d18_2 : decode prog_121_method_1_code 2 = .ok (.aconst_null, 1) := by decide +kernel
theorem d18_3 : decode prog_121_method_1_code 3 = .ok (.lconst 0, 1) := by decide +kernel
theorem d18_4 : decode prog_121_method_1_code 4 = .ok (.invokespecial 1, 3) := by decide +kernel
theorem d18_7 : decode prog_121_method_1_code 7 = .ok (.return_, 1) := by decide +kernel
theorem pl_11 : plainFor (⟨"com/example/resolvent/resolvent/term/Variable", "<init>", "(Ljava/lang/String;)V"⟩ : MethodName) = true := plainFor_of_name (by first | (simp [plainName, overriddenIn]; done) | decide +kernel)
theorem pd_6 : parseMethodDescriptor "(Ljava/lang/String;Lcom/example/resolvent/resolvent/term/VariableStore;J)V" = some ⟨[(.object "java/lang/String"), (.object "com/example/resolvent/resolvent/term/VariableStore"), .long], none⟩ := by decide +kernel
set_option maxRecDepth 65536 in
set_option maxHeartbeats 40000000 in
theorem rmV (l : Launch) (Z : State) (a0 : Array Value) (hw : ∀ d ∈ tables_1, d.before a0 Z = true) (hel : EW Z a0 []) (a : Addr) (nm : Addr) (h0 : Heap) (n0 : Nat) (Z0 : n0 ≤ h0.size) (ga : n0 ≤ a) (E : Exa Z h0 a "com/example/resolvent/resolvent/term/Variable") (F0 : Fld Z h0 a "com/example/resolvent/resolvent/term/Variable" "name" "Ljava/lang/String;" (.null)) (F1 : Fld Z h0 a "com/example/resolvent/resolvent/term/Variable" "store" "Lcom/example/resolvent/resolvent/term/VariableStore;" (.null)) (F2 : Fld Z h0 a "com/example/resolvent/resolvent/term/Variable" "serial" "J" (.long (0 : Int64))) (G : Exa Z h0 nm "java/lang/String") :
    Met l Z [] [a] (⟨"com/example/resolvent/resolvent/term/Variable", "<init>", "(Ljava/lang/String;)V"⟩ : MethodName) prog_121_method_1_code 2 (Option.none : Option FieldType) [] ({ frames := 3, cells := 2, slots := 20, locals := 40 } : Room) #[(.ref a), (.ref nm)] h0 n0 (fun v h => v = none ∧ Keep h0 h [a]) := by
  refine Met.of (Ls0 := #[.val (.ref a), .val (.ref nm)]) pl_11 (by first | (simp [argsToLocals, Value.category]; done) | rfl) hel ?_
  intro p e s m below meth c hx hby hml hret hlk hown hnm hZ
  refine Go.aloadN (q := 1) hx (hb hby d18_0) rfl (by rfl) rfl ?_
  refine Go.aloadN (q := 2) hx (hb hby d18_1) rfl (by rfl) rfl ?_
  refine Go.aconstNull (q := 3) hx (hb hby d18_2) rfl ?_
  refine Go.lconst (q := 4) (z := (0 : Int64)) hx (hb hby d18_3) rfl rfl ?_
  refine Go.callI (q := 7) hx hZ (a := a) (argsL := [(.ref nm), .null, (.long (0 : Int64))]) (rest := []) hown rfl (hw _ (List.mem_of_getElem? (i := 138) rfl)) (hw _ (List.mem_of_getElem? (i := 139) rfl)) (hw _ (List.mem_of_getElem? (i := 134) rfl)) (hw _ (List.mem_of_getElem? (i := 140) rfl)) (by decide) (rmV3 l Z a0 hw hel a nm h0 n0 Z0 ga E F0 F1 F2 G) (by simp) (by rw [hml]; rfl) pd_6 rfl rfl (hb hby d18_4) rfl (by decide) (Nat.le_of_ble_eq_true rfl) (ce' := 2) (sl' := 20) rfl rfl (by decide) (by decide) (fun v81 h82 hQ83 => ?_)
  obtain ⟨rfl, K84⟩ := hQ83
  show Go _ _ _ _ _ _ _ _ _ _ _ _ _ _ _ _ _ _ _ _ 2 20 7 #[.val (.ref a), .val (.ref nm)] []
  refine Go.ret0 hx hret hlk (hb hby d18_7) (by decide) (by decide) ?_
  exact ⟨rfl, (Keep.trans (Keep.refl h0 [a]) K84 (allS (Or.inl (by simp)) all0))⟩
theorem d13_0 : decode prog_88_method_5_code 0 = .ok (.aload_n 0, 1) := by decide +kernel
theorem d13_1 : decode prog_88_method_5_code 1 = .ok (.invokespecial 22, 3) := by decide +kernel
theorem d13_4 : decode prog_88_method_5_code 4 = .ok (.aload_n 0, 1) := by decide +kernel
theorem d13_5 : decode prog_88_method_5_code 5 = .ok (.aload_n 1, 1) := by decide +kernel
theorem d13_6 : decode prog_88_method_5_code 6 = .ok (.putfield 27, 3) := by decide +kernel
theorem d13_9 : decode prog_88_method_5_code 9 = .ok (.aload_n 0, 1) := by decide +kernel
theorem d13_10 : decode prog_88_method_5_code 10 = .ok (.iload_n 2, 1) := by decide +kernel
theorem d13_11 : decode prog_88_method_5_code 11 = .ok (.putfield 31, 3) := by decide +kernel
theorem d13_14 : decode prog_88_method_5_code 14 = .ok (.aload_n 0, 1) := by decide +kernel
theorem d13_15 : decode prog_88_method_5_code 15 = .ok (.aload_n 3, 1) := by decide +kernel
theorem d13_16 : decode prog_88_method_5_code 16 = .ok (.putfield 35, 3) := by decide +kernel
theorem d13_19 : decode prog_88_method_5_code 19 = .ok (.aload_n 0, 1) := by decide +kernel
theorem d13_20 : decode prog_88_method_5_code 20 = .ok (.aload 4, 2) := by decide +kernel
theorem d13_22 : decode prog_88_method_5_code 22 = .ok (.putfield 39, 3) := by decide +kernel
theorem d13_25 : decode prog_88_method_5_code 25 = .ok (.aload_n 0, 1) := by decide +kernel
theorem d13_26 : decode prog_88_method_5_code 26 = .ok (.aload 5, 2) := by decide +kernel
theorem d13_28 : decode prog_88_method_5_code 28 = .ok (.putfield 42, 3) := by decide +kernel
theorem d13_31 : decode prog_88_method_5_code 31 = .ok (.return_, 1) := by decide +kernel
theorem pl_12 : plainFor (⟨"com/example/resolvent/resolvent/term/Compound", "<init>", "(Ljava/lang/String;ILcom/example/resolvent/resolvent/term/Term;Lcom/example/resolvent/resolvent/term/Term;[Lcom/example/resolvent/resolvent/term/Term;)V"⟩ : MethodName) = true := plainFor_of_name (by first | (simp [plainName, overriddenIn]; done) | decide +kernel)
set_option maxRecDepth 65536 in
set_option maxHeartbeats 40000000 in
theorem rmC5 (l : Launch) (Z : State) (a0 : Array Value) (hw : ∀ d ∈ tables_1, d.before a0 Z = true) (hel : EW Z a0 []) (a : Addr) (nm t1 : Addr) (h0 : Heap) (n0 : Nat) (Z0 : n0 ≤ h0.size) (ga : n0 ≤ a) (E : Exa Z h0 a "com/example/resolvent/resolvent/term/Compound") (F0 : Fld Z h0 a "com/example/resolvent/resolvent/term/Compound" "name" "Ljava/lang/String;" (.null)) (F1 : Fld Z h0 a "com/example/resolvent/resolvent/term/Compound" "arity" "I" (.int (0 : Int32))) (F2 : Fld Z h0 a "com/example/resolvent/resolvent/term/Compound" "first" "Lcom/example/resolvent/resolvent/term/Term;" (.null)) (F3 : Fld Z h0 a "com/example/resolvent/resolvent/term/Compound" "second" "Lcom/example/resolvent/resolvent/term/Term;" (.null)) (F4 : Fld Z h0 a "com/example/resolvent/resolvent/term/Compound" "more" "[Lcom/example/resolvent/resolvent/term/Term;" (.null))  :
    Met l Z [] [a] (⟨"com/example/resolvent/resolvent/term/Compound", "<init>", "(Ljava/lang/String;ILcom/example/resolvent/resolvent/term/Term;Lcom/example/resolvent/resolvent/term/Term;[Lcom/example/resolvent/resolvent/term/Term;)V"⟩ : MethodName) prog_88_method_5_code 6 (Option.none : Option FieldType) [] ({ frames := 2, cells := 0, slots := 0, locals := 24 } : Room) #[(.ref a), (.ref nm), (.int (1 : Int32)), (.ref t1), .null, .null] h0 n0 (fun v h => v = none ∧ Keep h0 h [a]) := by
  refine Met.of (Ls0 := #[.val (.ref a), .val (.ref nm), .val (.int (1 : Int32)), .val (.ref t1), .val .null, .val .null]) pl_12 (by first | (simp [argsToLocals, Value.category]; done) | rfl) hel ?_
  intro p e s m below meth c hx hby hml hret hlk hown hnm hZ
  refine Go.aloadN (q := 1) hx (hb hby d13_0) rfl (by rfl) rfl ?_
  refine Go.callI (q := 4) hx hZ (a := a) (argsL := []) (rest := []) hown rfl (hw _ (List.mem_of_getElem? (i := 79) rfl)) (hw _ (List.mem_of_getElem? (i := 37) rfl)) (hw _ (List.mem_of_getElem? (i := 39) rfl)) (hw _ (List.mem_of_getElem? (i := 40) rfl)) (by decide) (rmT l Z a0 hw hel a h0 n0 Z0) (fun _ hx => nomatch hx) (by rw [hml]; rfl) pd_1 rfl rfl (hb hby d13_1) rfl (by decide) (Nat.le_of_ble_eq_true rfl) (ce' := 0) (sl' := 0) rfl rfl (by decide) (by decide) (fun v85 h86 hQ87 => ?_)
  obtain ⟨rfl, rfl⟩ := hQ87
  show Go _ _ _ _ _ _ _ _ _ _ _ _ _ _ _ _ _ _ _ _ 0 0 4 #[.val (.ref a), .val (.ref nm), .val (.int (1 : Int32)), .val (.ref t1), .val .null, .val .null] []
  refine Go.aloadN (q := 5) hx (hb hby d13_4) rfl (by rfl) rfl ?_
  refine Go.aloadN (q := 6) hx (hb hby d13_5) rfl (by rfl) rfl ?_
  refine Go.putF (q := 9) hx hZ hown (host := "") (Or.inl (hw _ (List.mem_of_getElem? (i := 80) rfl))) Via.refl F0 E (Or.inl (hw _ (List.mem_of_getElem? (i := 81) rfl))) (hw _ (List.mem_of_getElem? (i := 59) rfl)) (ty := (.object "java/lang/String")) (by decide) rfl rfl ga (by simp) (hb hby d13_6) rfl (fun h88 W89 => ?_)
  refine Go.aloadN (q := 10) hx (hb hby d13_9) rfl (by rfl) rfl ?_
  refine Go.iloadN (q := 11) hx (hb hby d13_10) rfl rfl ?_
  refine Go.putF (q := 14) hx hZ hown (host := "") (Or.inl (hw _ (List.mem_of_getElem? (i := 82) rfl))) Via.refl (Fld.other W89 F1 (Or.inr (slot_ne (C := "com/example/resolvent/resolvent/term/Compound") (Or.inl (hw _ (List.mem_of_getElem? (i := 83) rfl))) (Or.inl (hw _ (List.mem_of_getElem? (i := 81) rfl))) (by decide) (by decide : _ = some .int) (by decide : _ = some (.object "java/lang/String"))))) (Exa.wr W89 E) (Or.inl (hw _ (List.mem_of_getElem? (i := 83) rfl))) (hw _ (List.mem_of_getElem? (i := 59) rfl)) (ty := .int) (by decide) rfl rfl ga (by simp) (hb hby d13_11) rfl (fun h90 W91 => ?_)
  refine Go.aloadN (q := 15) hx (hb hby d13_14) rfl (by rfl) rfl ?_
  refine Go.aloadN (q := 16) hx (hb hby d13_15) rfl (by rfl) rfl ?_
  refine Go.putF (q := 19) hx hZ hown (host := "") (Or.inl (hw _ (List.mem_of_getElem? (i := 84) rfl))) Via.refl (Fld.other W91 (Fld.other W89 F2 (Or.inr (slot_ne (C := "com/example/resolvent/resolvent/term/Compound") (Or.inl (hw _ (List.mem_of_getElem? (i := 85) rfl))) (Or.inl (hw _ (List.mem_of_getElem? (i := 81) rfl))) (by decide) (by decide : _ = some (.object "com/example/resolvent/resolvent/term/Term")) (by decide : _ = some (.object "java/lang/String"))))) (Or.inr (slot_ne (C := "com/example/resolvent/resolvent/term/Compound") (Or.inl (hw _ (List.mem_of_getElem? (i := 85) rfl))) (Or.inl (hw _ (List.mem_of_getElem? (i := 83) rfl))) (by decide) (by decide : _ = some (.object "com/example/resolvent/resolvent/term/Term")) (by decide : _ = some .int)))) (Exa.wr W91 (Exa.wr W89 E)) (Or.inl (hw _ (List.mem_of_getElem? (i := 85) rfl))) (hw _ (List.mem_of_getElem? (i := 59) rfl)) (ty := (.object "com/example/resolvent/resolvent/term/Term")) (by decide) rfl rfl ga (by simp) (hb hby d13_16) rfl (fun h92 W93 => ?_)
  refine Go.aloadN (q := 20) hx (hb hby d13_19) rfl (by rfl) rfl ?_
  refine Go.aload (q := 22) hx (hb hby d13_20) rfl (by rfl) rfl ?_
  refine Go.putF (q := 25) hx hZ hown (host := "") (Or.inl (hw _ (List.mem_of_getElem? (i := 86) rfl))) Via.refl (Fld.other W93 (Fld.other W91 (Fld.other W89 F3 (Or.inr (slot_ne (C := "com/example/resolvent/resolvent/term/Compound") (Or.inl (hw _ (List.mem_of_getElem? (i := 87) rfl))) (Or.inl (hw _ (List.mem_of_getElem? (i := 81) rfl))) (by decide) (by decide : _ = some (.object "com/example/resolvent/resolvent/term/Term")) (by decide : _ = some (.object "java/lang/String"))))) (Or.inr (slot_ne (C := "com/example/resolvent/resolvent/term/Compound") (Or.inl (hw _ (List.mem_of_getElem? (i := 87) rfl))) (Or.inl (hw _ (List.mem_of_getElem? (i := 83) rfl))) (by decide) (by decide : _ = some (.object "com/example/resolvent/resolvent/term/Term")) (by decide : _ = some .int)))) (Or.inr (slot_ne (C := "com/example/resolvent/resolvent/term/Compound") (Or.inl (hw _ (List.mem_of_getElem? (i := 87) rfl))) (Or.inl (hw _ (List.mem_of_getElem? (i := 85) rfl))) (by decide) (by decide : _ = some (.object "com/example/resolvent/resolvent/term/Term")) (by decide : _ = some (.object "com/example/resolvent/resolvent/term/Term"))))) (Exa.wr W93 (Exa.wr W91 (Exa.wr W89 E))) (Or.inl (hw _ (List.mem_of_getElem? (i := 87) rfl))) (hw _ (List.mem_of_getElem? (i := 59) rfl)) (ty := (.object "com/example/resolvent/resolvent/term/Term")) (by decide) rfl rfl ga (by simp) (hb hby d13_22) rfl (fun h94 W95 => ?_)
  refine Go.aloadN (q := 26) hx (hb hby d13_25) rfl (by rfl) rfl ?_
  refine Go.aload (q := 28) hx (hb hby d13_26) rfl (by rfl) rfl ?_
  refine Go.putF (q := 31) hx hZ hown (host := "") (Or.inl (hw _ (List.mem_of_getElem? (i := 88) rfl))) Via.refl (Fld.other W95 (Fld.other W93 (Fld.other W91 (Fld.other W89 F4 (Or.inr (slot_ne (C := "com/example/resolvent/resolvent/term/Compound") (Or.inl (hw _ (List.mem_of_getElem? (i := 89) rfl))) (Or.inl (hw _ (List.mem_of_getElem? (i := 81) rfl))) (by decide) (by decide : _ = some (.array (.object "com/example/resolvent/resolvent/term/Term"))) (by decide : _ = some (.object "java/lang/String"))))) (Or.inr (slot_ne (C := "com/example/resolvent/resolvent/term/Compound") (Or.inl (hw _ (List.mem_of_getElem? (i := 89) rfl))) (Or.inl (hw _ (List.mem_of_getElem? (i := 83) rfl))) (by decide) (by decide : _ = some (.array (.object "com/example/resolvent/resolvent/term/Term"))) (by decide : _ = some .int)))) (Or.inr (slot_ne (C := "com/example/resolvent/resolvent/term/Compound") (Or.inl (hw _ (List.mem_of_getElem? (i := 89) rfl))) (Or.inl (hw _ (List.mem_of_getElem? (i := 85) rfl))) (by decide) (by decide : _ = some (.array (.object "com/example/resolvent/resolvent/term/Term"))) (by decide : _ = some (.object "com/example/resolvent/resolvent/term/Term"))))) (Or.inr (slot_ne (C := "com/example/resolvent/resolvent/term/Compound") (Or.inl (hw _ (List.mem_of_getElem? (i := 89) rfl))) (Or.inl (hw _ (List.mem_of_getElem? (i := 87) rfl))) (by decide) (by decide : _ = some (.array (.object "com/example/resolvent/resolvent/term/Term"))) (by decide : _ = some (.object "com/example/resolvent/resolvent/term/Term"))))) (Exa.wr W95 (Exa.wr W93 (Exa.wr W91 (Exa.wr W89 E)))) (Or.inl (hw _ (List.mem_of_getElem? (i := 89) rfl))) (hw _ (List.mem_of_getElem? (i := 59) rfl)) (ty := (.array (.object "com/example/resolvent/resolvent/term/Term"))) (by decide) rfl rfl ga (by simp) (hb hby d13_28) rfl (fun h96 W97 => ?_)
  refine Go.ret0 hx hret hlk (hb hby d13_31) (by decide) (by decide) ?_
  exact ⟨rfl, ((((((Keep.refl h0 [a]).wr W89 (Or.inl (by simp))).wr W91 (Or.inl (by simp))).wr W93 (Or.inl (by simp))).wr W95 (Or.inl (by simp))).wr W97 (Or.inl (by simp)))⟩
theorem d12_0 : decode prog_88_method_4_code 0 = .ok (.aload_n 0, 1) := by decide +kernel
theorem d12_1 : decode prog_88_method_4_code 1 = .ok (.aload_n 2, 1) := by decide +kernel
theorem d12_2 : decode prog_88_method_4_code 2 = .ok (.aload_n 1, 1) := by decide +kernel
theorem d12_3 : decode prog_88_method_4_code 3 = .ok (.arraylength, 1) := by decide +kernel
theorem d12_4 : decode prog_88_method_4_code 4 = .ok (.aload_n 1, 1) := by decide +kernel
theorem d12_5 : decode prog_88_method_4_code 5 = .ok (.iconst 0, 1) := by decide +kernel
theorem d12_6 : decode prog_88_method_4_code 6 = .ok (.aaload, 1) := by decide +kernel
theorem d12_7 : decode prog_88_method_4_code 7 = .ok (.aload_n 1, 1) := by decide +kernel
theorem d12_8 : decode prog_88_method_4_code 8 = .ok (.arraylength, 1) := by decide +kernel
theorem d12_9 : decode prog_88_method_4_code 9 = .ok (.iconst 1, 1) := by decide +kernel
theorem d12_10 : decode prog_88_method_4_code 10 = .ok (.if_icmp .le 9, 3) := by decide +kernel
theorem d12_13 : decode prog_88_method_4_code 13 = .ok (.aload_n 1, 1) := by decide +kernel
theorem d12_14 : decode prog_88_method_4_code 14 = .ok (.iconst 1, 1) := by decide +kernel
theorem d12_15 : decode prog_88_method_4_code 15 = .ok (.aaload, 1) := by decide +kernel
theorem d12_16 : decode prog_88_method_4_code 16 = .ok (.goto 4, 3) := by decide +kernel
theorem d12_19 : decode prog_88_method_4_code 19 = .ok (.aconst_null, 1) := by decide +kernel
theorem d12_20 : decode prog_88_method_4_code 20 = .ok (.aload_n 1, 1) := by decide +kernel
theorem d12_21 : decode prog_88_method_4_code 21 = .ok (.arraylength, 1) := by decide +kernel
theorem d12_22 : decode prog_88_method_4_code 22 = .ok (.iconst 2, 1) := by decide +kernel
theorem d12_23 : decode prog_88_method_4_code 23 = .ok (.if_icmp .le 16, 3) := by decide +kernel
theorem d12_26 : decode prog_88_method_4_code 26 = .ok (.aload_n 1, 1) := by decide +kernel
theorem d12_27 : decode prog_88_method_4_code 27 = .ok (.iconst 2, 1) := by decide +kernel
theorem d12_28 : decode prog_88_method_4_code 28 = .ok (.aload_n 1, 1) := by decide +kernel
theorem d12_29 : decode prog_88_method_4_code 29 = .ok (.arraylength, 1) := by decide +kernel
theorem d12_30 : decode prog_88_method_4_code 30 = .ok (.invokestatic 14, 3) := by decide +kernel
theorem d12_33 : decode prog_88_method_4_code 33 = .ok (.checkcast 20, 3) := by decide +kernel
theorem d12_36 : decode prog_88_method_4_code 36 = .ok (.goto 4, 3) := by decide +kernel
theorem d12_39 : decode prog_88_method_4_code 39 = .ok (.aconst_null, 1) := by decide +kernel
theorem d12_40 : decode prog_88_method_4_code 40 = .ok (.invokespecial 11, 3) := by decide +kernel
theorem d12_43 : decode prog_88_method_4_code 43 = .ok (.return_, 1) := by decide +kernel
theorem pl_13 : plainFor (⟨"com/example/resolvent/resolvent/term/Compound", "<init>", "([Lcom/example/resolvent/resolvent/term/Term;Ljava/lang/String;)V"⟩ : MethodName) = true := plainFor_of_name (by first | (simp [plainName, overriddenIn]; done) | decide +kernel)
theorem pd_7 : parseMethodDescriptor "(Ljava/lang/String;ILcom/example/resolvent/resolvent/term/Term;Lcom/example/resolvent/resolvent/term/Term;[Lcom/example/resolvent/resolvent/term/Term;)V" = some ⟨[(.object "java/lang/String"), .int, (.object "com/example/resolvent/resolvent/term/Term"), (.object "com/example/resolvent/resolvent/term/Term"), (.array (.object "com/example/resolvent/resolvent/term/Term"))], none⟩ := by decide +kernel
set_option maxRecDepth 65536 in
set_option maxHeartbeats 40000000 in
theorem rmC4 (l : Launch) (Z : State) (a0 : Array Value) (hw : ∀ d ∈ tables_1, d.before a0 Z = true) (hel : EW Z a0 []) (a : Addr) (ar nm t1 : Addr) (kr : ClassId) (h0 : Heap) (n0 : Nat) (Z0 : n0 ≤ h0.size) (ga : n0 ≤ a) (E : Exa Z h0 a "com/example/resolvent/resolvent/term/Compound") (F0 : Fld Z h0 a "com/example/resolvent/resolvent/term/Compound" "name" "Ljava/lang/String;" (.null)) (F1 : Fld Z h0 a "com/example/resolvent/resolvent/term/Compound" "arity" "I" (.int (0 : Int32))) (F2 : Fld Z h0 a "com/example/resolvent/resolvent/term/Compound" "first" "Lcom/example/resolvent/resolvent/term/Term;" (.null)) (F3 : Fld Z h0 a "com/example/resolvent/resolvent/term/Compound" "second" "Lcom/example/resolvent/resolvent/term/Term;" (.null)) (F4 : Fld Z h0 a "com/example/resolvent/resolvent/term/Compound" "more" "[Lcom/example/resolvent/resolvent/term/Term;" (.null)) (A : Arv Z h0 ar kr (.object "com/example/resolvent/resolvent/term/Term") (1 : Int32) [.ref t1] .null) :
    Met l Z [] [a] (⟨"com/example/resolvent/resolvent/term/Compound", "<init>", "([Lcom/example/resolvent/resolvent/term/Term;Ljava/lang/String;)V"⟩ : MethodName) prog_88_method_4_code 3 (Option.none : Option FieldType) [] ({ frames := 3, cells := 0, slots := 0, locals := 41 } : Room) #[(.ref a), (.ref ar), (.ref nm)] h0 n0 (fun v h => v = none ∧ Keep h0 h [a]) := by
  refine Met.of (Ls0 := #[.val (.ref a), .val (.ref ar), .val (.ref nm)]) pl_13 (by first | (simp [argsToLocals, Value.category]; done) | rfl) hel ?_
  intro p e s m below meth c hx hby hml hret hlk hown hnm hZ
  refine Go.aloadN (q := 1) hx (hb hby d12_0) rfl (by rfl) rfl ?_
  refine Go.aloadN (q := 2) hx (hb hby d12_1) rfl (by rfl) rfl ?_
  refine Go.aloadN (q := 3) hx (hb hby d12_2) rfl (by rfl) rfl ?_
  refine Go.alen (q := 4) hx hZ A (hb hby d12_3) rfl ?_
  refine Go.aloadN (q := 5) hx (hb hby d12_4) rfl (by rfl) rfl ?_
  refine Go.iconst (q := 6) (z := (0 : Int32)) hx (hb hby d12_5) rfl rfl ?_
  refine Go.aaload (q := 7) (v := (.ref t1)) hx hZ A rfl ⟨by decide, by decide⟩ rfl (hb hby d12_6) rfl ?_
  refine Go.aloadN (q := 8) hx (hb hby d12_7) rfl (by rfl) rfl ?_
  refine Go.alen (q := 9) hx hZ A (hb hby d12_8) rfl ?_
  refine Go.iconst (q := 10) (z := (1 : Int32)) hx (hb hby d12_9) rfl rfl ?_
  refine Go.icmp_le (q := 13) (t := 19) hx (hb hby d12_10) (by decide) rfl rfl (fun hc10 => ?_) (fun hc10 => absurd hc10 (by decide))
  refine Go.aconstNull (q := 20) hx (hb hby d12_19) rfl ?_
  refine Go.aloadN (q := 21) hx (hb hby d12_20) rfl (by rfl) rfl ?_
  refine Go.alen (q := 22) hx hZ A (hb hby d12_21) rfl ?_
  refine Go.iconst (q := 23) (z := (2 : Int32)) hx (hb hby d12_22) rfl rfl ?_
  refine Go.icmp_le (q := 26) (t := 39) hx (hb hby d12_23) (by decide) rfl rfl (fun hc23 => ?_) (fun hc23 => absurd hc23 (by decide))
  refine Go.aconstNull (q := 40) hx (hb hby d12_39) rfl ?_
  refine Go.callI (q := 43) hx hZ (a := a) (argsL := [(.ref nm), (.int (1 : Int32)), (.ref t1), .null, .null]) (rest := []) hown rfl (hw _ (List.mem_of_getElem? (i := 76) rfl)) (hw _ (List.mem_of_getElem? (i := 77) rfl)) (hw _ (List.mem_of_getElem? (i := 60) rfl)) (hw _ (List.mem_of_getElem? (i := 78) rfl)) (by decide) (rmC5 l Z a0 hw hel a nm t1 h0 n0 Z0 ga E F0 F1 F2 F3 F4 ) (by simp) (by rw [hml]; rfl) pd_7 rfl rfl (hb hby d12_40) rfl (by decide) (Nat.le_of_ble_eq_true rfl) (ce' := 0) (sl' := 0) rfl rfl (by decide) (by decide) (fun v98 h99 hQ100 => ?_)
  obtain ⟨rfl, K101⟩ := hQ100
  show Go _ _ _ _ _ _ _ _ _ _ _ _ _ _ _ _ _ _ _ _ 0 0 43 #[.val (.ref a), .val (.ref ar), .val (.ref nm)] []
  refine Go.ret0 hx hret hlk (hb hby d12_43) (by decide) (by decide) ?_
  exact ⟨rfl, (Keep.trans (Keep.refl h0 [a]) K101 (allS (Or.inl (by simp)) all0))⟩
theorem d11_0 : decode prog_88_method_6_code 0 = .ok (.aload_n 0, 1) := by decide +kernel
theorem d11_1 : decode prog_88_method_6_code 1 = .ok (.ldc 45, 2) := by decide +kernel
theorem d11_3 : decode prog_88_method_6_code 3 = .ok (.invokestatic 46, 3) := by decide +kernel
theorem d11_6 : decode prog_88_method_6_code 6 = .ok (.pop, 1) := by decide +kernel
theorem d11_7 : decode prog_88_method_6_code 7 = .ok (.aload_n 1, 1) := by decide +kernel
theorem d11_8 : decode prog_88_method_6_code 8 = .ok (.arraylength, 1) := by decide +kernel
theorem d11_9 : decode prog_88_method_6_code 9 = .ok (.ifCond .ne 17, 3) := by decide +kernel
theorem d11_12 : decode prog_88_method_6_code 12 = .ok (.new 52, 3) := by decide +kernel
theorem d11_15 : decode prog_88_method_6_code 15 = .ok (.dup, 1) := by decide +kernel
theorem d11_16 : decode prog_88_method_6_code 16 = .ok (.aload_n 0, 1) := by decide +kernel
theorem d11_17 : decode prog_88_method_6_code 17 = .ok (.invokedynamic 54, 5) := by decide +kernel
theorem d11_22 : decode prog_88_method_6_code 22 = .ok (.invokespecial 58, 3) := by decide +kernel
theorem d11_25 : decode prog_88_method_6_code 25 = .ok (.athrow, 1) := by decide +kernel
theorem d11_26 : decode prog_88_method_6_code 26 = .ok (.aload_n 1, 1) := by decide +kernel
theorem d11_27 : decode prog_88_method_6_code 27 = .ok (.astore_n 2, 1) := by decide +kernel
theorem d11_28 : decode prog_88_method_6_code 28 = .ok (.aload_n 2, 1) := by decide +kernel
theorem d11_29 : decode prog_88_method_6_code 29 = .ok (.arraylength, 1) := by decide +kernel
theorem d11_30 : decode prog_88_method_6_code 30 = .ok (.istore_n 3, 1) := by decide +kernel
theorem d11_31 : decode prog_88_method_6_code 31 = .ok (.iconst 0, 1) := by decide +kernel
theorem d11_32 : decode prog_88_method_6_code 32 = .ok (.istore 4, 2) := by decide +kernel
theorem d11_34 : decode prog_88_method_6_code 34 = .ok (.iload 4, 2) := by decide +kernel
theorem d11_36 : decode prog_88_method_6_code 36 = .ok (.iload_n 3, 1) := by decide +kernel
theorem d11_37 : decode prog_88_method_6_code 37 = .ok (.if_icmp .ge 23, 3) := by decide +kernel
theorem d11_40 : decode prog_88_method_6_code 40 = .ok (.aload_n 2, 1) := by decide +kernel
theorem d11_41 : decode prog_88_method_6_code 41 = .ok (.iload 4, 2) := by decide +kernel
theorem d11_43 : decode prog_88_method_6_code 43 = .ok (.aaload, 1) := by decide +kernel
theorem d11_44 : decode prog_88_method_6_code 44 = .ok (.astore 5, 2) := by decide +kernel
theorem d11_46 : decode prog_88_method_6_code 46 = .ok (.aload 5, 2) := by decide +kernel
theorem d11_48 : decode prog_88_method_6_code 48 = .ok (.ldc 61, 2) := by decide +kernel
theorem d11_50 : decode prog_88_method_6_code 50 = .ok (.invokestatic 46, 3) := by decide +kernel
theorem d11_53 : decode prog_88_method_6_code 53 = .ok (.pop, 1) := by decide +kernel
theorem d11_54 : decode prog_88_method_6_code 54 = .ok (.iinc 4 1, 3) := by decide +kernel
theorem d11_57 : decode prog_88_method_6_code 57 = .ok (.goto (-23), 3) := by decide +kernel
theorem d11_60 : decode prog_88_method_6_code 60 = .ok (.aload_n 1, 1) := by decide +kernel
theorem d11_61 : decode prog_88_method_6_code 61 = .ok (.areturn, 1) := by decide +kernel
theorem pl_14 : plainFor (⟨"com/example/resolvent/resolvent/term/Compound", "checked", "(Ljava/lang/String;[Lcom/example/resolvent/resolvent/term/Term;)[Lcom/example/resolvent/resolvent/term/Term;"⟩ : MethodName) = true := plainFor_of_name (by first | (simp [plainName, overriddenIn]; done) | decide +kernel)
set_option maxRecDepth 65536 in
set_option maxHeartbeats 40000000 in
theorem rmCk (l : Launch) (Z : State) (a0 : Array Value) (hw : ∀ d ∈ tables_1, d.before a0 Z = true) (hel : EW Z a0 []) (nm ar t1 : Addr) (kr : ClassId) (h0 : Heap) (n0 : Nat) (Z0 : n0 ≤ h0.size) (A : Arv Z h0 ar kr (.object "com/example/resolvent/resolvent/term/Term") (1 : Int32) [.ref t1] .null) :
    Met l Z [] [] (⟨"com/example/resolvent/resolvent/term/Compound", "checked", "(Ljava/lang/String;[Lcom/example/resolvent/resolvent/term/Term;)[Lcom/example/resolvent/resolvent/term/Term;"⟩ : MethodName) prog_88_method_6_code 6 (Option.some (FieldType.array (FieldType.object "com/example/resolvent/resolvent/term/Term"))) [] ({ frames := 1, cells := 4, slots := 56, locals := 13 } : Room) #[(.ref nm), (.ref ar)] h0 n0 (fun v h => v = some (.ref ar) ∧ Keep h0 h []) := by
  refine Met.of (Ls0 := #[.val (.ref nm), .val (.ref ar), .unset, .unset, .unset, .unset]) pl_14 (by first | (simp [argsToLocals, Value.category]; done) | rfl) hel ?_
  have hSA : ∀ d ∈ Bundle.stringAtoms, d.before a0 Z = true := fun d hd => hw d ((by decide +kernel : ∀ d ∈ Bundle.stringAtoms, d ∈ tables_1) d hd)
  intro p e s m below meth c hx hby hml hret hlk hown hnm hZ
  refine Go.aloadN (q := 1) hx (hb hby d11_0) rfl (by rfl) rfl ?_
  refine Go.ldcOpq (q := 3) (nn := 16) hx hZ hown (hw _ (List.mem_of_getElem? (i := 70) rfl)) hSA (hb hby d11_1) rfl (by decide) (by decide) (ce' := 2) (sl' := 20) rfl rfl (by decide) (by decide) (fun h102 a103 E104 => ?_)
  refine Go.callS (q := 6) hx hZ (argsL := [(.ref nm), (.ref a103)]) (rest := []) hown (hw _ (List.mem_of_getElem? (i := 71) rfl)) (hw _ (List.mem_of_getElem? (i := 46) rfl)) (hw _ (List.mem_of_getElem? (i := 47) rfl)) (hw _ (List.mem_of_getElem? (i := 48) rfl)) (by decide) (rmQ l Z a0 hw hel nm a103 h102 n0 (Nat.le_trans Z0 E104.1)) (fun _ hx => nomatch hx) (by rw [hml]; rfl) pd_5 rfl rfl (hb hby d11_3) rfl (by decide) (Nat.le_of_ble_eq_true rfl) (ce' := 2) (sl' := 20) rfl rfl (by decide) (by decide) (fun v105 h106 hQ107 => ?_)
  obtain ⟨rfl, rfl⟩ := hQ107
  show Go _ _ _ _ _ _ _ _ _ _ _ _ _ _ _ _ _ _ _ _ 2 20 6 #[.val (.ref nm), .val (.ref ar), .unset, .unset, .unset, .unset] [(.ref nm)]
  refine Go.pop (q := 7) hx (hb hby d11_6) rfl rfl ?_
  refine Go.aloadN (q := 8) hx (hb hby d11_7) rfl (by rfl) rfl ?_
  refine Go.alen (q := 9) hx hZ (A.ext E104) (hb hby d11_8) rfl ?_
  refine Go.if_ne (q := 12) (t := 26) hx (hb hby d11_9) (by decide) rfl rfl (fun hc9 => ?_) (fun hc9 => absurd hc9 (by decide))
  refine Go.aloadN (q := 27) hx (hb hby d11_26) rfl (by rfl) rfl ?_
  refine Go.astoreN (q := 28) (l' := #[.val (.ref nm), .val (.ref ar), .val (.ref ar), .unset, .unset, .unset]) hx (hb hby d11_27) (by rfl) rfl rfl ?_
  refine Go.aloadN (q := 29) hx (hb hby d11_28) rfl (by rfl) rfl ?_
  refine Go.alen (q := 30) hx hZ (A.ext E104) (hb hby d11_29) rfl ?_
  refine Go.istoreN (q := 31) (l' := #[.val (.ref nm), .val (.ref ar), .val (.ref ar), .val (.int (1 : Int32)), .unset, .unset]) hx (hb hby d11_30) rfl rfl ?_
  refine Go.iconst (q := 32) (z := (0 : Int32)) hx (hb hby d11_31) rfl rfl ?_
  refine Go.istore (q := 34) (l' := #[.val (.ref nm), .val (.ref ar), .val (.ref ar), .val (.int (1 : Int32)), .val (.int (0 : Int32)), .unset]) hx (hb hby d11_32) rfl rfl ?_
  refine Go.iload (q := 36) hx (hb hby d11_34) rfl rfl ?_
  refine Go.iloadN (q := 37) hx (hb hby d11_36) rfl rfl ?_
  refine Go.icmp_ge (q := 40) (t := 60) hx (hb hby d11_37) (by decide) rfl rfl (fun hc37 => absurd hc37 (by decide)) (fun hc37 => ?_)
  refine Go.aloadN (q := 41) hx (hb hby d11_40) rfl (by rfl) rfl ?_
  refine Go.iload (q := 43) hx (hb hby d11_41) rfl rfl ?_
  refine Go.aaload (q := 44) (v := (.ref t1)) hx hZ (A.ext E104) rfl ⟨by decide, by decide⟩ rfl (hb hby d11_43) rfl ?_
  refine Go.astore (q := 46) (l' := #[.val (.ref nm), .val (.ref ar), .val (.ref ar), .val (.int (1 : Int32)), .val (.int (0 : Int32)), .val (.ref t1)]) hx (hb hby d11_44) (by rfl) rfl rfl ?_
  refine Go.aload (q := 48) hx (hb hby d11_46) rfl (by rfl) rfl ?_
  refine Go.ldcOpq (q := 50) (nn := 32) hx hZ hown (hw _ (List.mem_of_getElem? (i := 72) rfl)) hSA (hb hby d11_48) rfl (by decide) (by decide) (ce' := 4) (sl' := 56) rfl rfl (by decide) (by decide) (fun h108 a109 E110 => ?_)
  refine Go.callS (q := 53) hx hZ (argsL := [(.ref t1), (.ref a109)]) (rest := []) hown (hw _ (List.mem_of_getElem? (i := 71) rfl)) (hw _ (List.mem_of_getElem? (i := 46) rfl)) (hw _ (List.mem_of_getElem? (i := 47) rfl)) (hw _ (List.mem_of_getElem? (i := 48) rfl)) (by decide) (rmQ l Z a0 hw hel t1 a109 h108 n0 (Nat.le_trans (Nat.le_trans Z0 E104.1) E110.1)) (fun _ hx => nomatch hx) (by rw [hml]; rfl) pd_5 rfl rfl (hb hby d11_50) rfl (by decide) (Nat.le_of_ble_eq_true rfl) (ce' := 4) (sl' := 56) rfl rfl (by decide) (by decide) (fun v111 h112 hQ113 => ?_)
  obtain ⟨rfl, rfl⟩ := hQ113
  show Go _ _ _ _ _ _ _ _ _ _ _ _ _ _ _ _ _ _ _ _ 4 56 53 #[.val (.ref nm), .val (.ref ar), .val (.ref ar), .val (.int (1 : Int32)), .val (.int (0 : Int32)), .val (.ref t1)] [(.ref t1)]
  refine Go.pop (q := 54) hx (hb hby d11_53) rfl rfl ?_
  refine Go.iinc (q := 57) (l' := #[.val (.ref nm), .val (.ref ar), .val (.ref ar), .val (.int (1 : Int32)), .val (.int ((0 : Int32) + (1 : Int32))), .val (.ref t1)]) hx (hb hby d11_54) rfl rfl rfl ?_
  refine Go.goto (q := 34) hx (hb hby d11_57) (by decide) rfl ?_
  refine Go.iload (q := 36) hx (hb hby d11_34) rfl rfl ?_
  refine Go.iloadN (q := 37) hx (hb hby d11_36) rfl rfl ?_
  refine Go.icmp_ge (q := 40) (t := 60) hx (hb hby d11_37) (by decide) rfl rfl (fun hc37_1 => ?_) (fun hc37_1 => absurd hc37_1 (by decide))
  refine Go.aloadN (q := 61) hx (hb hby d11_60) rfl (by rfl) rfl ?_
  refine Go.retA hx hret rfl (by rfl) hlk (hb hby d11_61) (by decide) (by decide) ?_
  exact ⟨rfl, (((Keep.refl h0 []).ext E104).ext E110)⟩
theorem d10_0 : decode prog_88_method_1_code 0 = .ok (.aload_n 0, 1) := by decide +kernel
theorem d10_1 : decode prog_88_method_1_code 1 = .ok (.aload_n 1, 1) := by decide +kernel
theorem d10_2 : decode prog_88_method_1_code 2 = .ok (.aload_n 2, 1) := by decide +kernel
theorem d10_3 : decode prog_88_method_1_code 3 = .ok (.invokestatic 1, 3) := by decide +kernel
theorem d10_6 : decode prog_88_method_1_code 6 = .ok (.aload_n 1, 1) := by decide +kernel
theorem d10_7 : decode prog_88_method_1_code 7 = .ok (.invokespecial 7, 3) := by decide +kernel
theorem d10_10 : decode prog_88_method_1_code 10 = .ok (.return_, 1) := by decide +kernel
theorem pl_15 : plainFor (⟨"com/example/resolvent/resolvent/term/Compound", "<init>", "(Ljava/lang/String;[Lcom/example/resolvent/resolvent/term/Term;)V"⟩ : MethodName) = true := plainFor_of_name (by first | (simp [plainName, overriddenIn]; done) | decide +kernel)
theorem pd_8 : parseMethodDescriptor "(Ljava/lang/String;[Lcom/example/resolvent/resolvent/term/Term;)[Lcom/example/resolvent/resolvent/term/Term;" = some ⟨[(.object "java/lang/String"), (.array (.object "com/example/resolvent/resolvent/term/Term"))], some (.array (.object "com/example/resolvent/resolvent/term/Term"))⟩ := by decide +kernel
theorem pd_9 : parseMethodDescriptor "([Lcom/example/resolvent/resolvent/term/Term;Ljava/lang/String;)V" = some ⟨[(.array (.object "com/example/resolvent/resolvent/term/Term")), (.object "java/lang/String")], none⟩ := by decide +kernel
set_option maxRecDepth 65536 in
set_option maxHeartbeats 40000000 in
theorem rmC1 (l : Launch) (Z : State) (a0 : Array Value) (hw : ∀ d ∈ tables_1, d.before a0 Z = true) (hel : EW Z a0 []) (a : Addr) (nm ar t1 : Addr) (kr : ClassId) (h0 : Heap) (n0 : Nat) (Z0 : n0 ≤ h0.size) (ga : n0 ≤ a) (E : Exa Z h0 a "com/example/resolvent/resolvent/term/Compound") (F0 : Fld Z h0 a "com/example/resolvent/resolvent/term/Compound" "name" "Ljava/lang/String;" (.null)) (F1 : Fld Z h0 a "com/example/resolvent/resolvent/term/Compound" "arity" "I" (.int (0 : Int32))) (F2 : Fld Z h0 a "com/example/resolvent/resolvent/term/Compound" "first" "Lcom/example/resolvent/resolvent/term/Term;" (.null)) (F3 : Fld Z h0 a "com/example/resolvent/resolvent/term/Compound" "second" "Lcom/example/resolvent/resolvent/term/Term;" (.null)) (F4 : Fld Z h0 a "com/example/resolvent/resolvent/term/Compound" "more" "[Lcom/example/resolvent/resolvent/term/Term;" (.null)) (nar : a ≠ ar) (A : Arv Z h0 ar kr (.object "com/example/resolvent/resolvent/term/Term") (1 : Int32) [.ref t1] .null) :
    Met l Z [] [a] (⟨"com/example/resolvent/resolvent/term/Compound", "<init>", "(Ljava/lang/String;[Lcom/example/resolvent/resolvent/term/Term;)V"⟩ : MethodName) prog_88_method_1_code 3 (Option.none : Option FieldType) [] ({ frames := 4, cells := 4, slots := 56, locals := 55 } : Room) #[(.ref a), (.ref nm), (.ref ar)] h0 n0 (fun v h => v = none ∧ Keep h0 h [a]) := by
  refine Met.of (Ls0 := #[.val (.ref a), .val (.ref nm), .val (.ref ar)]) pl_15 (by first | (simp [argsToLocals, Value.category]; done) | rfl) hel ?_
  intro p e s m below meth c hx hby hml hret hlk hown hnm hZ
  refine Go.aloadN (q := 1) hx (hb hby d10_0) rfl (by rfl) rfl ?_
  refine Go.aloadN (q := 2) hx (hb hby d10_1) rfl (by rfl) rfl ?_
  refine Go.aloadN (q := 3) hx (hb hby d10_2) rfl (by rfl) rfl ?_
  refine Go.callS (q := 6) hx hZ (argsL := [(.ref nm), (.ref ar)]) (rest := [(.ref a)]) hown (hw _ (List.mem_of_getElem? (i := 67) rfl)) (hw _ (List.mem_of_getElem? (i := 68) rfl)) (hw _ (List.mem_of_getElem? (i := 60) rfl)) (hw _ (List.mem_of_getElem? (i := 69) rfl)) (by decide) (rmCk l Z a0 hw hel nm ar t1 kr h0 n0 Z0 A) (fun _ hx => nomatch hx) (by rw [hml]; rfl) pd_8 rfl rfl (hb hby d10_3) rfl (by decide) (Nat.le_of_ble_eq_true rfl) (ce' := 4) (sl' := 56) rfl rfl (by decide) (by decide) (fun v114 h115 hQ116 => ?_)
  obtain ⟨rfl, K117⟩ := hQ116
  show Go _ _ _ _ _ _ _ _ _ _ _ _ _ _ _ _ _ _ _ _ 4 56 6 #[.val (.ref a), .val (.ref nm), .val (.ref ar)] [(.ref ar), (.ref a)]
  refine Go.aloadN (q := 7) hx (hb hby d10_6) rfl (by rfl) rfl ?_
  refine Go.callI (q := 10) hx hZ (a := a) (argsL := [(.ref ar), (.ref nm)]) (rest := []) hown rfl (hw _ (List.mem_of_getElem? (i := 73) rfl)) (hw _ (List.mem_of_getElem? (i := 74) rfl)) (hw _ (List.mem_of_getElem? (i := 60) rfl)) (hw _ (List.mem_of_getElem? (i := 75) rfl)) (by decide) (rmC4 l Z a0 hw hel a ar nm t1 kr h115 n0 (Nat.le_trans Z0 K117.1) ga (E.keep K117) (F0.keep K117 nin0) (F1.keep K117 nin0) (F2.keep K117 nin0) (F3.keep K117 nin0) (F4.keep K117 nin0) (A.keep K117 nin0)) (by simp) (by rw [hml]; rfl) pd_9 rfl rfl (hb hby d10_7) rfl (by decide) (Nat.le_of_ble_eq_true rfl) (ce' := 4) (sl' := 56) rfl rfl (by decide) (by decide) (fun v118 h119 hQ120 => ?_)
  obtain ⟨rfl, K121⟩ := hQ120
  show Go _ _ _ _ _ _ _ _ _ _ _ _ _ _ _ _ _ _ _ _ 4 56 10 #[.val (.ref a), .val (.ref nm), .val (.ref ar)] []
  refine Go.ret0 hx hret hlk (hb hby d10_10) (by decide) (by decide) ?_
  exact ⟨rfl, (Keep.trans (Keep.trans (Keep.refl h0 [a]) K117 all0) K121 (allS (Or.inl (by simp)) all0))⟩
theorem d15_0 : decode jdk_2097_method_30_code 0 = .ok (.aload_n 0, 1) := by decide +kernel
theorem d15_1 : decode jdk_2097_method_30_code 1 = .ok (.invokespecial 3, 3) := by decide +kernel
theorem d15_4 : decode jdk_2097_method_30_code 4 = .ok (.lload_n 1, 1) := by decide +kernel
theorem d15_5 : decode jdk_2097_method_30_code 5 = .ok (.lconst 0, 1) := by decide +kernel
theorem d15_6 : decode jdk_2097_method_30_code 6 = .ok (.lcmp, 1) := by decide +kernel
theorem d15_7 : decode jdk_2097_method_30_code 7 = .ok (.ifCond .ge 14, 3) := by decide +kernel
theorem d15_10 : decode jdk_2097_method_30_code 10 = .ok (.lload_n 1, 1) := by decide +kernel
theorem d15_11 : decode jdk_2097_method_30_code 11 = .ok (.lneg, 1) := by decide +kernel
theorem d15_12 : decode jdk_2097_method_30_code 12 = .ok (.lstore_n 1, 1) := by decide +kernel
theorem d15_13 : decode jdk_2097_method_30_code 13 = .ok (.aload_n 0, 1) := by decide +kernel
theorem d15_14 : decode jdk_2097_method_30_code 14 = .ok (.iconst (-1), 1) := by decide +kernel
theorem d15_15 : decode jdk_2097_method_30_code 15 = .ok (.putfield 32, 3) := by decide +kernel
theorem d15_18 : decode jdk_2097_method_30_code 18 = .ok (.goto 8, 3) := by decide +kernel
theorem d15_21 : decode jdk_2097_method_30_code 21 = .ok (.aload_n 0, 1) := by decide +kernel
theorem d15_22 : decode jdk_2097_method_30_code 22 = .ok (.iconst 1, 1) := by decide +kernel
theorem d15_23 : decode jdk_2097_method_30_code 23 = .ok (.putfield 32, 3) := by decide +kernel
theorem d15_26 : decode jdk_2097_method_30_code 26 = .ok (.lload_n 1, 1) := by decide +kernel
theorem d15_27 : decode jdk_2097_method_30_code 27 = .ok (.bipush 32, 2) := by decide +kernel
theorem d15_29 : decode jdk_2097_method_30_code 29 = .ok (.lushr, 1) := by decide +kernel
theorem d15_30 : decode jdk_2097_method_30_code 30 = .ok (.l2i, 1) := by decide +kernel
theorem d15_31 : decode jdk_2097_method_30_code 31 = .ok (.istore_n 3, 1) := by decide +kernel
theorem d15_32 : decode jdk_2097_method_30_code 32 = .ok (.iload_n 3, 1) := by decide +kernel
theorem d15_33 : decode jdk_2097_method_30_code 33 = .ok (.ifCond .ne 21, 3) := by decide +kernel
theorem d15_36 : decode jdk_2097_method_30_code 36 = .ok (.aload_n 0, 1) := by decide +kernel
theorem d15_37 : decode jdk_2097_method_30_code 37 = .ok (.iconst 1, 1) := by decide +kernel
theorem d15_38 : decode jdk_2097_method_30_code 38 = .ok (.newarray .int, 2) := by decide +kernel
theorem d15_40 : decode jdk_2097_method_30_code 40 = .ok (.putfield 28, 3) := by decide +kernel
theorem d15_43 : decode jdk_2097_method_30_code 43 = .ok (.aload_n 0, 1) := by decide +kernel
theorem d15_44 : decode jdk_2097_method_30_code 44 = .ok (.getfield 28, 3) := by decide +kernel
theorem d15_47 : decode jdk_2097_method_30_code 47 = .ok (.iconst 0, 1) := by decide +kernel
theorem d15_48 : decode jdk_2097_method_30_code 48 = .ok (.lload_n 1, 1) := by decide +kernel
theorem d15_49 : decode jdk_2097_method_30_code 49 = .ok (.l2i, 1) := by decide +kernel
theorem d15_50 : decode jdk_2097_method_30_code 50 = .ok (.iastore, 1) := by decide +kernel
theorem d15_51 : decode jdk_2097_method_30_code 51 = .ok (.goto 25, 3) := by decide +kernel
theorem d15_54 : decode jdk_2097_method_30_code 54 = .ok (.aload_n 0, 1) := by decide +kernel
theorem d15_55 : decode jdk_2097_method_30_code 55 = .ok (.iconst 2, 1) := by decide +kernel
theorem d15_56 : decode jdk_2097_method_30_code 56 = .ok (.newarray .int, 2) := by decide +kernel
theorem d15_58 : decode jdk_2097_method_30_code 58 = .ok (.putfield 28, 3) := by decide +kernel
theorem d15_61 : decode jdk_2097_method_30_code 61 = .ok (.aload_n 0, 1) := by decide +kernel
theorem d15_62 : decode jdk_2097_method_30_code 62 = .ok (.getfield 28, 3) := by decide +kernel
theorem d15_65 : decode jdk_2097_method_30_code 65 = .ok (.iconst 0, 1) := by decide +kernel
theorem d15_66 : decode jdk_2097_method_30_code 66 = .ok (.iload_n 3, 1) := by decide +kernel
theorem d15_67 : decode jdk_2097_method_30_code 67 = .ok (.iastore, 1) := by decide +kernel
theorem d15_68 : decode jdk_2097_method_30_code 68 = .ok (.aload_n 0, 1) := by decide +kernel
theorem d15_69 : decode jdk_2097_method_30_code 69 = .ok (.getfield 28, 3) := by decide +kernel
theorem d15_72 : decode jdk_2097_method_30_code 72 = .ok (.iconst 1, 1) := by decide +kernel
theorem d15_73 : decode jdk_2097_method_30_code 73 = .ok (.lload_n 1, 1) := by decide +kernel
theorem d15_74 : decode jdk_2097_method_30_code 74 = .ok (.l2i, 1) := by decide +kernel
theorem d15_75 : decode jdk_2097_method_30_code 75 = .ok (.iastore, 1) := by decide +kernel
theorem d15_76 : decode jdk_2097_method_30_code 76 = .ok (.return_, 1) := by decide +kernel
theorem pl_16 : plainFor (⟨"java/math/BigInteger", "<init>", "(J)V"⟩ : MethodName) = true := plainFor_of_name (by first | (simp [plainName, overriddenIn]; done) | decide +kernel)
set_option maxRecDepth 65536 in
set_option maxHeartbeats 40000000 in
theorem rmB (l : Launch) (Z : State) (a0 : Array Value) (hw : ∀ d ∈ tables_1, d.before a0 Z = true) (hel : EW Z a0 []) (a : Addr) (x : Int64) (h0 : Heap) (n0 : Nat) (Z0 : n0 ≤ h0.size) (ga : n0 ≤ a) (E : Exa Z h0 a "java/math/BigInteger") (F0 : Fld Z h0 a "java/math/BigInteger" "signum" "I" (.int (0 : Int32))) (F1 : Fld Z h0 a "java/math/BigInteger" "mag" "[I" (.null))  :
    Met l Z [] [a] (⟨"java/math/BigInteger", "<init>", "(J)V"⟩ : MethodName) jdk_2097_method_30_code 4 (Option.none : Option FieldType) [] ({ frames := 2, cells := 1, slots := 2, locals := 24 } : Room) #[(.ref a), (.long x)] h0 n0 (fun v h => v = none ∧ Keep h0 h [a]) := by
  refine Met.of (Ls0 := #[.val (.ref a), .val (.long x), .second, .unset]) pl_16 (by first | (simp [argsToLocals, Value.category]; done) | rfl) hel ?_
  intro p e s m below meth c hx hby hml hret hlk hown hnm hZ
  refine Go.aloadN (q := 1) hx (hb hby d15_0) rfl (by rfl) rfl ?_
  refine Go.callI (q := 4) hx hZ (a := a) (argsL := []) (rest := []) hown rfl (hw _ (List.mem_of_getElem? (i := 108) rfl)) (hw _ (List.mem_of_getElem? (i := 109) rfl)) (hw _ (List.mem_of_getElem? (i := 112) rfl)) (hw _ (List.mem_of_getElem? (i := 113) rfl)) (by decide) (rmN l Z a0 hw hel a h0 n0 Z0) (fun _ hx => nomatch hx) (by rw [hml]; rfl) pd_1 rfl rfl (hb hby d15_1) rfl (by decide) (Nat.le_of_ble_eq_true rfl) (ce' := 0) (sl' := 0) rfl rfl (by decide) (by decide) (fun v122 h123 hQ124 => ?_)
  obtain ⟨rfl, rfl⟩ := hQ124
  show Go _ _ _ _ _ _ _ _ _ _ _ _ _ _ _ _ _ _ _ _ 0 0 4 #[.val (.ref a), .val (.long x), .second, .unset] []
  refine Go.lloadN (q := 5) hx (hb hby d15_4) rfl rfl ?_
  refine Go.lconst (q := 6) (z := (0 : Int64)) hx (hb hby d15_5) rfl rfl ?_
  refine Go.lcmp (q := 7) hx (hb hby d15_6) rfl ?_
  refine Go.if_ge (q := 10) (t := 21) hx (hb hby d15_7) (by decide) rfl rfl (fun hc7 => ?_) (fun hc7 => ?_)
  · skip
    refine Go.aloadN (q := 22) hx (hb hby d15_21) rfl (by rfl) rfl ?_
    refine Go.iconst (q := 23) (z := (1 : Int32)) hx (hb hby d15_22) rfl rfl ?_
    refine Go.putF (q := 26) hx hZ hown (host := "") (Or.inl (hw _ (List.mem_of_getElem? (i := 115) rfl))) Via.refl F0 E (Or.inr ⟨(hw _ (List.mem_of_getElem? (i := 116) rfl)), rfl, hnm⟩) (hw _ (List.mem_of_getElem? (i := 103) rfl)) (ty := .int) (by decide) rfl rfl ga (by simp) (hb hby d15_23) rfl (fun h125 W126 => ?_)
    refine Go.lloadN (q := 27) hx (hb hby d15_26) rfl rfl ?_
    refine Go.bipush (q := 29) (z := (32 : Int32)) hx (hb hby d15_27) rfl rfl ?_
    refine Go.lushr (q := 30) hx (hb hby d15_29) rfl ?_
    refine Go.l2i (q := 31) hx (hb hby d15_30) rfl ?_
    refine Go.istoreN (q := 32) (l' := #[.val (.ref a), .val (.long x), .second, .val (.int ((XT.ushrL x (32 : Int32)).toInt32))]) hx (hb hby d15_31) rfl rfl ?_
    refine Go.iloadN (q := 33) hx (hb hby d15_32) rfl rfl ?_
    refine Go.if_ne (q := 36) (t := 54) hx (hb hby d15_33) (by decide) rfl rfl (fun hc33 => ?_) (fun hc33 => ?_)
    · skip
      refine Go.aloadN (q := 55) hx (hb hby d15_54) rfl (by rfl) rfl ?_
      refine Go.iconst (q := 56) (z := (2 : Int32)) hx (hb hby d15_55) rfl rfl ?_
      refine Go.newP (q := 58) (cap := 2) hx hZ (hw _ (List.mem_of_getElem? (i := 117) rfl)) (by decide) (by decide) (hb hby d15_56) rfl (by decide) (ce' := 1) (sl' := 2) rfl rfl (by decide) (by decide) (fun h127 a128 k129 g130 E131 A132 => ?_)
      have ne133 : a ≠ a128 := by rw [g130]; exact Nat.ne_of_lt ((Exa.wr W126 E)).lt
      have gz134 : n0 ≤ a128 := by rw [g130]; exact (Nat.le_trans Z0 (Keep.of_wr W126).1)
      have gk135 : h0.size ≤ a128 := by rw [g130]; exact ((Keep.refl h0 [a]).wr W126 (Or.inl (by simp))).1
      have V136 : Arv Z h127 a128 k129 .int (2 : Int32) [(.int (0 : Int32)), (.int (0 : Int32))] (.int (0 : Int32)) := A132.pad (pad_rep [] (.int (0 : Int32)) 2)
      refine Go.putF (q := 61) hx hZ hown (host := "") (Or.inl (hw _ (List.mem_of_getElem? (i := 118) rfl))) Via.refl (Fld.ext E131 (Fld.other W126 F1 (Or.inr (slot_ne (C := "java/math/BigInteger") (Or.inr (hw _ (List.mem_of_getElem? (i := 119) rfl))) (Or.inr (hw _ (List.mem_of_getElem? (i := 116) rfl))) (by decide) (by decide : _ = some (.array .int)) (by decide : _ = some .int))))) (Exa.ext E131 (Exa.wr W126 E)) (Or.inr ⟨(hw _ (List.mem_of_getElem? (i := 119) rfl)), rfl, hnm⟩) (hw _ (List.mem_of_getElem? (i := 103) rfl)) (ty := (.array .int)) (by decide) rfl rfl ga (by simp) (hb hby d15_58) rfl (fun h137 W138 => ?_)
      refine Go.aloadN (q := 62) hx (hb hby d15_61) rfl (by rfl) rfl ?_
      refine Go.getF (q := 65) hx hZ hown (host := "") (Or.inl (hw _ (List.mem_of_getElem? (i := 118) rfl))) Via.refl (Fld.same W138 (Fld.ext E131 (Fld.other W126 F1 (Or.inr (slot_ne (C := "java/math/BigInteger") (Or.inr (hw _ (List.mem_of_getElem? (i := 119) rfl))) (Or.inr (hw _ (List.mem_of_getElem? (i := 116) rfl))) (by decide) (by decide : _ = some (.array .int)) (by decide : _ = some .int)))))) (hb hby d15_62) rfl ?_
      refine Go.iconst (q := 66) (z := (0 : Int32)) hx (hb hby d15_65) rfl rfl ?_
      refine Go.iloadN (q := 67) hx (hb hby d15_66) rfl rfl ?_
      refine Go.iastore (q := 68) hx hZ (V136.other W138 ne133.symm) ⟨by decide, by decide⟩ 0 rfl (Nat.le_of_ble_eq_true rfl) gz134 (by simp) (hb hby d15_67) rfl (fun h139 W140 V141 => ?_)
      refine Go.aloadN (q := 69) hx (hb hby d15_68) rfl (by rfl) rfl ?_
      refine Go.getF (q := 72) hx hZ hown (host := "") (Or.inl (hw _ (List.mem_of_getElem? (i := 118) rfl))) Via.refl (Fld.other W140 (Fld.same W138 (Fld.ext E131 (Fld.other W126 F1 (Or.inr (slot_ne (C := "java/math/BigInteger") (Or.inr (hw _ (List.mem_of_getElem? (i := 119) rfl))) (Or.inr (hw _ (List.mem_of_getElem? (i := 116) rfl))) (by decide) (by decide : _ = some (.array .int)) (by decide : _ = some .int)))))) (Or.inl ne133)) (hb hby d15_69) rfl ?_
      refine Go.iconst (q := 73) (z := (1 : Int32)) hx (hb hby d15_72) rfl rfl ?_
      refine Go.lloadN (q := 74) hx (hb hby d15_73) rfl rfl ?_
      refine Go.l2i (q := 75) hx (hb hby d15_74) rfl ?_
      refine Go.iastore (q := 76) hx hZ V141 ⟨by decide, by decide⟩ 1 rfl (Nat.le_of_ble_eq_true rfl) gz134 (by simp) (hb hby d15_75) rfl (fun h142 W143 V144 => ?_)
      refine Go.ret0 hx hret hlk (hb hby d15_76) (by decide) (by decide) ?_
      exact ⟨rfl, ((((((Keep.refl h0 [a]).wr W126 (Or.inl (by simp))).ext E131).wr W138 (Or.inl (by simp))).wr W140 (Or.inr gk135)).wr W143 (Or.inr gk135))⟩
    · skip
      refine Go.aloadN (q := 37) hx (hb hby d15_36) rfl (by rfl) rfl ?_
      refine Go.iconst (q := 38) (z := (1 : Int32)) hx (hb hby d15_37) rfl rfl ?_
      refine Go.newP (q := 40) (cap := 1) hx hZ (hw _ (List.mem_of_getElem? (i := 117) rfl)) (by decide) (by decide) (hb hby d15_38) rfl (by decide) (ce' := 1) (sl' := 1) rfl rfl (by decide) (by decide) (fun h145 a146 k147 g148 E149 A150 => ?_)
      have ne151 : a ≠ a146 := by rw [g148]; exact Nat.ne_of_lt ((Exa.wr W126 E)).lt
      have gz152 : n0 ≤ a146 := by rw [g148]; exact (Nat.le_trans Z0 (Keep.of_wr W126).1)
      have gk153 : h0.size ≤ a146 := by rw [g148]; exact ((Keep.refl h0 [a]).wr W126 (Or.inl (by simp))).1
      have V154 : Arv Z h145 a146 k147 .int (1 : Int32) [(.int (0 : Int32))] (.int (0 : Int32)) := A150.pad (pad_rep [] (.int (0 : Int32)) 1)
      refine Go.putF (q := 43) hx hZ hown (host := "") (Or.inl (hw _ (List.mem_of_getElem? (i := 118) rfl))) Via.refl (Fld.ext E149 (Fld.other W126 F1 (Or.inr (slot_ne (C := "java/math/BigInteger") (Or.inr (hw _ (List.mem_of_getElem? (i := 119) rfl))) (Or.inr (hw _ (List.mem_of_getElem? (i := 116) rfl))) (by decide) (by decide : _ = some (.array .int)) (by decide : _ = some .int))))) (Exa.ext E149 (Exa.wr W126 E)) (Or.inr ⟨(hw _ (List.mem_of_getElem? (i := 119) rfl)), rfl, hnm⟩) (hw _ (List.mem_of_getElem? (i := 103) rfl)) (ty := (.array .int)) (by decide) rfl rfl ga (by simp) (hb hby d15_40) rfl (fun h155 W156 => ?_)
      refine Go.aloadN (q := 44) hx (hb hby d15_43) rfl (by rfl) rfl ?_
      refine Go.getF (q := 47) hx hZ hown (host := "") (Or.inl (hw _ (List.mem_of_getElem? (i := 118) rfl))) Via.refl (Fld.same W156 (Fld.ext E149 (Fld.other W126 F1 (Or.inr (slot_ne (C := "java/math/BigInteger") (Or.inr (hw _ (List.mem_of_getElem? (i := 119) rfl))) (Or.inr (hw _ (List.mem_of_getElem? (i := 116) rfl))) (by decide) (by decide : _ = some (.array .int)) (by decide : _ = some .int)))))) (hb hby d15_44) rfl ?_
      refine Go.iconst (q := 48) (z := (0 : Int32)) hx (hb hby d15_47) rfl rfl ?_
      refine Go.lloadN (q := 49) hx (hb hby d15_48) rfl rfl ?_
      refine Go.l2i (q := 50) hx (hb hby d15_49) rfl ?_
      refine Go.iastore (q := 51) hx hZ (V154.other W156 ne151.symm) ⟨by decide, by decide⟩ 0 rfl (Nat.le_of_ble_eq_true rfl) gz152 (by simp) (hb hby d15_50) rfl (fun h157 W158 V159 => ?_)
      refine Go.goto (q := 76) hx (hb hby d15_51) (by decide) rfl ?_
      refine Go.ret0 hx hret hlk (hb hby d15_76) (by decide) (by decide) ?_
      exact ⟨rfl, (((((Keep.refl h0 [a]).wr W126 (Or.inl (by simp))).ext E149).wr W156 (Or.inl (by simp))).wr W158 (Or.inr gk153))⟩
  · skip
    refine Go.lloadN (q := 11) hx (hb hby d15_10) rfl rfl ?_
    refine Go.lneg (q := 12) hx (hb hby d15_11) rfl ?_
    refine Go.lstoreN (q := 13) (l' := #[.val (.ref a), .val (.long (-x)), .second, .unset]) hx (hb hby d15_12) rfl rfl ?_
    refine Go.aloadN (q := 14) hx (hb hby d15_13) rfl (by rfl) rfl ?_
    refine Go.iconst (q := 15) (z := (-1 : Int32)) hx (hb hby d15_14) rfl rfl ?_
    refine Go.putF (q := 18) hx hZ hown (host := "") (Or.inl (hw _ (List.mem_of_getElem? (i := 115) rfl))) Via.refl F0 E (Or.inr ⟨(hw _ (List.mem_of_getElem? (i := 116) rfl)), rfl, hnm⟩) (hw _ (List.mem_of_getElem? (i := 103) rfl)) (ty := .int) (by decide) rfl rfl ga (by simp) (hb hby d15_15) rfl (fun h160 W161 => ?_)
    refine Go.goto (q := 26) hx (hb hby d15_18) (by decide) rfl ?_
    refine Go.lloadN (q := 27) hx (hb hby d15_26) rfl rfl ?_
    refine Go.bipush (q := 29) (z := (32 : Int32)) hx (hb hby d15_27) rfl rfl ?_
    refine Go.lushr (q := 30) hx (hb hby d15_29) rfl ?_
    refine Go.l2i (q := 31) hx (hb hby d15_30) rfl ?_
    refine Go.istoreN (q := 32) (l' := #[.val (.ref a), .val (.long (-x)), .second, .val (.int ((XT.ushrL (-x) (32 : Int32)).toInt32))]) hx (hb hby d15_31) rfl rfl ?_
    refine Go.iloadN (q := 33) hx (hb hby d15_32) rfl rfl ?_
    refine Go.if_ne (q := 36) (t := 54) hx (hb hby d15_33) (by decide) rfl rfl (fun hc33 => ?_) (fun hc33 => ?_)
    · skip
      refine Go.aloadN (q := 55) hx (hb hby d15_54) rfl (by rfl) rfl ?_
      refine Go.iconst (q := 56) (z := (2 : Int32)) hx (hb hby d15_55) rfl rfl ?_
      refine Go.newP (q := 58) (cap := 2) hx hZ (hw _ (List.mem_of_getElem? (i := 117) rfl)) (by decide) (by decide) (hb hby d15_56) rfl (by decide) (ce' := 1) (sl' := 2) rfl rfl (by decide) (by decide) (fun h162 a163 k164 g165 E166 A167 => ?_)
      have ne168 : a ≠ a163 := by rw [g165]; exact Nat.ne_of_lt ((Exa.wr W161 E)).lt
      have gz169 : n0 ≤ a163 := by rw [g165]; exact (Nat.le_trans Z0 (Keep.of_wr W161).1)
      have gk170 : h0.size ≤ a163 := by rw [g165]; exact ((Keep.refl h0 [a]).wr W161 (Or.inl (by simp))).1
      have V171 : Arv Z h162 a163 k164 .int (2 : Int32) [(.int (0 : Int32)), (.int (0 : Int32))] (.int (0 : Int32)) := A167.pad (pad_rep [] (.int (0 : Int32)) 2)
      refine Go.putF (q := 61) hx hZ hown (host := "") (Or.inl (hw _ (List.mem_of_getElem? (i := 118) rfl))) Via.refl (Fld.ext E166 (Fld.other W161 F1 (Or.inr (slot_ne (C := "java/math/BigInteger") (Or.inr (hw _ (List.mem_of_getElem? (i := 119) rfl))) (Or.inr (hw _ (List.mem_of_getElem? (i := 116) rfl))) (by decide) (by decide : _ = some (.array .int)) (by decide : _ = some .int))))) (Exa.ext E166 (Exa.wr W161 E)) (Or.inr ⟨(hw _ (List.mem_of_getElem? (i := 119) rfl)), rfl, hnm⟩) (hw _ (List.mem_of_getElem? (i := 103) rfl)) (ty := (.array .int)) (by decide) rfl rfl ga (by simp) (hb hby d15_58) rfl (fun h172 W173 => ?_)
      refine Go.aloadN (q := 62) hx (hb hby d15_61) rfl (by rfl) rfl ?_
      refine Go.getF (q := 65) hx hZ hown (host := "") (Or.inl (hw _ (List.mem_of_getElem? (i := 118) rfl))) Via.refl (Fld.same W173 (Fld.ext E166 (Fld.other W161 F1 (Or.inr (slot_ne (C := "java/math/BigInteger") (Or.inr (hw _ (List.mem_of_getElem? (i := 119) rfl))) (Or.inr (hw _ (List.mem_of_getElem? (i := 116) rfl))) (by decide) (by decide : _ = some (.array .int)) (by decide : _ = some .int)))))) (hb hby d15_62) rfl ?_
      refine Go.iconst (q := 66) (z := (0 : Int32)) hx (hb hby d15_65) rfl rfl ?_
      refine Go.iloadN (q := 67) hx (hb hby d15_66) rfl rfl ?_
      refine Go.iastore (q := 68) hx hZ (V171.other W173 ne168.symm) ⟨by decide, by decide⟩ 0 rfl (Nat.le_of_ble_eq_true rfl) gz169 (by simp) (hb hby d15_67) rfl (fun h174 W175 V176 => ?_)
      refine Go.aloadN (q := 69) hx (hb hby d15_68) rfl (by rfl) rfl ?_
      refine Go.getF (q := 72) hx hZ hown (host := "") (Or.inl (hw _ (List.mem_of_getElem? (i := 118) rfl))) Via.refl (Fld.other W175 (Fld.same W173 (Fld.ext E166 (Fld.other W161 F1 (Or.inr (slot_ne (C := "java/math/BigInteger") (Or.inr (hw _ (List.mem_of_getElem? (i := 119) rfl))) (Or.inr (hw _ (List.mem_of_getElem? (i := 116) rfl))) (by decide) (by decide : _ = some (.array .int)) (by decide : _ = some .int)))))) (Or.inl ne168)) (hb hby d15_69) rfl ?_
      refine Go.iconst (q := 73) (z := (1 : Int32)) hx (hb hby d15_72) rfl rfl ?_
      refine Go.lloadN (q := 74) hx (hb hby d15_73) rfl rfl ?_
      refine Go.l2i (q := 75) hx (hb hby d15_74) rfl ?_
      refine Go.iastore (q := 76) hx hZ V176 ⟨by decide, by decide⟩ 1 rfl (Nat.le_of_ble_eq_true rfl) gz169 (by simp) (hb hby d15_75) rfl (fun h177 W178 V179 => ?_)
      refine Go.ret0 hx hret hlk (hb hby d15_76) (by decide) (by decide) ?_
      exact ⟨rfl, ((((((Keep.refl h0 [a]).wr W161 (Or.inl (by simp))).ext E166).wr W173 (Or.inl (by simp))).wr W175 (Or.inr gk170)).wr W178 (Or.inr gk170))⟩
    · skip
      refine Go.aloadN (q := 37) hx (hb hby d15_36) rfl (by rfl) rfl ?_
      refine Go.iconst (q := 38) (z := (1 : Int32)) hx (hb hby d15_37) rfl rfl ?_
      refine Go.newP (q := 40) (cap := 1) hx hZ (hw _ (List.mem_of_getElem? (i := 117) rfl)) (by decide) (by decide) (hb hby d15_38) rfl (by decide) (ce' := 1) (sl' := 1) rfl rfl (by decide) (by decide) (fun h180 a181 k182 g183 E184 A185 => ?_)
      have ne186 : a ≠ a181 := by rw [g183]; exact Nat.ne_of_lt ((Exa.wr W161 E)).lt
      have gz187 : n0 ≤ a181 := by rw [g183]; exact (Nat.le_trans Z0 (Keep.of_wr W161).1)
      have gk188 : h0.size ≤ a181 := by rw [g183]; exact ((Keep.refl h0 [a]).wr W161 (Or.inl (by simp))).1
      have V189 : Arv Z h180 a181 k182 .int (1 : Int32) [(.int (0 : Int32))] (.int (0 : Int32)) := A185.pad (pad_rep [] (.int (0 : Int32)) 1)
      refine Go.putF (q := 43) hx hZ hown (host := "") (Or.inl (hw _ (List.mem_of_getElem? (i := 118) rfl))) Via.refl (Fld.ext E184 (Fld.other W161 F1 (Or.inr (slot_ne (C := "java/math/BigInteger") (Or.inr (hw _ (List.mem_of_getElem? (i := 119) rfl))) (Or.inr (hw _ (List.mem_of_getElem? (i := 116) rfl))) (by decide) (by decide : _ = some (.array .int)) (by decide : _ = some .int))))) (Exa.ext E184 (Exa.wr W161 E)) (Or.inr ⟨(hw _ (List.mem_of_getElem? (i := 119) rfl)), rfl, hnm⟩) (hw _ (List.mem_of_getElem? (i := 103) rfl)) (ty := (.array .int)) (by decide) rfl rfl ga (by simp) (hb hby d15_40) rfl (fun h190 W191 => ?_)
      refine Go.aloadN (q := 44) hx (hb hby d15_43) rfl (by rfl) rfl ?_
      refine Go.getF (q := 47) hx hZ hown (host := "") (Or.inl (hw _ (List.mem_of_getElem? (i := 118) rfl))) Via.refl (Fld.same W191 (Fld.ext E184 (Fld.other W161 F1 (Or.inr (slot_ne (C := "java/math/BigInteger") (Or.inr (hw _ (List.mem_of_getElem? (i := 119) rfl))) (Or.inr (hw _ (List.mem_of_getElem? (i := 116) rfl))) (by decide) (by decide : _ = some (.array .int)) (by decide : _ = some .int)))))) (hb hby d15_44) rfl ?_
      refine Go.iconst (q := 48) (z := (0 : Int32)) hx (hb hby d15_47) rfl rfl ?_
      refine Go.lloadN (q := 49) hx (hb hby d15_48) rfl rfl ?_
      refine Go.l2i (q := 50) hx (hb hby d15_49) rfl ?_
      refine Go.iastore (q := 51) hx hZ (V189.other W191 ne186.symm) ⟨by decide, by decide⟩ 0 rfl (Nat.le_of_ble_eq_true rfl) gz187 (by simp) (hb hby d15_50) rfl (fun h192 W193 V194 => ?_)
      refine Go.goto (q := 76) hx (hb hby d15_51) (by decide) rfl ?_
      refine Go.ret0 hx hret hlk (hb hby d15_76) (by decide) (by decide) ?_
      exact ⟨rfl, (((((Keep.refl h0 [a]).wr W161 (Or.inl (by simp))).ext E184).wr W191 (Or.inl (by simp))).wr W193 (Or.inr gk188))⟩
/-- the small constants -/
def Small (Z : State) (cb : Addr) (cl : Cell) : Prop := Arr Z Z.heap cb cl (.object "java/math/BigInteger") ∧ cl.slots.size = 17 ∧ ∀ j : Int32, ¬ j < 1 → ¬ 16 < j → ∃ y, cl.slots[j.toNatClampNeg]? = some (.ref y) ∧ Exa Z Z.heap y "java/math/BigInteger"
theorem pos_ix {x : Int64} (h1 : (0 : Int64) < x) (h2 : ¬ (16 : Int64) < x) : ¬ x.toInt32 < 1 ∧ ¬ 16 < x.toInt32 ∧ ¬ (x.toInt32 < 0 ∨ 17 ≤ x.toInt32.toNatClampNeg) := by
  rw [Int64.lt_iff_toInt_lt] at h1 h2
  have e0 : (0 : Int64).toInt = 0 := rfl
  have e1 : (16 : Int64).toInt = 16 := rfl
  have f0 : (0 : Int32).toInt = 0 := rfl
  have f1 : (1 : Int32).toInt = 1 := rfl
  have f16 : (16 : Int32).toInt = 16 := rfl
  have e2 := Jvm.Kit.i32_of_i64 (x := x) (by omega) (by omega)
  simp only [Int32.lt_iff_toInt_lt, Int32.toNatClampNeg, e2]
  omega
theorem neg_ix {x : Int64} (h1 : x < (0 : Int64)) (h2 : ¬ x < (-16 : Int64)) : ¬ (-x).toInt32 < 1 ∧ ¬ 16 < (-x).toInt32 ∧ ¬ ((-x).toInt32 < 0 ∨ 17 ≤ (-x).toInt32.toNatClampNeg) := by
  rw [Int64.lt_iff_toInt_lt] at h1 h2
  have e0 : (0 : Int64).toInt = 0 := rfl
  have e1 : (-16 : Int64).toInt = -16 := rfl
  have f0 : (0 : Int32).toInt = 0 := rfl
  have f1 : (1 : Int32).toInt = 1 := rfl
  have f16 : (16 : Int32).toInt = 16 := rfl
  have e3 := Jvm.Kit.i64_neg (x := x) (by omega)
  have e2 := Jvm.Kit.i32_of_i64 (x := -x) (by omega) (by omega)
  simp only [Int32.lt_iff_toInt_lt, Int32.toNatClampNeg, e2, e3]
  omega
theorem d14_0 : decode jdk_2097_method_29_code 0 = .ok (.lload_n 0, 1) := by decide +kernel
theorem d14_1 : decode jdk_2097_method_29_code 1 = .ok (.lconst 0, 1) := by decide +kernel
theorem d14_2 : decode jdk_2097_method_29_code 2 = .ok (.lcmp, 1) := by decide +kernel
theorem d14_3 : decode jdk_2097_method_29_code 3 = .ok (.ifCond .ne 7, 3) := by decide +kernel
theorem d14_6 : decode jdk_2097_method_29_code 6 = .ok (.getstatic 22, 3) := by decide +kernel
theorem d14_9 : decode jdk_2097_method_29_code 9 = .ok (.areturn, 1) := by decide +kernel
theorem d14_10 : decode jdk_2097_method_29_code 10 = .ok (.lload_n 0, 1) := by decide +kernel
theorem d14_11 : decode jdk_2097_method_29_code 11 = .ok (.lconst 0, 1) := by decide +kernel
theorem d14_12 : decode jdk_2097_method_29_code 12 = .ok (.lcmp, 1) := by decide +kernel
theorem d14_13 : decode jdk_2097_method_29_code 13 = .ok (.ifCond .le 18, 3) := by decide +kernel
theorem d14_16 : decode jdk_2097_method_29_code 16 = .ok (.lload_n 0, 1) := by decide +kernel
theorem d14_17 : decode jdk_2097_method_29_code 17 = .ok (.ldc2_w 345, 3) := by decide +kernel
theorem d14_20 : decode jdk_2097_method_29_code 20 = .ok (.lcmp, 1) := by decide +kernel
theorem d14_21 : decode jdk_2097_method_29_code 21 = .ok (.ifCond .gt 10, 3) := by decide +kernel
theorem d14_24 : decode jdk_2097_method_29_code 24 = .ok (.getstatic 347, 3) := by decide +kernel
theorem d14_27 : decode jdk_2097_method_29_code 27 = .ok (.lload_n 0, 1) := by decide +kernel
theorem d14_28 : decode jdk_2097_method_29_code 28 = .ok (.l2i, 1) := by decide +kernel
theorem d14_29 : decode jdk_2097_method_29_code 29 = .ok (.aaload, 1) := by decide +kernel
theorem d14_30 : decode jdk_2097_method_29_code 30 = .ok (.areturn, 1) := by decide +kernel
theorem d14_31 : decode jdk_2097_method_29_code 31 = .ok (.lload_n 0, 1) := by decide +kernel
theorem d14_32 : decode jdk_2097_method_29_code 32 = .ok (.lconst 0, 1) := by decide +kernel
theorem d14_33 : decode jdk_2097_method_29_code 33 = .ok (.lcmp, 1) := by decide +kernel
theorem d14_34 : decode jdk_2097_method_29_code 34 = .ok (.ifCond .ge 19, 3) := by decide +kernel
theorem d14_37 : decode jdk_2097_method_29_code 37 = .ok (.lload_n 0, 1) := by decide +kernel
theorem d14_38 : decode jdk_2097_method_29_code 38 = .ok (.ldc2_w 351, 3) := by decide +kernel
theorem d14_41 : decode jdk_2097_method_29_code 41 = .ok (.lcmp, 1) := by decide +kernel
theorem d14_42 : decode jdk_2097_method_29_code 42 = .ok (.ifCond .lt 11, 3) := by decide +kernel
theorem d14_45 : decode jdk_2097_method_29_code 45 = .ok (.getstatic 353, 3) := by decide +kernel
theorem d14_48 : decode jdk_2097_method_29_code 48 = .ok (.lload_n 0, 1) := by decide +kernel
theorem d14_49 : decode jdk_2097_method_29_code 49 = .ok (.lneg, 1) := by decide +kernel
theorem d14_50 : decode jdk_2097_method_29_code 50 = .ok (.l2i, 1) := by decide +kernel
theorem d14_51 : decode jdk_2097_method_29_code 51 = .ok (.aaload, 1) := by decide +kernel
theorem d14_52 : decode jdk_2097_method_29_code 52 = .ok (.areturn, 1) := by decide +kernel
theorem d14_53 : decode jdk_2097_method_29_code 53 = .ok (.new 23, 3) := by decide +kernel
theorem d14_56 : decode jdk_2097_method_29_code 56 = .ok (.dup, 1) := by decide +kernel
theorem d14_57 : decode jdk_2097_method_29_code 57 = .ok (.lload_n 0, 1) := by decide +kernel
theorem d14_58 : decode jdk_2097_method_29_code 58 = .ok (.invokespecial 356, 3) := by decide +kernel
theorem d14_61 : decode jdk_2097_method_29_code 61 = .ok (.areturn, 1) := by decide +kernel
theorem pl_17 : plainFor (⟨"java/math/BigInteger", "valueOf", "(J)Ljava/math/BigInteger;"⟩ : MethodName) = true := plainFor_of_name (by first | (simp [plainName, overriddenIn]; done) | decide +kernel)
theorem pd_10 : parseMethodDescriptor "(J)V" = some ⟨[.long], none⟩ := by decide +kernel
set_option maxRecDepth 65536 in
set_option maxHeartbeats 40000000 in
theorem rmVal (l : Launch) (Z : State) (a0 : Array Value) (hw : ∀ d ∈ tables_1, d.before a0 Z = true) (hel : EW Z a0 []) (x : Int64) (zb pb gb : Addr) (pc1 gc1 : Cell) (h0 : Heap) (n0 : Nat) (Z0 : n0 ≤ h0.size) (X0 : Old Z n0 h0) (B0 : Sta Z Z.heap "java/math/BigInteger" "ZERO" "Ljava/math/BigInteger;" (.ref zb)) (EB : Exa Z Z.heap zb "java/math/BigInteger") (B1 : Sta Z Z.heap "java/math/BigInteger" "posConst" "[Ljava/math/BigInteger;" (.ref pb)) (B2 : Sta Z Z.heap "java/math/BigInteger" "negConst" "[Ljava/math/BigInteger;" (.ref gb)) (S1 : Small Z pb pc1) (S2 : Small Z gb gc1) :
    Met l Z [] [] (⟨"java/math/BigInteger", "valueOf", "(J)Ljava/math/BigInteger;"⟩ : MethodName) jdk_2097_method_29_code 2 (Option.some (FieldType.object "java/math/BigInteger")) [] ({ frames := 3, cells := 2, slots := 8, locals := 40 } : Room) #[(.long x)] h0 n0 (fun v h => ∃ y, v = some (.ref y) ∧ Keep h0 h [] ∧ Exa Z h y "java/math/BigInteger") := by
  refine Met.of (Ls0 := #[.val (.long x), .second]) pl_17 (by first | (simp [argsToLocals, Value.category]; done) | rfl) hel ?_
  intro p e s m below meth c hx hby hml hret hlk hown hnm hZ
  refine Go.lloadN (q := 1) hx (hb hby d14_0) rfl rfl ?_
  refine Go.lconst (q := 2) (z := (0 : Int64)) hx (hb hby d14_1) rfl rfl ?_
  refine Go.lcmp (q := 3) hx (hb hby d14_2) rfl ?_
  refine Go.if_ne (q := 6) (t := 10) hx (hb hby d14_3) (by decide) rfl rfl (fun hc3 => ?_) (fun hc3 => ?_)
  · skip
    refine Go.lloadN (q := 11) hx (hb hby d14_10) rfl rfl ?_
    refine Go.lconst (q := 12) (z := (0 : Int64)) hx (hb hby d14_11) rfl rfl ?_
    refine Go.lcmp (q := 13) hx (hb hby d14_12) rfl ?_
    refine Go.if_le (q := 16) (t := 31) hx (hb hby d14_13) (by decide) rfl rfl (fun hc13 => ?_) (fun hc13 => ?_)
    · skip
      refine Go.lloadN (q := 32) hx (hb hby d14_31) rfl rfl ?_
      refine Go.lconst (q := 33) (z := (0 : Int64)) hx (hb hby d14_32) rfl rfl ?_
      refine Go.lcmp (q := 34) hx (hb hby d14_33) rfl ?_
      refine Go.if_ge (q := 37) (t := 53) hx (hb hby d14_34) (by decide) rfl rfl (fun hc34 => ?_) (fun hc34 => ?_)
      · skip
        refine Go.newO (q := 56) hx hZ hown (hw _ (List.mem_of_getElem? (i := 102) rfl)) (hw _ (List.mem_of_getElem? (i := 103) rfl)) (hw _ (List.mem_of_getElem? (i := 99) rfl)) (hb hby d14_53) rfl (ce' := 1) (sl' := 6) rfl rfl (by decide) (by decide) (fun h195 a196 g197 E198 A199 D200 => ?_)
        have gz201 : n0 ≤ a196 := by rw [g197]; exact Z0
        have gk202 : h0.size ≤ a196 := by rw [g197]; exact (Keep.refl h0 []).1
        refine Go.dup (q := 57) hx (hb hby d14_56) rfl rfl ?_
        refine Go.lloadN (q := 58) hx (hb hby d14_57) rfl rfl ?_
        refine Go.callI (q := 61) hx hZ (a := a196) (argsL := [(.long x)]) (rest := [(.ref a196)]) hown rfl (hw _ (List.mem_of_getElem? (i := 104) rfl)) (hw _ (List.mem_of_getElem? (i := 105) rfl)) (hw _ (List.mem_of_getElem? (i := 99) rfl)) (hw _ (List.mem_of_getElem? (i := 107) rfl)) (by decide) (rmB l Z a0 hw hel a196 x h195 n0 (Nat.le_trans Z0 E198.1) gz201 A199 (D200 (Or.inr (hw _ (List.mem_of_getElem? (i := 116) rfl))) (ty := .int) (by decide)) (D200 (Or.inr (hw _ (List.mem_of_getElem? (i := 119) rfl))) (ty := (.array .int)) (by decide)) ) (by simp) (by rw [hml]; rfl) pd_10 rfl rfl (hb hby d14_58) rfl (by decide) (Nat.le_of_ble_eq_true rfl) (ce' := 2) (sl' := 8) rfl rfl (by decide) (by decide) (fun v203 h204 hQ205 => ?_)
        obtain ⟨rfl, K206⟩ := hQ205
        show Go _ _ _ _ _ _ _ _ _ _ _ _ _ _ _ _ _ _ _ _ 2 8 61 #[.val (.long x), .second] [(.ref a196)]
        refine Go.retA hx hret rfl (by rfl) hlk (hb hby d14_61) (by decide) (by decide) ?_
        exact ⟨a196, rfl, (Keep.trans ((Keep.refl h0 []).ext E198) K206 (allS (Or.inr gk202) all0)), (A199.keep K206)⟩
      · skip
        refine Go.lloadN (q := 38) hx (hb hby d14_37) rfl rfl ?_
        refine Go.ldc2Long (q := 41) hx hZ hown (hw _ (List.mem_of_getElem? (i := 101) rfl)) (hb hby d14_38) rfl ?_
        refine Go.lcmp (q := 42) hx (hb hby d14_41) rfl ?_
        refine Go.if_lt (q := 45) (t := 53) hx (hb hby d14_42) (by decide) rfl rfl (fun hc42 => ?_) (fun hc42 => ?_)
        · skip
          refine Go.newO (q := 56) hx hZ hown (hw _ (List.mem_of_getElem? (i := 102) rfl)) (hw _ (List.mem_of_getElem? (i := 103) rfl)) (hw _ (List.mem_of_getElem? (i := 99) rfl)) (hb hby d14_53) rfl (ce' := 1) (sl' := 6) rfl rfl (by decide) (by decide) (fun h207 a208 g209 E210 A211 D212 => ?_)
          have gz213 : n0 ≤ a208 := by rw [g209]; exact Z0
          have gk214 : h0.size ≤ a208 := by rw [g209]; exact (Keep.refl h0 []).1
          refine Go.dup (q := 57) hx (hb hby d14_56) rfl rfl ?_
          refine Go.lloadN (q := 58) hx (hb hby d14_57) rfl rfl ?_
          refine Go.callI (q := 61) hx hZ (a := a208) (argsL := [(.long x)]) (rest := [(.ref a208)]) hown rfl (hw _ (List.mem_of_getElem? (i := 104) rfl)) (hw _ (List.mem_of_getElem? (i := 105) rfl)) (hw _ (List.mem_of_getElem? (i := 99) rfl)) (hw _ (List.mem_of_getElem? (i := 107) rfl)) (by decide) (rmB l Z a0 hw hel a208 x h207 n0 (Nat.le_trans Z0 E210.1) gz213 A211 (D212 (Or.inr (hw _ (List.mem_of_getElem? (i := 116) rfl))) (ty := .int) (by decide)) (D212 (Or.inr (hw _ (List.mem_of_getElem? (i := 119) rfl))) (ty := (.array .int)) (by decide)) ) (by simp) (by rw [hml]; rfl) pd_10 rfl rfl (hb hby d14_58) rfl (by decide) (Nat.le_of_ble_eq_true rfl) (ce' := 2) (sl' := 8) rfl rfl (by decide) (by decide) (fun v215 h216 hQ217 => ?_)
          obtain ⟨rfl, K218⟩ := hQ217
          show Go _ _ _ _ _ _ _ _ _ _ _ _ _ _ _ _ _ _ _ _ 2 8 61 #[.val (.long x), .second] [(.ref a208)]
          refine Go.retA hx hret rfl (by rfl) hlk (hb hby d14_61) (by decide) (by decide) ?_
          exact ⟨a208, rfl, (Keep.trans ((Keep.refl h0 []).ext E210) K218 (allS (Or.inr gk214) all0)), (A211.keep K218)⟩
        · skip
          refine Go.getS (q := 48) hx hZ hown (host := "") (Or.inl (hw _ (List.mem_of_getElem? (i := 153) rfl))) Via.refl (Sta.ext X0.2 B2) (hb hby d14_45) rfl ?_
          refine Go.lloadN (q := 49) hx (hb hby d14_48) rfl rfl ?_
          refine Go.lneg (q := 50) hx (hb hby d14_49) rfl ?_
          refine Go.l2i (q := 51) hx (hb hby d14_50) rfl ?_
          obtain ⟨i1, i2, i3⟩ := neg_ix ((cmpL_lt _ _).mp hc34) (fun q => hc42 ((cmpL_lt _ _).mpr q))
          obtain ⟨y, y1, y2⟩ := S2.2.2 _ i1 i2
          refine Go.aaloadC (q := 52) hx hZ (Arr.ext X0.2 S2.1) rfl (by rw [S2.2.1]; exact i3) y1 (hb hby d14_51) rfl ?_
          refine Go.retA hx hret rfl (by rfl) hlk (hb hby d14_52) (by decide) (by decide) ?_
          exact ⟨y, rfl, Keep.refl _ _, Exa.ext X0.2 y2⟩
    · skip
      refine Go.lloadN (q := 17) hx (hb hby d14_16) rfl rfl ?_
      refine Go.ldc2Long (q := 20) hx hZ hown (hw _ (List.mem_of_getElem? (i := 131) rfl)) (hb hby d14_17) rfl ?_
      refine Go.lcmp (q := 21) hx (hb hby d14_20) rfl ?_
      refine Go.if_gt (q := 24) (t := 31) hx (hb hby d14_21) (by decide) rfl rfl (fun hc21 => ?_) (fun hc21 => ?_)
      · skip
        refine Go.lloadN (q := 32) hx (hb hby d14_31) rfl rfl ?_
        refine Go.lconst (q := 33) (z := (0 : Int64)) hx (hb hby d14_32) rfl rfl ?_
        refine Go.lcmp (q := 34) hx (hb hby d14_33) rfl ?_
        refine Go.if_ge (q := 37) (t := 53) hx (hb hby d14_34) (by decide) rfl rfl (fun hc34 => ?_) (fun hc34 => ?_)
        · skip
          refine Go.newO (q := 56) hx hZ hown (hw _ (List.mem_of_getElem? (i := 102) rfl)) (hw _ (List.mem_of_getElem? (i := 103) rfl)) (hw _ (List.mem_of_getElem? (i := 99) rfl)) (hb hby d14_53) rfl (ce' := 1) (sl' := 6) rfl rfl (by decide) (by decide) (fun h219 a220 g221 E222 A223 D224 => ?_)
          have gz225 : n0 ≤ a220 := by rw [g221]; exact Z0
          have gk226 : h0.size ≤ a220 := by rw [g221]; exact (Keep.refl h0 []).1
          refine Go.dup (q := 57) hx (hb hby d14_56) rfl rfl ?_
          refine Go.lloadN (q := 58) hx (hb hby d14_57) rfl rfl ?_
          refine Go.callI (q := 61) hx hZ (a := a220) (argsL := [(.long x)]) (rest := [(.ref a220)]) hown rfl (hw _ (List.mem_of_getElem? (i := 104) rfl)) (hw _ (List.mem_of_getElem? (i := 105) rfl)) (hw _ (List.mem_of_getElem? (i := 99) rfl)) (hw _ (List.mem_of_getElem? (i := 107) rfl)) (by decide) (rmB l Z a0 hw hel a220 x h219 n0 (Nat.le_trans Z0 E222.1) gz225 A223 (D224 (Or.inr (hw _ (List.mem_of_getElem? (i := 116) rfl))) (ty := .int) (by decide)) (D224 (Or.inr (hw _ (List.mem_of_getElem? (i := 119) rfl))) (ty := (.array .int)) (by decide)) ) (by simp) (by rw [hml]; rfl) pd_10 rfl rfl (hb hby d14_58) rfl (by decide) (Nat.le_of_ble_eq_true rfl) (ce' := 2) (sl' := 8) rfl rfl (by decide) (by decide) (fun v227 h228 hQ229 => ?_)
          obtain ⟨rfl, K230⟩ := hQ229
          show Go _ _ _ _ _ _ _ _ _ _ _ _ _ _ _ _ _ _ _ _ 2 8 61 #[.val (.long x), .second] [(.ref a220)]
          refine Go.retA hx hret rfl (by rfl) hlk (hb hby d14_61) (by decide) (by decide) ?_
          exact ⟨a220, rfl, (Keep.trans ((Keep.refl h0 []).ext E222) K230 (allS (Or.inr gk226) all0)), (A223.keep K230)⟩
        · skip
          refine Go.lloadN (q := 38) hx (hb hby d14_37) rfl rfl ?_
          refine Go.ldc2Long (q := 41) hx hZ hown (hw _ (List.mem_of_getElem? (i := 101) rfl)) (hb hby d14_38) rfl ?_
          refine Go.lcmp (q := 42) hx (hb hby d14_41) rfl ?_
          refine Go.if_lt (q := 45) (t := 53) hx (hb hby d14_42) (by decide) rfl rfl (fun hc42 => ?_) (fun hc42 => ?_)
          · skip
            refine Go.newO (q := 56) hx hZ hown (hw _ (List.mem_of_getElem? (i := 102) rfl)) (hw _ (List.mem_of_getElem? (i := 103) rfl)) (hw _ (List.mem_of_getElem? (i := 99) rfl)) (hb hby d14_53) rfl (ce' := 1) (sl' := 6) rfl rfl (by decide) (by decide) (fun h231 a232 g233 E234 A235 D236 => ?_)
            have gz237 : n0 ≤ a232 := by rw [g233]; exact Z0
            have gk238 : h0.size ≤ a232 := by rw [g233]; exact (Keep.refl h0 []).1
            refine Go.dup (q := 57) hx (hb hby d14_56) rfl rfl ?_
            refine Go.lloadN (q := 58) hx (hb hby d14_57) rfl rfl ?_
            refine Go.callI (q := 61) hx hZ (a := a232) (argsL := [(.long x)]) (rest := [(.ref a232)]) hown rfl (hw _ (List.mem_of_getElem? (i := 104) rfl)) (hw _ (List.mem_of_getElem? (i := 105) rfl)) (hw _ (List.mem_of_getElem? (i := 99) rfl)) (hw _ (List.mem_of_getElem? (i := 107) rfl)) (by decide) (rmB l Z a0 hw hel a232 x h231 n0 (Nat.le_trans Z0 E234.1) gz237 A235 (D236 (Or.inr (hw _ (List.mem_of_getElem? (i := 116) rfl))) (ty := .int) (by decide)) (D236 (Or.inr (hw _ (List.mem_of_getElem? (i := 119) rfl))) (ty := (.array .int)) (by decide)) ) (by simp) (by rw [hml]; rfl) pd_10 rfl rfl (hb hby d14_58) rfl (by decide) (Nat.le_of_ble_eq_true rfl) (ce' := 2) (sl' := 8) rfl rfl (by decide) (by decide) (fun v239 h240 hQ241 => ?_)
            obtain ⟨rfl, K242⟩ := hQ241
            show Go _ _ _ _ _ _ _ _ _ _ _ _ _ _ _ _ _ _ _ _ 2 8 61 #[.val (.long x), .second] [(.ref a232)]
            refine Go.retA hx hret rfl (by rfl) hlk (hb hby d14_61) (by decide) (by decide) ?_
            exact ⟨a232, rfl, (Keep.trans ((Keep.refl h0 []).ext E234) K242 (allS (Or.inr gk238) all0)), (A235.keep K242)⟩
          · skip
            refine Go.getS (q := 48) hx hZ hown (host := "") (Or.inl (hw _ (List.mem_of_getElem? (i := 153) rfl))) Via.refl (Sta.ext X0.2 B2) (hb hby d14_45) rfl ?_
            refine Go.lloadN (q := 49) hx (hb hby d14_48) rfl rfl ?_
            refine Go.lneg (q := 50) hx (hb hby d14_49) rfl ?_
            refine Go.l2i (q := 51) hx (hb hby d14_50) rfl ?_
            obtain ⟨i1, i2, i3⟩ := neg_ix ((cmpL_lt _ _).mp hc34) (fun q => hc42 ((cmpL_lt _ _).mpr q))
            obtain ⟨y, y1, y2⟩ := S2.2.2 _ i1 i2
            refine Go.aaloadC (q := 52) hx hZ (Arr.ext X0.2 S2.1) rfl (by rw [S2.2.1]; exact i3) y1 (hb hby d14_51) rfl ?_
            refine Go.retA hx hret rfl (by rfl) hlk (hb hby d14_52) (by decide) (by decide) ?_
            exact ⟨y, rfl, Keep.refl _ _, Exa.ext X0.2 y2⟩
      · skip
        refine Go.getS (q := 27) hx hZ hown (host := "") (Or.inl (hw _ (List.mem_of_getElem? (i := 152) rfl))) Via.refl (Sta.ext X0.2 B1) (hb hby d14_24) rfl ?_
        refine Go.lloadN (q := 28) hx (hb hby d14_27) rfl rfl ?_
        refine Go.l2i (q := 29) hx (hb hby d14_28) rfl ?_
        obtain ⟨i1, i2, i3⟩ := pos_ix ((cmpL_gt _ _).mp hc13) (fun q => hc21 ((cmpL_gt _ _).mpr q))
        obtain ⟨y, y1, y2⟩ := S1.2.2 _ i1 i2
        refine Go.aaloadC (q := 30) hx hZ (Arr.ext X0.2 S1.1) rfl (by rw [S1.2.1]; exact i3) y1 (hb hby d14_29) rfl ?_
        refine Go.retA hx hret rfl (by rfl) hlk (hb hby d14_30) (by decide) (by decide) ?_
        exact ⟨y, rfl, Keep.refl _ _, Exa.ext X0.2 y2⟩
  · skip
    refine Go.getS (q := 9) hx hZ hown (host := "") (Or.inl (hw _ (List.mem_of_getElem? (i := 154) rfl))) Via.refl (Sta.ext X0.2 B0) (hb hby d14_6) rfl ?_
    refine Go.retA hx hret rfl (by rfl) hlk (hb hby d14_9) (by decide) (by decide) ?_
    exact ⟨zb, rfl, Keep.refl _ _, Exa.ext X0.2 EB⟩
theorem d9_0 : decode prog_27_method_3_code 0 = .ok (.aload_n 0, 1) := by decide +kernel
theorem d9_1 : decode prog_27_method_3_code 1 = .ok (.instanceof 86, 3) := by decide +kernel
theorem d9_4 : decode prog_27_method_3_code 4 = .ok (.ifCond .ne 10, 3) := by decide +kernel
theorem d9_7 : decode prog_27_method_3_code 7 = .ok (.aload_n 0, 1) := by decide +kernel
theorem d9_8 : decode prog_27_method_3_code 8 = .ok (.instanceof 88, 3) := by decide +kernel
theorem d9_11 : decode prog_27_method_3_code 11 = .ok (.ifCond .eq 7, 3) := by decide +kernel
theorem d9_14 : decode prog_27_method_3_code 14 = .ok (.iconst 1, 1) := by decide +kernel
theorem d9_15 : decode prog_27_method_3_code 15 = .ok (.goto 4, 3) := by decide +kernel
theorem d9_18 : decode prog_27_method_3_code 18 = .ok (.iconst 0, 1) := by decide +kernel
theorem d9_19 : decode prog_27_method_3_code 19 = .ok (.ireturn, 1) := by decide +kernel
theorem pl_18 : plainFor (⟨"com/example/resolvent/resolvent/model/Relation", "isConstant", "(Lcom/example/resolvent/resolvent/term/Term;)Z"⟩ : MethodName) = true := plainFor_of_name (by first | (simp [plainName, overriddenIn]; done) | decide +kernel)
set_option maxRecDepth 65536 in
set_option maxHeartbeats 40000000 in
theorem rmKA (l : Launch) (Z : State) (a0 : Array Value) (hw : ∀ d ∈ tables_1, d.before a0 Z = true) (hel : EW Z a0 []) (t : Addr) (h0 : Heap) (n0 : Nat) (Z0 : n0 ≤ h0.size) (E : Exa Z h0 t "com/example/resolvent/resolvent/term/Atom") :
    Met l Z [] [] (⟨"com/example/resolvent/resolvent/model/Relation", "isConstant", "(Lcom/example/resolvent/resolvent/term/Term;)Z"⟩ : MethodName) prog_27_method_3_code 1 (Option.some FieldType.boolean) [] ({ frames := 0, cells := 0, slots := 0, locals := 0 } : Room) #[(.ref t)] h0 n0 (fun v h => v = some (.int (1 : Int32)) ∧ h0 = h) := by
  refine Met.of (Ls0 := #[.val (.ref t)]) pl_18 (by first | (simp [argsToLocals, Value.category]; done) | rfl) hel ?_
  intro p e s m below meth c hx hby hml hret hlk hown hnm hZ
  refine Go.aloadN (q := 1) hx (hb hby d9_0) rfl (by rfl) rfl ?_
  refine Go.instY (q := 4) hx hZ hown (hw _ (List.mem_of_getElem? (i := 56) rfl)) (Ins.self E) (hb hby d9_1) rfl ?_
  refine Go.if_ne (q := 7) (t := 14) hx (hb hby d9_4) (by decide) rfl rfl (fun hc4 => ?_) (fun hc4 => absurd hc4 (by decide))
  refine Go.iconst (q := 15) (z := (1 : Int32)) hx (hb hby d9_14) rfl rfl ?_
  refine Go.goto (q := 19) hx (hb hby d9_15) (by decide) rfl ?_
  refine Go.retN hx (t := .boolean) hret (by simp) hlk (hb hby d9_19) (by decide) (by decide) ?_
  exact ⟨rfl, rfl⟩
set_option maxRecDepth 65536 in
set_option maxHeartbeats 40000000 in
theorem rmKI (l : Launch) (Z : State) (a0 : Array Value) (hw : ∀ d ∈ tables_1, d.before a0 Z = true) (hel : EW Z a0 []) (t : Addr) (h0 : Heap) (n0 : Nat) (Z0 : n0 ≤ h0.size) (E : Exa Z h0 t "com/example/resolvent/resolvent/term/Int") :
    Met l Z [] [] (⟨"com/example/resolvent/resolvent/model/Relation", "isConstant", "(Lcom/example/resolvent/resolvent/term/Term;)Z"⟩ : MethodName) prog_27_method_3_code 1 (Option.some FieldType.boolean) [] ({ frames := 0, cells := 0, slots := 0, locals := 0 } : Room) #[(.ref t)] h0 n0 (fun v h => v = some (.int (1 : Int32)) ∧ h0 = h) := by
  refine Met.of (Ls0 := #[.val (.ref t)]) pl_18 (by first | (simp [argsToLocals, Value.category]; done) | rfl) hel ?_
  intro p e s m below meth c hx hby hml hret hlk hown hnm hZ
  refine Go.aloadN (q := 1) hx (hb hby d9_0) rfl (by rfl) rfl ?_
  refine Go.instNo (q := 4) hx hZ hown (hw _ (List.mem_of_getElem? (i := 56) rfl)) E (ns_no (hw _ (List.mem_of_getElem? (i := 129) rfl)) (hw _ (List.mem_of_getElem? (i := 31) rfl)) (NS.step (hw _ (List.mem_of_getElem? (i := 129) rfl)) (NS.step (hw _ (List.mem_of_getElem? (i := 91) rfl)) (ns_root (hw _ (List.mem_of_getElem? (i := 92) rfl)) (hw _ (List.mem_of_getElem? (i := 31) rfl)) (by decide)) (by decide)) (by decide)) (by decide)) (hb hby d9_1) rfl ?_
  refine Go.if_ne (q := 7) (t := 14) hx (hb hby d9_4) (by decide) rfl rfl (fun hc4 => absurd hc4 (by decide)) (fun hc4 => ?_)
  refine Go.aloadN (q := 8) hx (hb hby d9_7) rfl (by rfl) rfl ?_
  refine Go.instY (q := 11) hx hZ hown (hw _ (List.mem_of_getElem? (i := 93) rfl)) (Ins.self E) (hb hby d9_8) rfl ?_
  refine Go.if_eq (q := 14) (t := 18) hx (hb hby d9_11) (by decide) rfl rfl (fun hc11 => absurd hc11 (by decide)) (fun hc11 => ?_)
  refine Go.iconst (q := 15) (z := (1 : Int32)) hx (hb hby d9_14) rfl rfl ?_
  refine Go.goto (q := 19) hx (hb hby d9_15) (by decide) rfl ?_
  refine Go.retN hx (t := .boolean) hret (by simp) hlk (hb hby d9_19) (by decide) (by decide) ?_
  exact ⟨rfl, rfl⟩
set_option maxRecDepth 65536 in
set_option maxHeartbeats 40000000 in
theorem rmKV (l : Launch) (Z : State) (a0 : Array Value) (hw : ∀ d ∈ tables_1, d.before a0 Z = true) (hel : EW Z a0 []) (t : Addr) (h0 : Heap) (n0 : Nat) (Z0 : n0 ≤ h0.size) (E : Exa Z h0 t "com/example/resolvent/resolvent/term/Variable") :
    Met l Z [] [] (⟨"com/example/resolvent/resolvent/model/Relation", "isConstant", "(Lcom/example/resolvent/resolvent/term/Term;)Z"⟩ : MethodName) prog_27_method_3_code 1 (Option.some FieldType.boolean) [] ({ frames := 0, cells := 0, slots := 0, locals := 0 } : Room) #[(.ref t)] h0 n0 (fun v h => v = some (.int (0 : Int32)) ∧ h0 = h) := by
  refine Met.of (Ls0 := #[.val (.ref t)]) pl_18 (by first | (simp [argsToLocals, Value.category]; done) | rfl) hel ?_
  intro p e s m below meth c hx hby hml hret hlk hown hnm hZ
  refine Go.aloadN (q := 1) hx (hb hby d9_0) rfl (by rfl) rfl ?_
  refine Go.instNo (q := 4) hx hZ hown (hw _ (List.mem_of_getElem? (i := 56) rfl)) E (ns_no (hw _ (List.mem_of_getElem? (i := 151) rfl)) (hw _ (List.mem_of_getElem? (i := 31) rfl)) (NS.step (hw _ (List.mem_of_getElem? (i := 151) rfl)) (NS.step (hw _ (List.mem_of_getElem? (i := 91) rfl)) (ns_root (hw _ (List.mem_of_getElem? (i := 92) rfl)) (hw _ (List.mem_of_getElem? (i := 31) rfl)) (by decide)) (by decide)) (by decide)) (by decide)) (hb hby d9_1) rfl ?_
  refine Go.if_ne (q := 7) (t := 14) hx (hb hby d9_4) (by decide) rfl rfl (fun hc4 => absurd hc4 (by decide)) (fun hc4 => ?_)
  refine Go.aloadN (q := 8) hx (hb hby d9_7) rfl (by rfl) rfl ?_
  refine Go.instNo (q := 11) hx hZ hown (hw _ (List.mem_of_getElem? (i := 93) rfl)) E (ns_no (hw _ (List.mem_of_getElem? (i := 151) rfl)) (hw _ (List.mem_of_getElem? (i := 95) rfl)) (NS.step (hw _ (List.mem_of_getElem? (i := 151) rfl)) (NS.step (hw _ (List.mem_of_getElem? (i := 91) rfl)) (ns_root (hw _ (List.mem_of_getElem? (i := 92) rfl)) (hw _ (List.mem_of_getElem? (i := 95) rfl)) (by decide)) (by decide)) (by decide)) (by decide)) (hb hby d9_8) rfl ?_
  refine Go.if_eq (q := 14) (t := 18) hx (hb hby d9_11) (by decide) rfl rfl (fun hc11 => ?_) (fun hc11 => absurd hc11 (by decide))
  refine Go.iconst (q := 19) (z := (0 : Int32)) hx (hb hby d9_18) rfl rfl ?_
  refine Go.retN hx (t := .boolean) hret (by simp) hlk (hb hby d9_19) (by decide) (by decide) ?_
  exact ⟨rfl, rfl⟩
set_option maxRecDepth 65536 in
set_option maxHeartbeats 40000000 in
theorem rmKC (l : Launch) (Z : State) (a0 : Array Value) (hw : ∀ d ∈ tables_1, d.before a0 Z = true) (hel : EW Z a0 []) (t : Addr) (h0 : Heap) (n0 : Nat) (Z0 : n0 ≤ h0.size) (E : Exa Z h0 t "com/example/resolvent/resolvent/term/Compound") :
    Met l Z [] [] (⟨"com/example/resolvent/resolvent/model/Relation", "isConstant", "(Lcom/example/resolvent/resolvent/term/Term;)Z"⟩ : MethodName) prog_27_method_3_code 1 (Option.some FieldType.boolean) [] ({ frames := 0, cells := 0, slots := 0, locals := 0 } : Room) #[(.ref t)] h0 n0 (fun v h => v = some (.int (0 : Int32)) ∧ h0 = h) := by
  refine Met.of (Ls0 := #[.val (.ref t)]) pl_18 (by first | (simp [argsToLocals, Value.category]; done) | rfl) hel ?_
  intro p e s m below meth c hx hby hml hret hlk hown hnm hZ
  refine Go.aloadN (q := 1) hx (hb hby d9_0) rfl (by rfl) rfl ?_
  refine Go.instNo (q := 4) hx hZ hown (hw _ (List.mem_of_getElem? (i := 56) rfl)) E (ns_no (hw _ (List.mem_of_getElem? (i := 90) rfl)) (hw _ (List.mem_of_getElem? (i := 31) rfl)) (NS.step (hw _ (List.mem_of_getElem? (i := 90) rfl)) (NS.step (hw _ (List.mem_of_getElem? (i := 91) rfl)) (ns_root (hw _ (List.mem_of_getElem? (i := 92) rfl)) (hw _ (List.mem_of_getElem? (i := 31) rfl)) (by decide)) (by decide)) (by decide)) (by decide)) (hb hby d9_1) rfl ?_
  refine Go.if_ne (q := 7) (t := 14) hx (hb hby d9_4) (by decide) rfl rfl (fun hc4 => absurd hc4 (by decide)) (fun hc4 => ?_)
  refine Go.aloadN (q := 8) hx (hb hby d9_7) rfl (by rfl) rfl ?_
  refine Go.instNo (q := 11) hx hZ hown (hw _ (List.mem_of_getElem? (i := 93) rfl)) E (ns_no (hw _ (List.mem_of_getElem? (i := 90) rfl)) (hw _ (List.mem_of_getElem? (i := 95) rfl)) (NS.step (hw _ (List.mem_of_getElem? (i := 90) rfl)) (NS.step (hw _ (List.mem_of_getElem? (i := 91) rfl)) (ns_root (hw _ (List.mem_of_getElem? (i := 92) rfl)) (hw _ (List.mem_of_getElem? (i := 95) rfl)) (by decide)) (by decide)) (by decide)) (by decide)) (hb hby d9_8) rfl ?_
  refine Go.if_eq (q := 14) (t := 18) hx (hb hby d9_11) (by decide) rfl rfl (fun hc11 => ?_) (fun hc11 => absurd hc11 (by decide))
  refine Go.iconst (q := 19) (z := (0 : Int32)) hx (hb hby d9_18) rfl rfl ?_
  refine Go.retN hx (t := .boolean) hret (by simp) hlk (hb hby d9_19) (by decide) (by decide) ?_
  exact ⟨rfl, rfl⟩
theorem pl_19 : plainFor (⟨"com/example/resolvent/resolvent/model/RelationIsConstantPinLaw", "law", "(IJII)Z"⟩ : MethodName) = true := plainFor_of_name (by first | (simp [plainName, overriddenIn]; done) | decide +kernel)
theorem pd_11 : parseMethodDescriptor "([C)V" = some ⟨[(.array .char)], none⟩ := by decide +kernel
theorem pd_12 : parseMethodDescriptor "(Ljava/lang/String;)V" = some ⟨[(.object "java/lang/String")], none⟩ := by decide +kernel
theorem pd_13 : parseMethodDescriptor "(J)Ljava/math/BigInteger;" = some ⟨[.long], some (.object "java/math/BigInteger")⟩ := by decide +kernel
theorem pd_14 : parseMethodDescriptor "(Ljava/math/BigInteger;)V" = some ⟨[(.object "java/math/BigInteger")], none⟩ := by decide +kernel
theorem pd_15 : parseMethodDescriptor "(Ljava/lang/String;[Lcom/example/resolvent/resolvent/term/Term;)V" = some ⟨[(.object "java/lang/String"), (.array (.object "com/example/resolvent/resolvent/term/Term"))], none⟩ := by decide +kernel
theorem pd_16 : parseMethodDescriptor "(Lcom/example/resolvent/resolvent/term/Term;)Z" = some ⟨[(.object "com/example/resolvent/resolvent/term/Term")], some .boolean⟩ := by decide +kernel
set_option maxRecDepth 65536 in
set_option maxHeartbeats 40000000 in
theorem rm0 (l : Launch) (Z : State) (a0 : Array Value) (hw : ∀ d ∈ tables_1, d.before a0 Z = true) (hel : EW Z a0 []) (p1 : Int32) (p2 : Int64) (p3 p4 cst : Int32) (zb pb gb : Addr) (pc1 gc1 : Cell) (h0 : Heap) (n0 : Nat) (Z0 : n0 ≤ h0.size) (X0 : Old Z n0 h0) (SC : Sta Z Z.heap "java/lang/String" "COMPACT_STRINGS" "Z" (.int cst)) (hcs : ¬ cst = (0 : Int32)) (B0 : Sta Z Z.heap "java/math/BigInteger" "ZERO" "Ljava/math/BigInteger;" (.ref zb)) (EB : Exa Z Z.heap zb "java/math/BigInteger") (B1 : Sta Z Z.heap "java/math/BigInteger" "posConst" "[Ljava/math/BigInteger;" (.ref pb)) (B2 : Sta Z Z.heap "java/math/BigInteger" "negConst" "[Ljava/math/BigInteger;" (.ref gb)) (S1 : Small Z pb pc1) (S2 : Small Z gb gc1) :
    Met l Z [] [] x code maxLocals ret tables_1 room_1 #[(.int p1), (.long p2), (.int p3), (.int p4)] h0 n0 (fun v h => v = some (.int 1)) := by
  refine Met.of (Ls0 := #[.val (.int p1), .val (.long p2), .second, .val (.int p3), .val (.int p4), .unset, .unset, .unset, .unset, .unset, .unset]) pl_19 (by first | (simp [argsToLocals, Value.category, maxLocals]; done) | rfl) hel ?_
  intro p e s m below meth c hx hby hml hret hlk hown hnm hZ
  refine Go.iconst (q := 1) (z := (2 : Int32)) hx (hb hby at_0) rfl rfl ?_
  refine Go.newP (q := 3) (cap := 2) hx hZ (hw _ (List.mem_of_getElem? (i := 0) rfl)) (by decide) (by decide) (hb hby at_1) rfl (by decide) (ce' := 1) (sl' := 2) rfl rfl (by decide) (by decide) (fun h243 a244 k245 g246 E247 A248 => ?_)
  have gz249 : n0 ≤ a244 := by rw [g246]; exact Z0
  have V250 : Arv Z h243 a244 k245 .char (2 : Int32) [(.int (0 : Int32)), (.int (0 : Int32))] (.int (0 : Int32)) := A248.pad (pad_rep [] (.int (0 : Int32)) 2)
  refine Go.dup (q := 4) hx (hb hby at_3) rfl rfl ?_
  refine Go.iconst (q := 5) (z := (0 : Int32)) hx (hb hby at_4) rfl rfl ?_
  refine Go.iloadN (q := 6) hx (hb hby at_5) rfl rfl ?_
  refine Go.sipush (q := 9) (z := (255 : Int32)) hx (hb hby at_6) rfl rfl ?_
  refine Go.iand (q := 10) hx (hb hby at_9) rfl ?_
  refine Go.i2c (q := 11) hx (hb hby at_10) rfl ?_
  refine Go.castore (q := 12) hx hZ V250 ⟨by decide, by decide⟩ 0 rfl (Nat.le_of_ble_eq_true rfl) gz249 (by simp) (hb hby at_11) rfl (fun h251 W252 V253 => ?_)
  refine Go.dup (q := 13) hx (hb hby at_12) rfl rfl ?_
  refine Go.iconst (q := 14) (z := (1 : Int32)) hx (hb hby at_13) rfl rfl ?_
  refine Go.iload (q := 16) hx (hb hby at_14) rfl rfl ?_
  refine Go.sipush (q := 19) (z := (255 : Int32)) hx (hb hby at_16) rfl rfl ?_
  refine Go.iand (q := 20) hx (hb hby at_19) rfl ?_
  refine Go.i2c (q := 21) hx (hb hby at_20) rfl ?_
  refine Go.castore (q := 22) hx hZ V253 ⟨by decide, by decide⟩ 1 rfl (Nat.le_of_ble_eq_true rfl) gz249 (by simp) (hb hby at_21) rfl (fun h254 W255 V256 => ?_)
  refine Go.astore (q := 24) (l' := #[.val (.int p1), .val (.long p2), .second, .val (.int p3), .val (.int p4), .val (.ref a244), .unset, .unset, .unset, .unset, .unset]) hx (hb hby at_22) (by rfl) rfl rfl ?_
  refine Go.newO (q := 27) hx hZ hown (hw _ (List.mem_of_getElem? (i := 1) rfl)) (hw _ (List.mem_of_getElem? (i := 2) rfl)) (hw _ (List.mem_of_getElem? (i := 3) rfl)) (hb hby at_24) rfl (ce' := 2) (sl' := 6) rfl rfl (by decide) (by decide) (fun h257 a258 g259 E260 A261 D262 => ?_)
  have ne263 : a244 ≠ a258 := by rw [g259]; exact Nat.ne_of_lt (V256).lt
  have gz264 : n0 ≤ a258 := by rw [g259]; exact (Nat.le_trans (Nat.le_trans (Nat.le_trans Z0 E247.1) (Keep.of_wr W252).1) (Keep.of_wr W255).1)
  refine Go.dup (q := 28) hx (hb hby at_27) rfl rfl ?_
  refine Go.aload (q := 30) hx (hb hby at_28) rfl (by rfl) rfl ?_
  refine Go.callI (q := 33) hx hZ (a := a258) (argsL := [(.ref a244)]) (rest := [(.ref a258)]) hown rfl (hw _ (List.mem_of_getElem? (i := 4) rfl)) (hw _ (List.mem_of_getElem? (i := 5) rfl)) (hw _ (List.mem_of_getElem? (i := 3) rfl)) (hw _ (List.mem_of_getElem? (i := 6) rfl)) (by decide) (rmI2 l Z a0 hw hel a258 a244 k245 cst (nar .char ((p3 &&& (255 : Int32)).toUInt32.toUInt16.toUInt32.toInt32)) (nar .char ((p4 &&& (255 : Int32)).toUInt32.toUInt16.toUInt32.toInt32)) h257 n0 (Nat.le_trans (Nat.le_trans (Nat.le_trans (Nat.le_trans Z0 E247.1) (Keep.of_wr W252).1) (Keep.of_wr W255).1) E260.1) gz264 ne263 A261 (D262 (Or.inr (hw _ (List.mem_of_getElem? (i := 29) rfl))) (ty := (.array .byte)) (by decide)) (D262 (Or.inr (hw _ (List.mem_of_getElem? (i := 27) rfl))) (ty := .byte) (by decide)) (V256.ext E260) (char_ok _) (char_ok _) ((((X0.ext E247).wr W252 gz249).wr W255 gz249).ext E260) SC hcs) (by simp) (by rw [hml]; rfl) pd_11 rfl rfl (hb hby at_30) rfl (by decide) (Nat.le_of_ble_eq_true rfl) (ce' := 3) (sl' := 8) rfl rfl (by decide) (by decide) (fun v265 h266 hQ267 => ?_)
  obtain ⟨rfl, K268, b269, k270, g271, F272, F273, V274⟩ := hQ267
  show Go _ _ _ _ _ _ _ _ _ _ _ _ _ _ _ _ _ _ _ _ 3 8 33 #[.val (.int p1), .val (.long p2), .second, .val (.int p3), .val (.int p4), .val (.ref a244), .unset, .unset, .unset, .unset, .unset] [(.ref a258)]
  refine Go.astore (q := 35) (l' := #[.val (.int p1), .val (.long p2), .second, .val (.int p3), .val (.int p4), .val (.ref a244), .val (.ref a258), .unset, .unset, .unset, .unset]) hx (hb hby at_33) (by rfl) rfl rfl ?_
  refine Go.iloadN (q := 36) hx (hb hby at_35) rfl rfl ?_
  refine Go.iconst (q := 37) (z := (3 : Int32)) hx (hb hby at_36) rfl rfl ?_
  refine Go.iand (q := 38) hx (hb hby at_37) rfl ?_
  have hk275 : p1 &&& (3 : Int32) = (0 : Int32) ∨ p1 &&& (3 : Int32) = (1 : Int32) ∨ p1 &&& (3 : Int32) = (2 : Int32) ∨ p1 &&& (3 : Int32) = (3 : Int32) := and3 _
  rcases hk275 with hk275 | hk275 | hk275 | hk275
  · rw [hk275]
    refine Go.istore (q := 40) (l' := #[.val (.int p1), .val (.long p2), .second, .val (.int p3), .val (.int p4), .val (.ref a244), .val (.ref a258), .val (.int (0 : Int32)), .unset, .unset, .unset]) hx (hb hby at_38) rfl rfl ?_
    refine Go.iload (q := 42) hx (hb hby at_40) rfl rfl ?_
    refine Go.if_ne (q := 45) (t := 62) hx (hb hby at_42) (by decide) rfl rfl (fun hc42 => absurd hc42 (by decide)) (fun hc42 => ?_)
    refine Go.newO (q := 48) hx hZ hown (hw _ (List.mem_of_getElem? (i := 30) rfl)) (hw _ (List.mem_of_getElem? (i := 31) rfl)) (hw _ (List.mem_of_getElem? (i := 32) rfl)) (hb hby at_45) rfl (ce' := 4) (sl' := 9) rfl rfl (by decide) (by decide) (fun h276 a277 g278 E279 A280 D281 => ?_)
    have ne282 : a244 ≠ a277 := by rw [g278]; exact Nat.ne_of_lt (((V256.ext E260).keep K268 (ninS ne263 nin0))).lt
    have ne283 : a258 ≠ a277 := by rw [g278]; exact Nat.ne_of_lt ((A261.keep K268)).lt
    have gz284 : n0 ≤ a277 := by rw [g278]; exact (Nat.le_trans (Nat.le_trans (Nat.le_trans (Nat.le_trans (Nat.le_trans Z0 E247.1) (Keep.of_wr W252).1) (Keep.of_wr W255).1) E260.1) K268.1)
    refine Go.dup (q := 49) hx (hb hby at_48) rfl rfl ?_
    refine Go.aload (q := 51) hx (hb hby at_49) rfl (by rfl) rfl ?_
    refine Go.callI (q := 54) hx hZ (a := a277) (argsL := [(.ref a258)]) (rest := [(.ref a277)]) hown rfl (hw _ (List.mem_of_getElem? (i := 33) rfl)) (hw _ (List.mem_of_getElem? (i := 34) rfl)) (hw _ (List.mem_of_getElem? (i := 32) rfl)) (hw _ (List.mem_of_getElem? (i := 35) rfl)) (by decide) (rmA l Z a0 hw hel a277 a258 h276 n0 (Nat.le_trans (Nat.le_trans (Nat.le_trans (Nat.le_trans (Nat.le_trans (Nat.le_trans Z0 E247.1) (Keep.of_wr W252).1) (Keep.of_wr W255).1) E260.1) K268.1) E279.1) gz284 A280 (D281 (Or.inr (hw _ (List.mem_of_getElem? (i := 51) rfl))) (ty := (.object "java/lang/String")) (by decide)) (Exa.ext E279 (A261.keep K268))) (by simp) (by rw [hml]; rfl) pd_12 rfl rfl (hb hby at_51) rfl (by decide) (Nat.le_of_ble_eq_true rfl) (ce' := 6) (sl' := 29) rfl rfl (by decide) (by decide) (fun v285 h286 hQ287 => ?_)
    obtain ⟨rfl, K288⟩ := hQ287
    show Go _ _ _ _ _ _ _ _ _ _ _ _ _ _ _ _ _ _ _ _ 6 29 54 #[.val (.int p1), .val (.long p2), .second, .val (.int p3), .val (.int p4), .val (.ref a244), .val (.ref a258), .val (.int (0 : Int32)), .unset, .unset, .unset] [(.ref a277)]
    refine Go.astore (q := 56) (l' := #[.val (.int p1), .val (.long p2), .second, .val (.int p3), .val (.int p4), .val (.ref a244), .val (.ref a258), .val (.int (0 : Int32)), .val (.ref a277), .unset, .unset]) hx (hb hby at_54) (by rfl) rfl rfl ?_
    refine Go.iconst (q := 57) (z := (1 : Int32)) hx (hb hby at_56) rfl rfl ?_
    refine Go.istore (q := 59) (l' := #[.val (.int p1), .val (.long p2), .second, .val (.int p3), .val (.int p4), .val (.ref a244), .val (.ref a258), .val (.int (0 : Int32)), .val (.ref a277), .val (.int (1 : Int32)), .unset]) hx (hb hby at_57) rfl rfl ?_
    refine Go.goto (q := 144) hx (hb hby at_59) (by decide) rfl ?_
    refine Go.aload (q := 146) hx (hb hby at_144) rfl (by rfl) rfl ?_
    refine Go.callS (q := 149) hx hZ (argsL := [(.ref a277)]) (rest := []) hown (hw _ (List.mem_of_getElem? (i := 52) rfl)) (hw _ (List.mem_of_getElem? (i := 53) rfl)) (hw _ (List.mem_of_getElem? (i := 54) rfl)) (hw _ (List.mem_of_getElem? (i := 55) rfl)) (by decide) (rmKA l Z a0 hw hel a277 h286 n0 (Nat.le_trans (Nat.le_trans (Nat.le_trans (Nat.le_trans (Nat.le_trans (Nat.le_trans (Nat.le_trans Z0 E247.1) (Keep.of_wr W252).1) (Keep.of_wr W255).1) E260.1) K268.1) E279.1) K288.1) (A280.keep K288)) (fun _ hx => nomatch hx) (by rw [hml]; rfl) pd_16 rfl rfl (hb hby at_146) rfl (by decide) (Nat.le_of_ble_eq_true rfl) (ce' := 6) (sl' := 29) rfl rfl (by decide) (by decide) (fun v289 h290 hQ291 => ?_)
    obtain ⟨rfl, rfl⟩ := hQ291
    show Go _ _ _ _ _ _ _ _ _ _ _ _ _ _ _ _ _ _ _ _ 6 29 149 #[.val (.int p1), .val (.long p2), .second, .val (.int p3), .val (.int p4), .val (.ref a244), .val (.ref a258), .val (.int (0 : Int32)), .val (.ref a277), .val (.int (1 : Int32)), .unset] [(.int (1 : Int32))]
    refine Go.iload (q := 151) hx (hb hby at_149) rfl rfl ?_
    refine Go.icmp_ne (q := 154) (t := 158) hx (hb hby at_151) (by decide) rfl rfl (fun hc151 => absurd hc151 (by decide)) (fun hc151 => ?_)
    refine Go.iconst (q := 155) (z := (1 : Int32)) hx (hb hby at_154) rfl rfl ?_
    refine Go.goto (q := 159) hx (hb hby at_155) (by decide) rfl ?_
    refine Go.retN hx (t := .boolean) hret (by simp) hlk (hb hby at_159) (by decide) (by decide) ?_
    rfl
  · rw [hk275]
    refine Go.istore (q := 40) (l' := #[.val (.int p1), .val (.long p2), .second, .val (.int p3), .val (.int p4), .val (.ref a244), .val (.ref a258), .val (.int (1 : Int32)), .unset, .unset, .unset]) hx (hb hby at_38) rfl rfl ?_
    refine Go.iload (q := 42) hx (hb hby at_40) rfl rfl ?_
    refine Go.if_ne (q := 45) (t := 62) hx (hb hby at_42) (by decide) rfl rfl (fun hc42 => ?_) (fun hc42 => absurd hc42 (by decide))
    refine Go.iload (q := 64) hx (hb hby at_62) rfl rfl ?_
    refine Go.iconst (q := 65) (z := (1 : Int32)) hx (hb hby at_64) rfl rfl ?_
    refine Go.icmp_ne (q := 68) (t := 87) hx (hb hby at_65) (by decide) rfl rfl (fun hc65 => absurd hc65 (by decide)) (fun hc65 => ?_)
    refine Go.newO (q := 71) hx hZ hown (hw _ (List.mem_of_getElem? (i := 94) rfl)) (hw _ (List.mem_of_getElem? (i := 95) rfl)) (hw _ (List.mem_of_getElem? (i := 96) rfl)) (hb hby at_68) rfl (ce' := 4) (sl' := 9) rfl rfl (by decide) (by decide) (fun h292 a293 g294 E295 A296 D297 => ?_)
    have ne298 : a244 ≠ a293 := by rw [g294]; exact Nat.ne_of_lt (((V256.ext E260).keep K268 (ninS ne263 nin0))).lt
    have ne299 : a258 ≠ a293 := by rw [g294]; exact Nat.ne_of_lt ((A261.keep K268)).lt
    have gz300 : n0 ≤ a293 := by rw [g294]; exact (Nat.le_trans (Nat.le_trans (Nat.le_trans (Nat.le_trans (Nat.le_trans Z0 E247.1) (Keep.of_wr W252).1) (Keep.of_wr W255).1) E260.1) K268.1)
    refine Go.dup (q := 72) hx (hb hby at_71) rfl rfl ?_
    refine Go.lloadN (q := 73) hx (hb hby at_72) rfl rfl ?_
    refine Go.callS (q := 76) hx hZ (argsL := [(.long p2)]) (rest := [(.ref a293), (.ref a293)]) hown (hw _ (List.mem_of_getElem? (i := 97) rfl)) (hw _ (List.mem_of_getElem? (i := 98) rfl)) (hw _ (List.mem_of_getElem? (i := 99) rfl)) (hw _ (List.mem_of_getElem? (i := 100) rfl)) (by decide) (rmVal l Z a0 hw hel p2 zb pb gb pc1 gc1 h292 n0 (Nat.le_trans (Nat.le_trans (Nat.le_trans (Nat.le_trans (Nat.le_trans (Nat.le_trans Z0 E247.1) (Keep.of_wr W252).1) (Keep.of_wr W255).1) E260.1) K268.1) E295.1) ((((((X0.ext E247).wr W252 gz249).wr W255 gz249).ext E260).keep K268 (allS gz264 all0)).ext E295) B0 EB B1 B2 S1 S2) (fun _ hx => nomatch hx) (by rw [hml]; rfl) pd_13 rfl rfl (hb hby at_73) rfl (by decide) (Nat.le_of_ble_eq_true rfl) (ce' := 6) (sl' := 17) rfl rfl (by decide) (by decide) (fun v301 h302 hQ303 => ?_)
    obtain ⟨y306, rfl, K304, E305⟩ := hQ303
    show Go _ _ _ _ _ _ _ _ _ _ _ _ _ _ _ _ _ _ _ _ 6 17 76 #[.val (.int p1), .val (.long p2), .second, .val (.int p3), .val (.int p4), .val (.ref a244), .val (.ref a258), .val (.int (1 : Int32)), .unset, .unset, .unset] [(.ref y306), (.ref a293), (.ref a293)]
    refine Go.callI (q := 79) hx hZ (a := a293) (argsL := [(.ref y306)]) (rest := [(.ref a293)]) hown rfl (hw _ (List.mem_of_getElem? (i := 120) rfl)) (hw _ (List.mem_of_getElem? (i := 121) rfl)) (hw _ (List.mem_of_getElem? (i := 96) rfl)) (hw _ (List.mem_of_getElem? (i := 122) rfl)) (by decide) (rmInt l Z a0 hw hel a293 y306 h302 n0 (Nat.le_trans (Nat.le_trans (Nat.le_trans (Nat.le_trans (Nat.le_trans (Nat.le_trans (Nat.le_trans Z0 E247.1) (Keep.of_wr W252).1) (Keep.of_wr W255).1) E260.1) K268.1) E295.1) K304.1) gz300 (A296.keep K304) ((D297 (Or.inl (hw _ (List.mem_of_getElem? (i := 128) rfl))) (ty := (.object "java/math/BigInteger")) (by decide)).keep K304 nin0) E305) (by simp) (by rw [hml]; rfl) pd_14 rfl rfl (hb hby at_76) rfl (by decide) (Nat.le_of_ble_eq_true rfl) (ce' := 8) (sl' := 41) rfl rfl (by decide) (by decide) (fun v307 h308 hQ309 => ?_)
    obtain ⟨rfl, K310⟩ := hQ309
    show Go _ _ _ _ _ _ _ _ _ _ _ _ _ _ _ _ _ _ _ _ 8 41 79 #[.val (.int p1), .val (.long p2), .second, .val (.int p3), .val (.int p4), .val (.ref a244), .val (.ref a258), .val (.int (1 : Int32)), .unset, .unset, .unset] [(.ref a293)]
    refine Go.astore (q := 81) (l' := #[.val (.int p1), .val (.long p2), .second, .val (.int p3), .val (.int p4), .val (.ref a244), .val (.ref a258), .val (.int (1 : Int32)), .val (.ref a293), .unset, .unset]) hx (hb hby at_79) (by rfl) rfl rfl ?_
    refine Go.iconst (q := 82) (z := (1 : Int32)) hx (hb hby at_81) rfl rfl ?_
    refine Go.istore (q := 84) (l' := #[.val (.int p1), .val (.long p2), .second, .val (.int p3), .val (.int p4), .val (.ref a244), .val (.ref a258), .val (.int (1 : Int32)), .val (.ref a293), .val (.int (1 : Int32)), .unset]) hx (hb hby at_82) rfl rfl ?_
    refine Go.goto (q := 144) hx (hb hby at_84) (by decide) rfl ?_
    refine Go.aload (q := 146) hx (hb hby at_144) rfl (by rfl) rfl ?_
    refine Go.callS (q := 149) hx hZ (argsL := [(.ref a293)]) (rest := []) hown (hw _ (List.mem_of_getElem? (i := 52) rfl)) (hw _ (List.mem_of_getElem? (i := 53) rfl)) (hw _ (List.mem_of_getElem? (i := 54) rfl)) (hw _ (List.mem_of_getElem? (i := 55) rfl)) (by decide) (rmKI l Z a0 hw hel a293 h308 n0 (Nat.le_trans (Nat.le_trans (Nat.le_trans (Nat.le_trans (Nat.le_trans (Nat.le_trans (Nat.le_trans (Nat.le_trans Z0 E247.1) (Keep.of_wr W252).1) (Keep.of_wr W255).1) E260.1) K268.1) E295.1) K304.1) K310.1) ((A296.keep K304).keep K310)) (fun _ hx => nomatch hx) (by rw [hml]; rfl) pd_16 rfl rfl (hb hby at_146) rfl (by decide) (Nat.le_of_ble_eq_true rfl) (ce' := 8) (sl' := 41) rfl rfl (by decide) (by decide) (fun v311 h312 hQ313 => ?_)
    obtain ⟨rfl, rfl⟩ := hQ313
    show Go _ _ _ _ _ _ _ _ _ _ _ _ _ _ _ _ _ _ _ _ 8 41 149 #[.val (.int p1), .val (.long p2), .second, .val (.int p3), .val (.int p4), .val (.ref a244), .val (.ref a258), .val (.int (1 : Int32)), .val (.ref a293), .val (.int (1 : Int32)), .unset] [(.int (1 : Int32))]
    refine Go.iload (q := 151) hx (hb hby at_149) rfl rfl ?_
    refine Go.icmp_ne (q := 154) (t := 158) hx (hb hby at_151) (by decide) rfl rfl (fun hc151 => absurd hc151 (by decide)) (fun hc151 => ?_)
    refine Go.iconst (q := 155) (z := (1 : Int32)) hx (hb hby at_154) rfl rfl ?_
    refine Go.goto (q := 159) hx (hb hby at_155) (by decide) rfl ?_
    refine Go.retN hx (t := .boolean) hret (by simp) hlk (hb hby at_159) (by decide) (by decide) ?_
    rfl
  · rw [hk275]
    refine Go.istore (q := 40) (l' := #[.val (.int p1), .val (.long p2), .second, .val (.int p3), .val (.int p4), .val (.ref a244), .val (.ref a258), .val (.int (2 : Int32)), .unset, .unset, .unset]) hx (hb hby at_38) rfl rfl ?_
    refine Go.iload (q := 42) hx (hb hby at_40) rfl rfl ?_
    refine Go.if_ne (q := 45) (t := 62) hx (hb hby at_42) (by decide) rfl rfl (fun hc42 => ?_) (fun hc42 => absurd hc42 (by decide))
    refine Go.iload (q := 64) hx (hb hby at_62) rfl rfl ?_
    refine Go.iconst (q := 65) (z := (1 : Int32)) hx (hb hby at_64) rfl rfl ?_
    refine Go.icmp_ne (q := 68) (t := 87) hx (hb hby at_65) (by decide) rfl rfl (fun hc65 => ?_) (fun hc65 => absurd hc65 (by decide))
    refine Go.iload (q := 89) hx (hb hby at_87) rfl rfl ?_
    refine Go.iconst (q := 90) (z := (2 : Int32)) hx (hb hby at_89) rfl rfl ?_
    refine Go.icmp_ne (q := 93) (t := 110) hx (hb hby at_90) (by decide) rfl rfl (fun hc90 => absurd hc90 (by decide)) (fun hc90 => ?_)
    refine Go.newO (q := 96) hx hZ hown (hw _ (List.mem_of_getElem? (i := 132) rfl)) (hw _ (List.mem_of_getElem? (i := 133) rfl)) (hw _ (List.mem_of_getElem? (i := 134) rfl)) (hb hby at_93) rfl (ce' := 4) (sl' := 13) rfl rfl (by decide) (by decide) (fun h314 a315 g316 E317 A318 D319 => ?_)
    have ne320 : a244 ≠ a315 := by rw [g316]; exact Nat.ne_of_lt (((V256.ext E260).keep K268 (ninS ne263 nin0))).lt
    have ne321 : a258 ≠ a315 := by rw [g316]; exact Nat.ne_of_lt ((A261.keep K268)).lt
    have gz322 : n0 ≤ a315 := by rw [g316]; exact (Nat.le_trans (Nat.le_trans (Nat.le_trans (Nat.le_trans (Nat.le_trans Z0 E247.1) (Keep.of_wr W252).1) (Keep.of_wr W255).1) E260.1) K268.1)
    refine Go.dup (q := 97) hx (hb hby at_96) rfl rfl ?_
    refine Go.aload (q := 99) hx (hb hby at_97) rfl (by rfl) rfl ?_
    refine Go.callI (q := 102) hx hZ (a := a315) (argsL := [(.ref a258)]) (rest := [(.ref a315)]) hown rfl (hw _ (List.mem_of_getElem? (i := 135) rfl)) (hw _ (List.mem_of_getElem? (i := 136) rfl)) (hw _ (List.mem_of_getElem? (i := 134) rfl)) (hw _ (List.mem_of_getElem? (i := 137) rfl)) (by decide) (rmV l Z a0 hw hel a315 a258 h314 n0 (Nat.le_trans (Nat.le_trans (Nat.le_trans (Nat.le_trans (Nat.le_trans (Nat.le_trans Z0 E247.1) (Keep.of_wr W252).1) (Keep.of_wr W255).1) E260.1) K268.1) E317.1) gz322 A318 (D319 (Or.inl (hw _ (List.mem_of_getElem? (i := 146) rfl))) (ty := (.object "java/lang/String")) (by decide)) (D319 (Or.inl (hw _ (List.mem_of_getElem? (i := 148) rfl))) (ty := (.object "com/example/resolvent/resolvent/term/VariableStore")) (by decide)) (D319 (Or.inl (hw _ (List.mem_of_getElem? (i := 150) rfl))) (ty := .long) (by decide)) (Exa.ext E317 (A261.keep K268))) (by simp) (by rw [hml]; rfl) pd_12 rfl rfl (hb hby at_99) rfl (by decide) (Nat.le_of_ble_eq_true rfl) (ce' := 6) (sl' := 33) rfl rfl (by decide) (by decide) (fun v323 h324 hQ325 => ?_)
    obtain ⟨rfl, K326⟩ := hQ325
    show Go _ _ _ _ _ _ _ _ _ _ _ _ _ _ _ _ _ _ _ _ 6 33 102 #[.val (.int p1), .val (.long p2), .second, .val (.int p3), .val (.int p4), .val (.ref a244), .val (.ref a258), .val (.int (2 : Int32)), .unset, .unset, .unset] [(.ref a315)]
    refine Go.astore (q := 104) (l' := #[.val (.int p1), .val (.long p2), .second, .val (.int p3), .val (.int p4), .val (.ref a244), .val (.ref a258), .val (.int (2 : Int32)), .val (.ref a315), .unset, .unset]) hx (hb hby at_102) (by rfl) rfl rfl ?_
    refine Go.iconst (q := 105) (z := (0 : Int32)) hx (hb hby at_104) rfl rfl ?_
    refine Go.istore (q := 107) (l' := #[.val (.int p1), .val (.long p2), .second, .val (.int p3), .val (.int p4), .val (.ref a244), .val (.ref a258), .val (.int (2 : Int32)), .val (.ref a315), .val (.int (0 : Int32)), .unset]) hx (hb hby at_105) rfl rfl ?_
    refine Go.goto (q := 144) hx (hb hby at_107) (by decide) rfl ?_
    refine Go.aload (q := 146) hx (hb hby at_144) rfl (by rfl) rfl ?_
    refine Go.callS (q := 149) hx hZ (argsL := [(.ref a315)]) (rest := []) hown (hw _ (List.mem_of_getElem? (i := 52) rfl)) (hw _ (List.mem_of_getElem? (i := 53) rfl)) (hw _ (List.mem_of_getElem? (i := 54) rfl)) (hw _ (List.mem_of_getElem? (i := 55) rfl)) (by decide) (rmKV l Z a0 hw hel a315 h324 n0 (Nat.le_trans (Nat.le_trans (Nat.le_trans (Nat.le_trans (Nat.le_trans (Nat.le_trans (Nat.le_trans Z0 E247.1) (Keep.of_wr W252).1) (Keep.of_wr W255).1) E260.1) K268.1) E317.1) K326.1) (A318.keep K326)) (fun _ hx => nomatch hx) (by rw [hml]; rfl) pd_16 rfl rfl (hb hby at_146) rfl (by decide) (Nat.le_of_ble_eq_true rfl) (ce' := 6) (sl' := 33) rfl rfl (by decide) (by decide) (fun v327 h328 hQ329 => ?_)
    obtain ⟨rfl, rfl⟩ := hQ329
    show Go _ _ _ _ _ _ _ _ _ _ _ _ _ _ _ _ _ _ _ _ 6 33 149 #[.val (.int p1), .val (.long p2), .second, .val (.int p3), .val (.int p4), .val (.ref a244), .val (.ref a258), .val (.int (2 : Int32)), .val (.ref a315), .val (.int (0 : Int32)), .unset] [(.int (0 : Int32))]
    refine Go.iload (q := 151) hx (hb hby at_149) rfl rfl ?_
    refine Go.icmp_ne (q := 154) (t := 158) hx (hb hby at_151) (by decide) rfl rfl (fun hc151 => absurd hc151 (by decide)) (fun hc151 => ?_)
    refine Go.iconst (q := 155) (z := (1 : Int32)) hx (hb hby at_154) rfl rfl ?_
    refine Go.goto (q := 159) hx (hb hby at_155) (by decide) rfl ?_
    refine Go.retN hx (t := .boolean) hret (by simp) hlk (hb hby at_159) (by decide) (by decide) ?_
    rfl
  · rw [hk275]
    refine Go.istore (q := 40) (l' := #[.val (.int p1), .val (.long p2), .second, .val (.int p3), .val (.int p4), .val (.ref a244), .val (.ref a258), .val (.int (3 : Int32)), .unset, .unset, .unset]) hx (hb hby at_38) rfl rfl ?_
    refine Go.iload (q := 42) hx (hb hby at_40) rfl rfl ?_
    refine Go.if_ne (q := 45) (t := 62) hx (hb hby at_42) (by decide) rfl rfl (fun hc42 => ?_) (fun hc42 => absurd hc42 (by decide))
    refine Go.iload (q := 64) hx (hb hby at_62) rfl rfl ?_
    refine Go.iconst (q := 65) (z := (1 : Int32)) hx (hb hby at_64) rfl rfl ?_
    refine Go.icmp_ne (q := 68) (t := 87) hx (hb hby at_65) (by decide) rfl rfl (fun hc65 => ?_) (fun hc65 => absurd hc65 (by decide))
    refine Go.iload (q := 89) hx (hb hby at_87) rfl rfl ?_
    refine Go.iconst (q := 90) (z := (2 : Int32)) hx (hb hby at_89) rfl rfl ?_
    refine Go.icmp_ne (q := 93) (t := 110) hx (hb hby at_90) (by decide) rfl rfl (fun hc90 => ?_) (fun hc90 => absurd hc90 (by decide))
    refine Go.newO (q := 113) hx hZ hown (hw _ (List.mem_of_getElem? (i := 30) rfl)) (hw _ (List.mem_of_getElem? (i := 31) rfl)) (hw _ (List.mem_of_getElem? (i := 32) rfl)) (hb hby at_110) rfl (ce' := 4) (sl' := 9) rfl rfl (by decide) (by decide) (fun h330 a331 g332 E333 A334 D335 => ?_)
    have ne336 : a244 ≠ a331 := by rw [g332]; exact Nat.ne_of_lt (((V256.ext E260).keep K268 (ninS ne263 nin0))).lt
    have ne337 : a258 ≠ a331 := by rw [g332]; exact Nat.ne_of_lt ((A261.keep K268)).lt
    have gz338 : n0 ≤ a331 := by rw [g332]; exact (Nat.le_trans (Nat.le_trans (Nat.le_trans (Nat.le_trans (Nat.le_trans Z0 E247.1) (Keep.of_wr W252).1) (Keep.of_wr W255).1) E260.1) K268.1)
    refine Go.dup (q := 114) hx (hb hby at_113) rfl rfl ?_
    refine Go.aload (q := 116) hx (hb hby at_114) rfl (by rfl) rfl ?_
    refine Go.callI (q := 119) hx hZ (a := a331) (argsL := [(.ref a258)]) (rest := [(.ref a331)]) hown rfl (hw _ (List.mem_of_getElem? (i := 33) rfl)) (hw _ (List.mem_of_getElem? (i := 34) rfl)) (hw _ (List.mem_of_getElem? (i := 32) rfl)) (hw _ (List.mem_of_getElem? (i := 35) rfl)) (by decide) (rmA l Z a0 hw hel a331 a258 h330 n0 (Nat.le_trans (Nat.le_trans (Nat.le_trans (Nat.le_trans (Nat.le_trans (Nat.le_trans Z0 E247.1) (Keep.of_wr W252).1) (Keep.of_wr W255).1) E260.1) K268.1) E333.1) gz338 A334 (D335 (Or.inr (hw _ (List.mem_of_getElem? (i := 51) rfl))) (ty := (.object "java/lang/String")) (by decide)) (Exa.ext E333 (A261.keep K268))) (by simp) (by rw [hml]; rfl) pd_12 rfl rfl (hb hby at_116) rfl (by decide) (Nat.le_of_ble_eq_true rfl) (ce' := 6) (sl' := 29) rfl rfl (by decide) (by decide) (fun v339 h340 hQ341 => ?_)
    obtain ⟨rfl, K342⟩ := hQ341
    show Go _ _ _ _ _ _ _ _ _ _ _ _ _ _ _ _ _ _ _ _ 6 29 119 #[.val (.int p1), .val (.long p2), .second, .val (.int p3), .val (.int p4), .val (.ref a244), .val (.ref a258), .val (.int (3 : Int32)), .unset, .unset, .unset] [(.ref a331)]
    refine Go.astore (q := 121) (l' := #[.val (.int p1), .val (.long p2), .second, .val (.int p3), .val (.int p4), .val (.ref a244), .val (.ref a258), .val (.int (3 : Int32)), .unset, .unset, .val (.ref a331)]) hx (hb hby at_119) (by rfl) rfl rfl ?_
    refine Go.newO (q := 124) hx hZ hown (hw _ (List.mem_of_getElem? (i := 58) rfl)) (hw _ (List.mem_of_getElem? (i := 59) rfl)) (hw _ (List.mem_of_getElem? (i := 60) rfl)) (hb hby at_121) rfl (ce' := 7) (sl' := 34) rfl rfl (by decide) (by decide) (fun h343 a344 g345 E346 A347 D348 => ?_)
    have ne349 : a244 ≠ a344 := by rw [g345]; exact Nat.ne_of_lt (((((V256.ext E260).keep K268 (ninS ne263 nin0)).ext E333).keep K342 (ninS ne336 nin0))).lt
    have ne350 : a258 ≠ a344 := by rw [g345]; exact Nat.ne_of_lt (((Exa.ext E333 (A261.keep K268)).keep K342)).lt
    have ne351 : a331 ≠ a344 := by rw [g345]; exact Nat.ne_of_lt ((A334.keep K342)).lt
    have gz352 : n0 ≤ a344 := by rw [g345]; exact (Nat.le_trans (Nat.le_trans (Nat.le_trans (Nat.le_trans (Nat.le_trans (Nat.le_trans (Nat.le_trans Z0 E247.1) (Keep.of_wr W252).1) (Keep.of_wr W255).1) E260.1) K268.1) E333.1) K342.1)
    refine Go.dup (q := 125) hx (hb hby at_124) rfl rfl ?_
    refine Go.aload (q := 127) hx (hb hby at_125) rfl (by rfl) rfl ?_
    refine Go.iconst (q := 128) (z := (1 : Int32)) hx (hb hby at_127) rfl rfl ?_
    refine Go.newR (q := 131) (cap := 1) hx hZ hown (hw _ (List.mem_of_getElem? (i := 61) rfl)) (hw _ (List.mem_of_getElem? (i := 62) rfl)) (by decide) (by decide) (hb hby at_128) rfl (by decide) (ce' := 8) (sl' := 35) rfl rfl (by decide) (by decide) (fun h353 a354 k355 g356 E357 A358 O359 => ?_)
    have ne360 : a244 ≠ a354 := by rw [g356]; exact Nat.ne_of_lt ((((((V256.ext E260).keep K268 (ninS ne263 nin0)).ext E333).keep K342 (ninS ne336 nin0)).ext E346)).lt
    have ne361 : a258 ≠ a354 := by rw [g356]; exact Nat.ne_of_lt ((Exa.ext E346 ((Exa.ext E333 (A261.keep K268)).keep K342))).lt
    have ne362 : a331 ≠ a354 := by rw [g356]; exact Nat.ne_of_lt ((Exa.ext E346 (A334.keep K342))).lt
    have ne363 : a344 ≠ a354 := by rw [g356]; exact Nat.ne_of_lt (A347).lt
    have gz364 : n0 ≤ a354 := by rw [g356]; exact (Nat.le_trans (Nat.le_trans (Nat.le_trans (Nat.le_trans (Nat.le_trans (Nat.le_trans (Nat.le_trans (Nat.le_trans Z0 E247.1) (Keep.of_wr W252).1) (Keep.of_wr W255).1) E260.1) K268.1) E333.1) K342.1) E346.1)
    have V365 : Arv Z h353 a354 k355 (.object "com/example/resolvent/resolvent/term/Term") (1 : Int32) [.null] .null := A358.pad (pad_rep [] .null 1)
    refine Go.dup (q := 132) hx (hb hby at_131) rfl rfl ?_
    refine Go.iconst (q := 133) (z := (0 : Int32)) hx (hb hby at_132) rfl rfl ?_
    refine Go.aload (q := 135) hx (hb hby at_133) rfl (by rfl) rfl ?_
    refine Go.aastore (q := 136) hx hZ V365 (sto_of V365 O359 (Ins.of_exa (Exa.ext E357 (Exa.ext E346 (A334.keep K342))) (hw _ (List.mem_of_getElem? (i := 63) rfl)))) rfl ⟨by decide, by decide⟩ 0 rfl (Nat.le_of_ble_eq_true rfl) gz364 (by simp) (hb hby at_135) rfl (fun h366 W367 V368 => ?_)
    refine Go.callI (q := 139) hx hZ (a := a344) (argsL := [(.ref a258), (.ref a354)]) (rest := [(.ref a344)]) hown rfl (hw _ (List.mem_of_getElem? (i := 64) rfl)) (hw _ (List.mem_of_getElem? (i := 65) rfl)) (hw _ (List.mem_of_getElem? (i := 60) rfl)) (hw _ (List.mem_of_getElem? (i := 66) rfl)) (by decide) (rmC1 l Z a0 hw hel a344 a258 a354 a331 k355 h366 n0 (Nat.le_trans (Nat.le_trans (Nat.le_trans (Nat.le_trans (Nat.le_trans (Nat.le_trans (Nat.le_trans (Nat.le_trans (Nat.le_trans (Nat.le_trans Z0 E247.1) (Keep.of_wr W252).1) (Keep.of_wr W255).1) E260.1) K268.1) E333.1) K342.1) E346.1) E357.1) (Keep.of_wr W367).1) gz352 (Exa.wr W367 (Exa.ext E357 A347)) (Fld.other W367 (Fld.ext E357 (D348 (Or.inl (hw _ (List.mem_of_getElem? (i := 81) rfl))) (ty := (.object "java/lang/String")) (by decide))) (Or.inl ne363)) (Fld.other W367 (Fld.ext E357 (D348 (Or.inl (hw _ (List.mem_of_getElem? (i := 83) rfl))) (ty := .int) (by decide))) (Or.inl ne363)) (Fld.other W367 (Fld.ext E357 (D348 (Or.inl (hw _ (List.mem_of_getElem? (i := 85) rfl))) (ty := (.object "com/example/resolvent/resolvent/term/Term")) (by decide))) (Or.inl ne363)) (Fld.other W367 (Fld.ext E357 (D348 (Or.inl (hw _ (List.mem_of_getElem? (i := 87) rfl))) (ty := (.object "com/example/resolvent/resolvent/term/Term")) (by decide))) (Or.inl ne363)) (Fld.other W367 (Fld.ext E357 (D348 (Or.inl (hw _ (List.mem_of_getElem? (i := 89) rfl))) (ty := (.array (.object "com/example/resolvent/resolvent/term/Term"))) (by decide))) (Or.inl ne363)) ne363 V368) (by simp) (by rw [hml]; rfl) pd_15 rfl rfl (hb hby at_136) rfl (by decide) (Nat.le_of_ble_eq_true rfl) (ce' := 12) (sl' := 91) rfl rfl (by decide) (by decide) (fun v369 h370 hQ371 => ?_)
    obtain ⟨rfl, K372⟩ := hQ371
    show Go _ _ _ _ _ _ _ _ _ _ _ _ _ _ _ _ _ _ _ _ 12 91 139 #[.val (.int p1), .val (.long p2), .second, .val (.int p3), .val (.int p4), .val (.ref a244), .val (.ref a258), .val (.int (3 : Int32)), .unset, .unset, .val (.ref a331)] [(.ref a344)]
    refine Go.astore (q := 141) (l' := #[.val (.int p1), .val (.long p2), .second, .val (.int p3), .val (.int p4), .val (.ref a244), .val (.ref a258), .val (.int (3 : Int32)), .val (.ref a344), .unset, .val (.ref a331)]) hx (hb hby at_139) (by rfl) rfl rfl ?_
    refine Go.iconst (q := 142) (z := (0 : Int32)) hx (hb hby at_141) rfl rfl ?_
    refine Go.istore (q := 144) (l' := #[.val (.int p1), .val (.long p2), .second, .val (.int p3), .val (.int p4), .val (.ref a244), .val (.ref a258), .val (.int (3 : Int32)), .val (.ref a344), .val (.int (0 : Int32)), .val (.ref a331)]) hx (hb hby at_142) rfl rfl ?_
    refine Go.aload (q := 146) hx (hb hby at_144) rfl (by rfl) rfl ?_
    refine Go.callS (q := 149) hx hZ (argsL := [(.ref a344)]) (rest := []) hown (hw _ (List.mem_of_getElem? (i := 52) rfl)) (hw _ (List.mem_of_getElem? (i := 53) rfl)) (hw _ (List.mem_of_getElem? (i := 54) rfl)) (hw _ (List.mem_of_getElem? (i := 55) rfl)) (by decide) (rmKC l Z a0 hw hel a344 h370 n0 (Nat.le_trans (Nat.le_trans (Nat.le_trans (Nat.le_trans (Nat.le_trans (Nat.le_trans (Nat.le_trans (Nat.le_trans (Nat.le_trans (Nat.le_trans (Nat.le_trans Z0 E247.1) (Keep.of_wr W252).1) (Keep.of_wr W255).1) E260.1) K268.1) E333.1) K342.1) E346.1) E357.1) (Keep.of_wr W367).1) K372.1) ((Exa.wr W367 (Exa.ext E357 A347)).keep K372)) (fun _ hx => nomatch hx) (by rw [hml]; rfl) pd_16 rfl rfl (hb hby at_146) rfl (by decide) (Nat.le_of_ble_eq_true rfl) (ce' := 12) (sl' := 91) rfl rfl (by decide) (by decide) (fun v373 h374 hQ375 => ?_)
    obtain ⟨rfl, rfl⟩ := hQ375
    show Go _ _ _ _ _ _ _ _ _ _ _ _ _ _ _ _ _ _ _ _ 12 91 149 #[.val (.int p1), .val (.long p2), .second, .val (.int p3), .val (.int p4), .val (.ref a244), .val (.ref a258), .val (.int (3 : Int32)), .val (.ref a344), .val (.int (0 : Int32)), .val (.ref a331)] [(.int (0 : Int32))]
    refine Go.iload (q := 151) hx (hb hby at_149) rfl rfl ?_
    refine Go.icmp_ne (q := 154) (t := 158) hx (hb hby at_151) (by decide) rfl rfl (fun hc151 => absurd hc151 (by decide)) (fun hc151 => ?_)
    refine Go.iconst (q := 155) (z := (1 : Int32)) hx (hb hby at_154) rfl rfl ?_
    refine Go.goto (q := 159) hx (hb hby at_155) (by decide) rfl ?_
    refine Go.retN hx (t := .boolean) hret (by simp) hlk (hb hby at_159) (by decide) (by decide) ?_
    rfl
theorem len17 {args : Array Value} {s : State} {t : Term} {a : Addr} {cl : Cell} (h : (Term.length t).eval args s none [] s = some (.int (17 : Int32))) (ht : t.eval args s none [] s = some (.ref a)) (ha : s.arrayAt? a = some cl) : cl.slots.size = 17 := by
  have h2 := h
  simp only [Term.eval, ht] at h2
  simp [ha] at h2
  obtain ⟨q, e⟩ := h2
  have e1 := len_toInt (n := cl.slots.size) (by omega)
  rw [e] at e1
  have e2 : (17 : Int32).toInt = 17 := rfl
  omega
theorem el_at {args : Array Value} {s : State} {t : Term} {a : Addr} {cl : Cell} {ty : FieldType} {j : Int32} {C : String} (ht : t.eval args s none [] s = some (.ref a)) (A : Arr s s.heap a cl ty) (hx : (Cond.exactly (.elem t (.int j)) C).value args s none s [] = some true) : ∃ y, cl.slots[j.toNatClampNeg]? = some (.ref y) ∧ Exa s s.heap y C := by
  obtain ⟨y, ey⟩ := exa_v hx
  exact ⟨y, (elem_in ey ht (Term.int_eval j) A.1).2, Exa.start ey hx⟩
theorem sixteen {j : Int32} (h1 : ¬ j < 1) (h2 : ¬ 16 < j) : j = (1 : Int32) ∨ j = (2 : Int32) ∨ j = (3 : Int32) ∨ j = (4 : Int32) ∨ j = (5 : Int32) ∨ j = (6 : Int32) ∨ j = (7 : Int32) ∨ j = (8 : Int32) ∨ j = (9 : Int32) ∨ j = (10 : Int32) ∨ j = (11 : Int32) ∨ j = (12 : Int32) ∨ j = (13 : Int32) ∨ j = (14 : Int32) ∨ j = (15 : Int32) ∨ j = (16 : Int32) := by
  simp only [Int32.lt_iff_toInt_lt] at h1 h2
  have f1 : (1 : Int32).toInt = 1 := rfl
  have f2 : (2 : Int32).toInt = 2 := rfl
  have f3 : (3 : Int32).toInt = 3 := rfl
  have f4 : (4 : Int32).toInt = 4 := rfl
  have f5 : (5 : Int32).toInt = 5 := rfl
  have f6 : (6 : Int32).toInt = 6 := rfl
  have f7 : (7 : Int32).toInt = 7 := rfl
  have f8 : (8 : Int32).toInt = 8 := rfl
  have f9 : (9 : Int32).toInt = 9 := rfl
  have f10 : (10 : Int32).toInt = 10 := rfl
  have f11 : (11 : Int32).toInt = 11 := rfl
  have f12 : (12 : Int32).toInt = 12 := rfl
  have f13 : (13 : Int32).toInt = 13 := rfl
  have f14 : (14 : Int32).toInt = 14 := rfl
  have f15 : (15 : Int32).toInt = 15 := rfl
  have f16 : (16 : Int32).toInt = 16 := rfl
  simp only [← Int32.toInt_inj]
  omega
set_option maxRecDepth 65536 in
set_option maxHeartbeats 40000000 in
theorem comes_1 {Post : Tables → Env → Array Value → State → Outcome → State → Prop} (hpost : ∀ tb e args s v u, (limb_1_1.after args s (.returned v) u = true ∧ limb_1_2.after args s (.returned v) u = true ∧ True) → ReturnedEndW s (.returned v) u (Jvm.fieldLocs frame_1_writes args s ++ Jvm.arrayLocs frame_1_arrays args s ++ Jvm.staticLocs frame_1_statics s) 32 5248 → Post tb e args s (.returned v) u) :
    ArmFor flags0 classFile x code maxLocals ret World_1 tables_1 room_1 Calls_1 rest_1 Pre_1 Post := by
  intro l hfl _ _ p e ha hc hk s m args below hf hA hF happ hP
  obtain ⟨hcalls, hrest, hpre⟩ := hP
  obtain ⟨-, -, -, hnamed, -, -, -, hat⟩ := (Spec.applies_iff hf).mp happ
  obtain ⟨hg, hn⟩ := and_e (Cond.before_iff.mp (show (Jvm.Cond.and given_1 narrow_1).before args s = true from hpre))
  obtain ⟨hcnt, hk0⟩ := and_e hg
  obtain ⟨ha0, hk1⟩ := and_e hk0
  obtain ⟨ha1, hk2⟩ := and_e hk1
  obtain ⟨ha2, hk3⟩ := and_e hk2
  obtain ⟨w0, w1, w2, w3, rfl⟩ : ∃ w0 w1 w2 w3 : Value, args = #[w0, w1, w2, w3] := by
    have hs : args.size = 4 := by simpa [Cond.value, given_1] using hcnt
    obtain ⟨L⟩ := args
    match L, hs with
    | [w0, w1, w2, w3], _ => exact ⟨w0, w1, w2, w3, rfl⟩
  have hw := fun d (hd : d ∈ tables_1) => atoms_spec (ws := Jvm.Cond.code x code maxLocals ret :: tables_1) hat d (List.mem_cons_of_mem _ hd)
  obtain ⟨hsets, hown0⟩ := atoms_of _ (rest_1_c_eq ▸ (show rest_1_c.before _ s = true from hrest))
  have hfit : Fit s := fun {y c} hc i hi => by
    obtain ⟨ha, rfl⟩ := Array.getElem?_eq_some_iff.mp hc
    have q := List.all_eq_true.mp ((Array.all_eq_true_iff_forall_mem.mp hF) _ (Array.getElem_mem ha)) i (List.mem_range.mpr hi)
    simpa [Array.getElem?_eq_getElem hi] using q
  obtain ⟨i0, ei0⟩ := is_v ha0
  obtain rfl : w0 = (.int i0) := Option.some.inj ei0
  obtain ⟨i1, ei1⟩ := isL_v ha1
  obtain rfl : w1 = (.long i1) := Option.some.inj ei1
  obtain ⟨i2, ei2⟩ := is_v ha2
  obtain rfl : w2 = (.int i2) := Option.some.inj ei2
  obtain ⟨i3, ei3⟩ := is_v hk3
  obtain rfl : w3 = (.int i3) := Option.some.inj ei3
  have hel : EW s (#[.int i0, .long i1, .int i2, .int i3] : Array Value) [] := EW.nil
  have hCH : CHv s [] s.vm s.heap := fun _ hp => nomatch hp
  have n5 := not_v (Cond.before_iff.mp (hsets _ (List.mem_of_getElem? (i := 2) rfl)))
  obtain ⟨cst, e6⟩ := is_v (Cond.before_iff.mp (hsets _ (List.mem_of_getElem? (i := 1) rfl)))
  have SC : Sta s s.heap "java/lang/String" "COMPACT_STRINGS" "Z" (.int cst) := Sta.start e6 (Or.inl (hsets _ (List.mem_of_getElem? (i := 0) rfl)))
  have hcs : ¬ (cst = (0 : Int32)) := gotF (Cond.eq_ints e6 (Term.int_eval (0))) n5
  obtain ⟨zb, ez⟩ := exa_v (Cond.before_iff.mp (hsets _ (List.mem_of_getElem? (i := 225) rfl)))
  have EB := Exa.start ez (Cond.before_iff.mp (hsets _ (List.mem_of_getElem? (i := 225) rfl)))
  have B0 := Sta.start ez (Or.inl (hsets _ (List.mem_of_getElem? (i := 224) rfl)))
  have ap := Cond.before_iff.mp (hsets _ (List.mem_of_getElem? (i := 17) rfl))
  obtain ⟨pb, epb⟩ := arr_v ap
  obtain ⟨pc1, Ap⟩ := Arr.start epb ap
  have B1 := Sta.start epb (Or.inl (hsets _ (List.mem_of_getElem? (i := 10) rfl)))
  have lp := len17 (eqv_i (Term.int_eval (17 : Int32)) (Cond.before_iff.mp (hsets _ (List.mem_of_getElem? (i := 19) rfl)))) epb (Ap.fin (Vm.Alike.refl _))
  have p1 := el_at epb Ap (Cond.before_iff.mp (hsets _ (List.mem_of_getElem? (i := 21) rfl)))
  have p2 := el_at epb Ap (Cond.before_iff.mp (hsets _ (List.mem_of_getElem? (i := 28) rfl)))
  have p3 := el_at epb Ap (Cond.before_iff.mp (hsets _ (List.mem_of_getElem? (i := 34) rfl)))
  have p4 := el_at epb Ap (Cond.before_iff.mp (hsets _ (List.mem_of_getElem? (i := 40) rfl)))
  have p5 := el_at epb Ap (Cond.before_iff.mp (hsets _ (List.mem_of_getElem? (i := 46) rfl)))
  have p6 := el_at epb Ap (Cond.before_iff.mp (hsets _ (List.mem_of_getElem? (i := 52) rfl)))
  have p7 := el_at epb Ap (Cond.before_iff.mp (hsets _ (List.mem_of_getElem? (i := 58) rfl)))
  have p8 := el_at epb Ap (Cond.before_iff.mp (hsets _ (List.mem_of_getElem? (i := 64) rfl)))
  have p9 := el_at epb Ap (Cond.before_iff.mp (hsets _ (List.mem_of_getElem? (i := 70) rfl)))
  have p10 := el_at epb Ap (Cond.before_iff.mp (hsets _ (List.mem_of_getElem? (i := 77) rfl)))
  have p11 := el_at epb Ap (Cond.before_iff.mp (hsets _ (List.mem_of_getElem? (i := 83) rfl)))
  have p12 := el_at epb Ap (Cond.before_iff.mp (hsets _ (List.mem_of_getElem? (i := 89) rfl)))
  have p13 := el_at epb Ap (Cond.before_iff.mp (hsets _ (List.mem_of_getElem? (i := 95) rfl)))
  have p14 := el_at epb Ap (Cond.before_iff.mp (hsets _ (List.mem_of_getElem? (i := 101) rfl)))
  have p15 := el_at epb Ap (Cond.before_iff.mp (hsets _ (List.mem_of_getElem? (i := 107) rfl)))
  have p16 := el_at epb Ap (Cond.before_iff.mp (hsets _ (List.mem_of_getElem? (i := 113) rfl)))
  have S1 : Small s pb pc1 := ⟨Ap, lp, fun j h1 h2 => by
    rcases sixteen h1 h2 with rfl | rfl | rfl | rfl | rfl | rfl | rfl | rfl | rfl | rfl | rfl | rfl | rfl | rfl | rfl | rfl
    · exact p1
    · exact p2
    · exact p3
    · exact p4
    · exact p5
    · exact p6
    · exact p7
    · exact p8
    · exact p9
    · exact p10
    · exact p11
    · exact p12
    · exact p13
    · exact p14
    · exact p15
    · exact p16⟩
  have ag := Cond.before_iff.mp (hsets _ (List.mem_of_getElem? (i := 123) rfl))
  obtain ⟨gb, egb⟩ := arr_v ag
  obtain ⟨gc1, Ag⟩ := Arr.start egb ag
  have B2 := Sta.start egb (Or.inl (hsets _ (List.mem_of_getElem? (i := 120) rfl)))
  have lg := len17 (eqv_i (Term.int_eval (17 : Int32)) (Cond.before_iff.mp (hsets _ (List.mem_of_getElem? (i := 125) rfl)))) egb (Ag.fin (Vm.Alike.refl _))
  have g1 := el_at egb Ag (Cond.before_iff.mp (hsets _ (List.mem_of_getElem? (i := 127) rfl)))
  have g2 := el_at egb Ag (Cond.before_iff.mp (hsets _ (List.mem_of_getElem? (i := 133) rfl)))
  have g3 := el_at egb Ag (Cond.before_iff.mp (hsets _ (List.mem_of_getElem? (i := 139) rfl)))
  have g4 := el_at egb Ag (Cond.before_iff.mp (hsets _ (List.mem_of_getElem? (i := 145) rfl)))
  have g5 := el_at egb Ag (Cond.before_iff.mp (hsets _ (List.mem_of_getElem? (i := 151) rfl)))
  have g6 := el_at egb Ag (Cond.before_iff.mp (hsets _ (List.mem_of_getElem? (i := 157) rfl)))
  have g7 := el_at egb Ag (Cond.before_iff.mp (hsets _ (List.mem_of_getElem? (i := 163) rfl)))
  have g8 := el_at egb Ag (Cond.before_iff.mp (hsets _ (List.mem_of_getElem? (i := 169) rfl)))
  have g9 := el_at egb Ag (Cond.before_iff.mp (hsets _ (List.mem_of_getElem? (i := 175) rfl)))
  have g10 := el_at egb Ag (Cond.before_iff.mp (hsets _ (List.mem_of_getElem? (i := 181) rfl)))
  have g11 := el_at egb Ag (Cond.before_iff.mp (hsets _ (List.mem_of_getElem? (i := 187) rfl)))
  have g12 := el_at egb Ag (Cond.before_iff.mp (hsets _ (List.mem_of_getElem? (i := 193) rfl)))
  have g13 := el_at egb Ag (Cond.before_iff.mp (hsets _ (List.mem_of_getElem? (i := 199) rfl)))
  have g14 := el_at egb Ag (Cond.before_iff.mp (hsets _ (List.mem_of_getElem? (i := 205) rfl)))
  have g15 := el_at egb Ag (Cond.before_iff.mp (hsets _ (List.mem_of_getElem? (i := 211) rfl)))
  have g16 := el_at egb Ag (Cond.before_iff.mp (hsets _ (List.mem_of_getElem? (i := 217) rfl)))
  have S2 : Small s gb gc1 := ⟨Ag, lg, fun j h1 h2 => by
    rcases sixteen h1 h2 with rfl | rfl | rfl | rfl | rfl | rfl | rfl | rfl | rfl | rfl | rfl | rfl | rfl | rfl | rfl | rfl
    · exact g1
    · exact g2
    · exact g3
    · exact g4
    · exact g5
    · exact g6
    · exact g7
    · exact g8
    · exact g9
    · exact g10
    · exact g11
    · exact g12
    · exact g13
    · exact g14
    · exact g15
    · exact g16⟩
  obtain ⟨n, o, h1, h2, h3, _, L, rfl, ⟨rfl, N⟩, -, hq⟩ := rm0 l s _ hw hel i0 i1 i2 i3 cst zb pb gb pc1 gc1 s.heap s.heap.size (Nat.le_refl _) (Old.start s) SC hcs B0 EB B1 B2 S1 S2 p e ha hc hk s m _ below hf ((Spec.applies_iff_loose hf).mp happ).1 ⟨rfl, State.Warmed39.refl s, rfl, hCH, fun _ hx => nomatch hx⟩ trivial
  refine ⟨n, _, h1, h2, h3, hpost _ _ _ _ _ _ ⟨Cond.after_iff.mpr rfl, Cond.after_iff.mpr (eq_i res_at (Term.int_eval (1)) rfl), trivial⟩ ⟨hq.1, hq.2.1, hq.2.2.1, (hq.2.2.2.sift fun y hy => Or.inr (N y hy)).mono (by decide) (by decide)⟩⟩
theorem main_1_1 : Claimed_1_1 := comes_1 fun _ _ _ _ _ _ h hF => ⟨h.1, hF⟩
theorem main_1_2 : Claimed_1_2 := comes_1 fun _ _ _ _ _ _ h hF => ⟨h.2.1, hF⟩
end Jvm.Pilot.@@N@@
namespace Jvm.Pilot.@@N@@
open Jvm Jvm.ClassFile Sem Op Lib Jvm.Free Jvm.Stand Jvm.Pilot.@@N@@.Jvm.D
/-! MADE BY PROGRAM (witnessworld.py) out of the Statement's table words and the real class files: 28 classes; the members and pool entries that the words name. The judged class is class 1, her method 1. -/
namespace start1
open Jvm.ClassFile
def u (s : String) : CpInfo := .utf8 (stringToUtf16 s)
/-- a pool by its gaps: so many unusable entries, then the entry; so many at the end -/
def gap : Nat → List CpInfo → List CpInfo
  | 0, r => r
  | n + 1, r => .unusable :: gap n r
def poolList (es : List (Nat × CpInfo)) (last : Nat) : List CpInfo := es.foldr (fun e r => gap e.1 (e.2 :: r)) (gap last [])
def pool (es : List (Nat × CpInfo)) (last : Nat) : Array CpInfo := ⟨poolList es last⟩
def fileOf (pool : Array CpInfo) (this : Nat) (attrs : Array Attribute := #[]) (ms : Array MethodInfo := #[]) (fl : Nat := 33) (sup : Nat := 0) (ifs : Array Nat := #[]) (fds : Array FieldInfo := #[]) : ClassFile where
  minorVersion := 0
  majorVersion := 65
  constantPool := pool
  accessFlags := fl
  thisClass := this
  superClass := sup
  interfaces := ifs
  fields := fds
  methods := ms
  attributes := attrs
def plain (name : String) (sup : Option ClassId) : Class where
  name := name
  kind := .ordinary
  loader := none
  accessFlags := 33
  super := sup
  interfaces := #[]
  cf := none
  fields := #[]
  methods := #[]
  instanceTypes := #[]
  staticTypes := #[]
  resolved := #[]
  callSites := []
  init := .initialized
  statics := none
  mirror := none

def pool0 : Array CpInfo := pool [(5, u "<init>"), (0, u "()V"), (1, .class_ 10), (1, u "java/lang/Object")] 113

def k0c0 : Code := { maxStack := 0, maxLocals := 1, code := object_method_1_code, exceptionTable := #[], attributes := #[] }
def k0m0 : Method := { name := "<init>", desc := "()V", sig := { parameters := [], returnType := none }, accessFlags := 1, code := some k0c0 }
/-- java/lang/Object -/
def k0 : Class := { plain "java/lang/Object" none with
  accessFlags := 33
  interfaces := #[]
  cf := some (fileOf pool0 8 #[] #[{ accessFlags := 1, nameIndex := 5, descriptorIndex := 6, attributes := #[] }] 33 0 #[] #[])
  fields := #[]
  methods := #[k0m0]
  instanceTypes := #[]
  staticTypes := #[]
  resolved := Array.replicate 124 none
  statics := none }

def pool1 : Array CpInfo := pool [(2, .class_ 4), (1, u "java/lang/Object"), (0, u "<init>"), (0, u "()V"), (0, .class_ 8), (0, u "java/lang/String"), (0, .methodref 7 10), (0, .nameAndType 5 11), (0, u "([C)V"), (0, .class_ 13), (0, u "com/example/resolvent/resolvent/term/Atom"), (0, .methodref 12 15), (0, .nameAndType 5 16), (0, u "(Ljava/lang/String;)V"), (0, .class_ 18), (0, u "com/example/resolvent/resolvent/term/Int"), (0, .methodref 20 21), (0, .class_ 22), (0, .nameAndType 23 24), (0, u "java/math/BigInteger"), (0, u "valueOf"), (0, u "(J)Ljava/math/BigInteger;"), (0, .methodref 17 26), (0, .nameAndType 5 27), (0, u "(Ljava/math/BigInteger;)V"), (0, .class_ 29), (0, u "com/example/resolvent/resolvent/term/Variable"), (0, .methodref 28 15), (0, .class_ 32), (0, u "com/example/resolvent/resolvent/term/Compound"), (0, .class_ 34), (0, u "com/example/resolvent/resolvent/term/Term"), (0, .methodref 31 36), (0, .nameAndType 5 37), (0, u "(Ljava/lang/String;[Lcom/example/resolvent/resolvent/term/Term;)V"), (0, .methodref 39 40), (0, .class_ 41), (0, .nameAndType 42 43), (0, u "com/example/resolvent/resolvent/model/Relation"), (0, u "isConstant"), (0, u "(Lcom/example/resolvent/resolvent/term/Term;)Z"), (0, .class_ 45), (0, u "com/example/resolvent/resolvent/model/RelationIsConstantPinLaw"), (2, u "law"), (0, u "(IJII)Z")] 5

def k1m0 : Method := { name := "<init>", desc := "()V", sig := { parameters := [], returnType := none }, accessFlags := 2, code := none }
def k1c1 : Code := { maxStack := 7, maxLocals := 11, code := code, exceptionTable := #[], attributes := #[] }
def k1m1 : Method := { name := "law", desc := "(IJII)Z", sig := { parameters := [.int, .long, .int, .int], returnType := some .boolean }, accessFlags := 9, code := some k1c1 }
/-- com/example/resolvent/resolvent/model/RelationIsConstantPinLaw -/
def k1 : Class := { plain "com/example/resolvent/resolvent/model/RelationIsConstantPinLaw" (some 0) with
  accessFlags := 49
  interfaces := #[]
  cf := some (fileOf pool1 44 #[] #[{ accessFlags := 2, nameIndex := 5, descriptorIndex := 6, attributes := #[] }, { accessFlags := 9, nameIndex := 48, descriptorIndex := 49, attributes := #[] }] 49 2 #[] #[])
  fields := #[]
  methods := #[k1m0, k1m1]
  instanceTypes := #[]
  staticTypes := #[]
  resolved := Array.replicate 55 none
  statics := none }

def pool2 : Array CpInfo := pool [(1, .class_ 2), (0, u "java/io/Serializable"), (0, .class_ 4), (0, u "java/lang/Object")] 2

/-- java/io/Serializable -/
def k2 : Class := { plain "java/io/Serializable" (some 0) with
  accessFlags := 1537
  interfaces := #[]
  cf := some (fileOf pool2 1 #[] #[] 1537 3 #[] #[])
  fields := #[]
  methods := #[]
  instanceTypes := #[]
  staticTypes := #[]
  resolved := Array.replicate 7 none
  statics := none }

def pool3 : Array CpInfo := pool [(1, .class_ 2), (0, u "java/lang/Comparable"), (0, .class_ 4), (0, u "java/lang/Object")] 7

/-- java/lang/Comparable -/
def k3 : Class := { plain "java/lang/Comparable" (some 0) with
  accessFlags := 1537
  interfaces := #[]
  cf := some (fileOf pool3 1 #[] #[] 1537 3 #[] #[])
  fields := #[]
  methods := #[]
  instanceTypes := #[]
  staticTypes := #[]
  resolved := Array.replicate 12 none
  statics := none }

def pool4 : Array CpInfo := pool [(2, .class_ 4), (1, u "java/lang/CharSequence"), (42, .class_ 48), (0, u "java/lang/CharSequence$1CodePointIterator"), (10, .class_ 60), (0, u "java/lang/CharSequence$1CharIterator"), (5, .class_ 67), (0, u "java/lang/Object")] 63

/-- java/lang/CharSequence -/
def k4 : Class := { plain "java/lang/CharSequence" (some 0) with
  accessFlags := 1537
  interfaces := #[]
  cf := some (fileOf pool4 2 #[.nestMembers #[47, 59]] #[] 1537 66 #[] #[])
  fields := #[]
  methods := #[]
  instanceTypes := #[]
  staticTypes := #[]
  resolved := Array.replicate 131 none
  statics := none }

def pool5 : Array CpInfo := pool [(1, .class_ 2), (0, u "java/lang/constant/Constable"), (0, .class_ 4), (0, u "java/lang/Object")] 6

/-- java/lang/constant/Constable -/
def k5 : Class := { plain "java/lang/constant/Constable" (some 0) with
  accessFlags := 1537
  interfaces := #[]
  cf := some (fileOf pool5 1 #[] #[] 1537 3 #[] #[])
  fields := #[]
  methods := #[]
  instanceTypes := #[]
  staticTypes := #[]
  resolved := Array.replicate 11 none
  statics := none }

def pool6 : Array CpInfo := pool [(1, .class_ 2), (0, u "java/lang/constant/ConstantDesc"), (0, .class_ 4), (0, u "java/lang/Object")] 32

/-- java/lang/constant/ConstantDesc -/
def k6 : Class := { plain "java/lang/constant/ConstantDesc" (some 0) with
  accessFlags := 1537
  interfaces := #[]
  cf := some (fileOf pool6 1 #[] #[] 1537 3 #[] #[])
  fields := #[]
  methods := #[]
  instanceTypes := #[]
  staticTypes := #[]
  resolved := Array.replicate 37 none
  statics := none }

def pool7 : Array CpInfo := pool [(1, .methodref 2 3), (0, .class_ 4), (0, .nameAndType 5 6), (0, u "java/lang/Object"), (0, u "<init>"), (0, u "()V"), (2, .fieldref 10 11), (0, .class_ 12), (0, .nameAndType 13 14), (0, u "java/lang/String"), (0, u "value"), (0, u "[B"), (0, .fieldref 10 16), (0, .nameAndType 17 18), (0, u "coder"), (0, u "B"), (2, u "hash"), (0, u "I"), (2, u "hashIsZero"), (0, u "Z"), (0, .methodref 10 28), (0, .nameAndType 5 29), (0, u "([CIILjava/lang/Void;)V"), (8, .fieldref 10 39), (0, .nameAndType 40 26), (0, u "COMPACT_STRINGS"), (1, .class_ 44), (1, u "java/lang/StringUTF16"), (0, u "compress"), (1, .methodref 42 48), (0, .nameAndType 49 50), (0, u "coderFromArrayLen"), (0, u "([BI)B"), (126, .methodref 42 178), (0, .nameAndType 45 179), (0, u "([CII)[B"), (395, .class_ 576), (0, u "java/lang/CharSequence"), (22, u "CASE_INSENSITIVE_ORDER"), (0, u "Ljava/util/Comparator;"), (409, u "([C)V"), (90, u "serialPersistentFields"), (0, u "[Ljava/io/ObjectStreamField;"), (0, .class_ 1104), (0, u "java/lang/String$CaseInsensitiveComparator"), (1, .class_ 1107), (0, u "java/io/Serializable"), (0, .class_ 1109), (0, u "java/lang/Comparable"), (0, .class_ 1111), (0, u "java/lang/constant/Constable"), (0, .class_ 1113), (0, u "java/lang/constant/ConstantDesc"), (2, u "serialVersionUID"), (0, u "J"), (3, u "REPL"), (0, u "C"), (2, u "LATIN1"), (1, u "UTF16")] 323

def k7m0 : Method := { name := "<init>", desc := "()V", sig := { parameters := [], returnType := none }, accessFlags := 1, code := none }
def k7c1 : Code := { maxStack := 5, maxLocals := 2, code := jdk_42_method_3_code, exceptionTable := #[], attributes := #[] }
def k7m1 : Method := { name := "<init>", desc := "([C)V", sig := { parameters := [(.array .char)], returnType := none }, accessFlags := 1, code := some k7c1 }
def k7c2 : Code := { maxStack := 4, maxLocals := 6, code := jdk_42_method_149_code, exceptionTable := #[], attributes := #[] }
def k7m2 : Method := { name := "<init>", desc := "([CIILjava/lang/Void;)V", sig := { parameters := [(.array .char), .int, .int, (.object "java/lang/Void")], returnType := none }, accessFlags := 2, code := some k7c2 }
/-- java/lang/String -/
def k7 : Class := { plain "java/lang/String" (some 0) with
  accessFlags := 49
  interfaces := #[2, 3, 4, 5, 6]
  cf := some (fileOf pool7 10 #[.nestMembers #[1103]] #[{ accessFlags := 1, nameIndex := 5, descriptorIndex := 6, attributes := #[] }, { accessFlags := 1, nameIndex := 5, descriptorIndex := 1010, attributes := #[] }, { accessFlags := 2, nameIndex := 5, descriptorIndex := 29, attributes := #[] }] 49 2 #[1106, 1108, 575, 1110, 1112] #[{ accessFlags := 18, nameIndex := 13, descriptorIndex := 14, attributes := #[] }, { accessFlags := 18, nameIndex := 17, descriptorIndex := 18, attributes := #[] }, { accessFlags := 2, nameIndex := 21, descriptorIndex := 22, attributes := #[] }, { accessFlags := 2, nameIndex := 25, descriptorIndex := 26, attributes := #[] }, { accessFlags := 26, nameIndex := 1116, descriptorIndex := 1117, attributes := #[] }, { accessFlags := 24, nameIndex := 40, descriptorIndex := 26, attributes := #[] }, { accessFlags := 26, nameIndex := 1101, descriptorIndex := 1102, attributes := #[] }, { accessFlags := 26, nameIndex := 1121, descriptorIndex := 1122, attributes := #[] }, { accessFlags := 25, nameIndex := 599, descriptorIndex := 600, attributes := #[] }, { accessFlags := 24, nameIndex := 1125, descriptorIndex := 18, attributes := #[] }, { accessFlags := 24, nameIndex := 1127, descriptorIndex := 18, attributes := #[] }])
  fields := #[{ name := "value", type := (.array .byte), accessFlags := 18, slot := 0, constantValue := 0 }, { name := "coder", type := .byte, accessFlags := 18, slot := 1, constantValue := 0 }, { name := "hash", type := .int, accessFlags := 2, slot := 2, constantValue := 0 }, { name := "hashIsZero", type := .boolean, accessFlags := 2, slot := 3, constantValue := 0 }, { name := "serialVersionUID", type := .long, accessFlags := 26, slot := 0, constantValue := 0 }, { name := "COMPACT_STRINGS", type := .boolean, accessFlags := 24, slot := 1, constantValue := 0 }, { name := "serialPersistentFields", type := (.array (.object "java/io/ObjectStreamField")), accessFlags := 26, slot := 2, constantValue := 0 }, { name := "REPL", type := .char, accessFlags := 26, slot := 3, constantValue := 0 }, { name := "CASE_INSENSITIVE_ORDER", type := (.object "java/util/Comparator"), accessFlags := 25, slot := 4, constantValue := 0 }, { name := "LATIN1", type := .byte, accessFlags := 24, slot := 5, constantValue := 0 }, { name := "UTF16", type := .byte, accessFlags := 24, slot := 6, constantValue := 0 }]
  methods := #[k7m0, k7m1, k7m2]
  instanceTypes := #[(.array .byte), .byte, .int, .boolean]
  staticTypes := #[.long, .boolean, (.array (.object "java/io/ObjectStreamField")), .char, (.object "java/util/Comparator"), .byte, .byte]
  resolved := Array.replicate 1451 none
  statics := some 0 }

def pool8 : Array CpInfo := pool [(6, .class_ 8), (1, u "java/lang/Object"), (0, u "<init>"), (0, u "()V"), (1, .class_ 14), (1, u "java/lang/StringUTF16"), (31, u "$assertionsDisabled"), (0, u "Z"), (13, u "HI_BYTE_SHIFT"), (0, u "I"), (2, u "LO_BYTE_SHIFT"), (49, .methodref 12 116), (0, .nameAndType 117 118), (0, u "compress"), (0, u "([CI[BII)I"), (3, u "([CII)[B"), (138, u "coderFromArrayLen"), (0, u "([BI)B"), (106, .class_ 371), (1, u "java/lang/StringUTF16$LinesSpliterator"), (58, u "MAX_LENGTH"), (196, .class_ 628), (0, u "java/lang/StringUTF16$CodePointsSpliterator"), (0, .class_ 630), (0, u "java/lang/StringUTF16$CharsSpliterator")] 4

def k8m0 : Method := { name := "<init>", desc := "()V", sig := { parameters := [], returnType := none }, accessFlags := 0, code := none }
def k8c1 : Code := { maxStack := 2, maxLocals := 2, code := jdk_52_method_15_code, exceptionTable := #[], attributes := #[] }
def k8m1 : Method := { name := "coderFromArrayLen", desc := "([BI)B", sig := { parameters := [(.array .byte), .int], returnType := some .byte }, accessFlags := 8, code := some k8c1 }
def k8c2 : Code := { maxStack := 5, maxLocals := 6, code := jdk_52_method_16_code, exceptionTable := #[], attributes := #[] }
def k8m2 : Method := { name := "compress", desc := "([CII)[B", sig := { parameters := [(.array .char), .int, .int], returnType := some (.array .byte) }, accessFlags := 9, code := some k8c2 }
def k8c3 : Code := { maxStack := 3, maxLocals := 7, code := jdk_52_method_21_code, exceptionTable := #[], attributes := #[] }
def k8m3 : Method := { name := "compress", desc := "([CI[BII)I", sig := { parameters := [(.array .char), .int, (.array .byte), .int, .int], returnType := some .int }, accessFlags := 9, code := some k8c3 }
/-- java/lang/StringUTF16 -/
def k8 : Class := { plain "java/lang/StringUTF16" (some 0) with
  accessFlags := 48
  interfaces := #[]
  cf := some (fileOf pool8 12 #[.nestMembers #[627, 629, 369]] #[{ accessFlags := 0, nameIndex := 9, descriptorIndex := 10, attributes := #[] }, { accessFlags := 8, nameIndex := 261, descriptorIndex := 262, attributes := #[] }, { accessFlags := 9, nameIndex := 117, descriptorIndex := 122, attributes := #[] }, { accessFlags := 9, nameIndex := 117, descriptorIndex := 118, attributes := #[] }] 48 6 #[] #[{ accessFlags := 26, nameIndex := 61, descriptorIndex := 62, attributes := #[] }, { accessFlags := 26, nameIndex := 65, descriptorIndex := 62, attributes := #[] }, { accessFlags := 24, nameIndex := 430, descriptorIndex := 62, attributes := #[] }, { accessFlags := 4120, nameIndex := 46, descriptorIndex := 47, attributes := #[] }])
  fields := #[{ name := "HI_BYTE_SHIFT", type := .int, accessFlags := 26, slot := 0, constantValue := 0 }, { name := "LO_BYTE_SHIFT", type := .int, accessFlags := 26, slot := 1, constantValue := 0 }, { name := "MAX_LENGTH", type := .int, accessFlags := 24, slot := 2, constantValue := 0 }, { name := "$assertionsDisabled", type := .boolean, accessFlags := 4120, slot := 3, constantValue := 0 }]
  methods := #[k8m0, k8m1, k8m2, k8m3]
  instanceTypes := #[]
  staticTypes := #[.int, .int, .int, .boolean]
  resolved := Array.replicate 635 none
  statics := none }

def pool9 : Array CpInfo := pool [(1, .methodref 2 3), (0, .class_ 4), (0, .nameAndType 5 6), (0, u "java/lang/Object"), (0, u "<init>"), (0, u "()V"), (6, .class_ 14), (0, u "com/example/resolvent/resolvent/term/Term")] 15

def k9c0 : Code := { maxStack := 1, maxLocals := 1, code := prog_96_method_1_code, exceptionTable := #[], attributes := #[] }
def k9m0 : Method := { name := "<init>", desc := "()V", sig := { parameters := [], returnType := none }, accessFlags := 0, code := some k9c0 }
/-- com/example/resolvent/resolvent/term/Term -/
def k9 : Class := { plain "com/example/resolvent/resolvent/term/Term" (some 0) with
  accessFlags := 1057
  interfaces := #[]
  cf := some (fileOf pool9 13 #[] #[{ accessFlags := 0, nameIndex := 5, descriptorIndex := 6, attributes := #[] }] 1057 2 #[] #[])
  fields := #[]
  methods := #[k9m0]
  instanceTypes := #[]
  staticTypes := #[]
  resolved := Array.replicate 30 none
  statics := none }

def pool10 : Array CpInfo := pool [(1, .methodref 2 3), (0, .class_ 4), (0, .nameAndType 5 6), (0, u "com/example/resolvent/resolvent/term/Term"), (0, u "<init>"), (0, u "()V"), (0, .string 8), (0, u "name"), (0, .methodref 10 11), (0, .class_ 12), (0, .nameAndType 13 14), (0, u "java/util/Objects"), (0, u "requireNonNull"), (0, u "(Ljava/lang/Object;Ljava/lang/String;)Ljava/lang/Object;"), (0, .class_ 16), (0, u "java/lang/String"), (0, .fieldref 18 19), (0, .class_ 20), (0, .nameAndType 8 21), (0, u "com/example/resolvent/resolvent/term/Atom"), (0, u "Ljava/lang/String;"), (2, u "EMPTY_LIST"), (0, u "Lcom/example/resolvent/resolvent/term/Atom;"), (8, u "(Ljava/lang/String;)V"), (4, u "CURLY_BRACKETS")] 8

def k10c0 : Code := { maxStack := 3, maxLocals := 2, code := prog_86_method_1_code, exceptionTable := #[], attributes := #[] }
def k10m0 : Method := { name := "<init>", desc := "(Ljava/lang/String;)V", sig := { parameters := [(.object "java/lang/String")], returnType := none }, accessFlags := 1, code := some k10c0 }
/-- com/example/resolvent/resolvent/term/Atom -/
def k10 : Class := { plain "com/example/resolvent/resolvent/term/Atom" (some 9) with
  accessFlags := 49
  interfaces := #[]
  cf := some (fileOf pool10 18 #[] #[{ accessFlags := 1, nameIndex := 5, descriptorIndex := 34, attributes := #[] }] 49 2 #[] #[{ accessFlags := 25, nameIndex := 24, descriptorIndex := 25, attributes := #[] }, { accessFlags := 24, nameIndex := 39, descriptorIndex := 25, attributes := #[] }, { accessFlags := 18, nameIndex := 8, descriptorIndex := 21, attributes := #[] }])
  fields := #[{ name := "EMPTY_LIST", type := (.object "com/example/resolvent/resolvent/term/Atom"), accessFlags := 25, slot := 0, constantValue := 0 }, { name := "CURLY_BRACKETS", type := (.object "com/example/resolvent/resolvent/term/Atom"), accessFlags := 24, slot := 1, constantValue := 0 }, { name := "name", type := (.object "java/lang/String"), accessFlags := 18, slot := 0, constantValue := 0 }]
  methods := #[k10m0]
  instanceTypes := #[(.object "java/lang/String")]
  staticTypes := #[(.object "com/example/resolvent/resolvent/term/Atom"), (.object "com/example/resolvent/resolvent/term/Atom")]
  resolved := Array.replicate 48 none
  statics := none }

def pool11 : Array CpInfo := pool [(2, .class_ 4), (1, u "java/lang/Object"), (0, u "<init>"), (0, u "()V"), (35, .class_ 44), (1, u "java/util/Objects"), (0, u "requireNonNull"), (48, u "(Ljava/lang/Object;Ljava/lang/String;)Ljava/lang/Object;")] 89

def k11m0 : Method := { name := "<init>", desc := "()V", sig := { parameters := [], returnType := none }, accessFlags := 2, code := none }
def k11c1 : Code := { maxStack := 3, maxLocals := 2, code := jdk_31_method_11_code, exceptionTable := #[], attributes := #[] }
def k11m1 : Method := { name := "requireNonNull", desc := "(Ljava/lang/Object;Ljava/lang/String;)Ljava/lang/Object;", sig := { parameters := [(.object "java/lang/Object"), (.object "java/lang/String")], returnType := some (.object "java/lang/Object") }, accessFlags := 9, code := some k11c1 }
/-- java/util/Objects -/
def k11 : Class := { plain "java/util/Objects" (some 0) with
  accessFlags := 49
  interfaces := #[]
  cf := some (fileOf pool11 42 #[] #[{ accessFlags := 2, nameIndex := 5, descriptorIndex := 6, attributes := #[] }, { accessFlags := 9, nameIndex := 45, descriptorIndex := 94, attributes := #[] }] 49 2 #[] #[])
  fields := #[]
  methods := #[k11m0, k11m1]
  instanceTypes := #[]
  staticTypes := #[]
  resolved := Array.replicate 184 none
  statics := none }

def pool12 : Array CpInfo := pool [(2, .class_ 4), (1, u "java/lang/Object"), (0, u "<init>"), (0, u "()V"), (4, .class_ 13), (1, u "com/example/resolvent/resolvent/model/Relation"), (0, u "atoms"), (0, u "Ljava/util/List;"), (5, u "written"), (0, u "Ljava/util/Set;"), (5, u "byConstant"), (0, u "Ljava/util/Map;"), (56, .class_ 87), (0, u "com/example/resolvent/resolvent/term/Atom"), (0, .class_ 89), (0, u "com/example/resolvent/resolvent/term/Int"), (2, u "end"), (0, u "I"), (2, u "delta"), (7, .class_ 106), (1, u "com/example/resolvent/resolvent/model/Relation$Span"), (31, u "isConstant"), (0, u "(Lcom/example/resolvent/resolvent/term/Term;)Z")] 50

def k12m0 : Method := { name := "<init>", desc := "()V", sig := { parameters := [], returnType := none }, accessFlags := 0, code := none }
def k12c1 : Code := { maxStack := 1, maxLocals := 1, code := prog_27_method_3_code, exceptionTable := #[], attributes := #[] }
def k12m1 : Method := { name := "isConstant", desc := "(Lcom/example/resolvent/resolvent/term/Term;)Z", sig := { parameters := [(.object "com/example/resolvent/resolvent/term/Term")], returnType := some .boolean }, accessFlags := 8, code := some k12c1 }
/-- com/example/resolvent/resolvent/model/Relation -/
def k12 : Class := { plain "com/example/resolvent/resolvent/model/Relation" (some 0) with
  accessFlags := 48
  interfaces := #[]
  cf := some (fileOf pool12 11 #[.nestMembers #[104]] #[{ accessFlags := 0, nameIndex := 5, descriptorIndex := 6, attributes := #[] }, { accessFlags := 8, nameIndex := 138, descriptorIndex := 139, attributes := #[] }] 48 2 #[] #[{ accessFlags := 18, nameIndex := 14, descriptorIndex := 15, attributes := #[] }, { accessFlags := 18, nameIndex := 21, descriptorIndex := 22, attributes := #[] }, { accessFlags := 18, nameIndex := 28, descriptorIndex := 29, attributes := #[] }, { accessFlags := 2, nameIndex := 96, descriptorIndex := 93, attributes := #[] }, { accessFlags := 2, nameIndex := 92, descriptorIndex := 93, attributes := #[] }])
  fields := #[{ name := "atoms", type := (.object "java/util/List"), accessFlags := 18, slot := 0, constantValue := 0 }, { name := "written", type := (.object "java/util/Set"), accessFlags := 18, slot := 1, constantValue := 0 }, { name := "byConstant", type := (.object "java/util/Map"), accessFlags := 18, slot := 2, constantValue := 0 }, { name := "delta", type := .int, accessFlags := 2, slot := 3, constantValue := 0 }, { name := "end", type := .int, accessFlags := 2, slot := 4, constantValue := 0 }]
  methods := #[k12m0, k12m1]
  instanceTypes := #[(.object "java/util/List"), (.object "java/util/Set"), (.object "java/util/Map"), .int, .int]
  staticTypes := #[]
  resolved := Array.replicate 190 none
  statics := none }

def pool13 : Array CpInfo := pool [(1, .methodref 2 3), (0, .class_ 4), (0, .nameAndType 5 6), (0, u "com/example/resolvent/resolvent/term/Compound"), (0, u "checked"), (0, u "(Ljava/lang/String;[Lcom/example/resolvent/resolvent/term/Term;)[Lcom/example/resolvent/resolvent/term/Term;"), (0, .methodref 2 8), (0, .nameAndType 9 10), (0, u "<init>"), (0, u "([Lcom/example/resolvent/resolvent/term/Term;Ljava/lang/String;)V"), (0, .methodref 2 12), (0, .nameAndType 9 13), (0, u "(Ljava/lang/String;ILcom/example/resolvent/resolvent/term/Term;Lcom/example/resolvent/resolvent/term/Term;[Lcom/example/resolvent/resolvent/term/Term;)V"), (7, u "[Lcom/example/resolvent/resolvent/term/Term;"), (0, .methodref 23 24), (0, .class_ 25), (0, .nameAndType 9 26), (0, u "com/example/resolvent/resolvent/term/Term"), (0, u "()V"), (0, .fieldref 2 28), (0, .nameAndType 29 30), (0, u "name"), (0, u "Ljava/lang/String;"), (0, .fieldref 2 32), (0, .nameAndType 33 34), (0, u "arity"), (0, u "I"), (0, .fieldref 2 36), (0, .nameAndType 37 38), (0, u "first"), (0, u "Lcom/example/resolvent/resolvent/term/Term;"), (0, .fieldref 2 40), (0, .nameAndType 41 38), (0, u "second"), (0, .fieldref 2 43), (0, .nameAndType 44 21), (0, u "more"), (0, .string 29), (0, .methodref 47 48), (0, .class_ 49), (0, .nameAndType 50 51), (0, u "java/util/Objects"), (0, u "requireNonNull"), (0, u "(Ljava/lang/Object;Ljava/lang/String;)Ljava/lang/Object;"), (9, .string 62), (0, u "argument"), (4, u "(Ljava/lang/String;[Lcom/example/resolvent/resolvent/term/Term;)V"), (15, u "LIST_CELL")] 32

def k13c0 : Code := { maxStack := 3, maxLocals := 3, code := prog_88_method_1_code, exceptionTable := #[], attributes := #[] }
def k13m0 : Method := { name := "<init>", desc := "(Ljava/lang/String;[Lcom/example/resolvent/resolvent/term/Term;)V", sig := { parameters := [(.object "java/lang/String"), (.array (.object "com/example/resolvent/resolvent/term/Term"))], returnType := none }, accessFlags := 129, code := some k13c0 }
def k13c1 : Code := { maxStack := 8, maxLocals := 3, code := prog_88_method_4_code, exceptionTable := #[], attributes := #[] }
def k13m1 : Method := { name := "<init>", desc := "([Lcom/example/resolvent/resolvent/term/Term;Ljava/lang/String;)V", sig := { parameters := [(.array (.object "com/example/resolvent/resolvent/term/Term")), (.object "java/lang/String")], returnType := none }, accessFlags := 2, code := some k13c1 }
def k13c2 : Code := { maxStack := 2, maxLocals := 6, code := prog_88_method_5_code, exceptionTable := #[], attributes := #[] }
def k13m2 : Method := { name := "<init>", desc := "(Ljava/lang/String;ILcom/example/resolvent/resolvent/term/Term;Lcom/example/resolvent/resolvent/term/Term;[Lcom/example/resolvent/resolvent/term/Term;)V", sig := { parameters := [(.object "java/lang/String"), .int, (.object "com/example/resolvent/resolvent/term/Term"), (.object "com/example/resolvent/resolvent/term/Term"), (.array (.object "com/example/resolvent/resolvent/term/Term"))], returnType := none }, accessFlags := 2, code := some k13c2 }
def k13c3 : Code := { maxStack := 3, maxLocals := 6, code := prog_88_method_6_code, exceptionTable := #[], attributes := #[] }
def k13m3 : Method := { name := "checked", desc := "(Ljava/lang/String;[Lcom/example/resolvent/resolvent/term/Term;)[Lcom/example/resolvent/resolvent/term/Term;", sig := { parameters := [(.object "java/lang/String"), (.array (.object "com/example/resolvent/resolvent/term/Term"))], returnType := some (.array (.object "com/example/resolvent/resolvent/term/Term")) }, accessFlags := 10, code := some k13c3 }
/-- com/example/resolvent/resolvent/term/Compound -/
def k13 : Class := { plain "com/example/resolvent/resolvent/term/Compound" (some 9) with
  accessFlags := 49
  interfaces := #[]
  cf := some (fileOf pool13 2 #[] #[{ accessFlags := 129, nameIndex := 9, descriptorIndex := 67, attributes := #[] }, { accessFlags := 2, nameIndex := 9, descriptorIndex := 10, attributes := #[] }, { accessFlags := 2, nameIndex := 9, descriptorIndex := 13, attributes := #[] }, { accessFlags := 10, nameIndex := 5, descriptorIndex := 6, attributes := #[] }] 49 23 #[] #[{ accessFlags := 25, nameIndex := 83, descriptorIndex := 30, attributes := #[] }, { accessFlags := 2, nameIndex := 29, descriptorIndex := 30, attributes := #[] }, { accessFlags := 2, nameIndex := 33, descriptorIndex := 34, attributes := #[] }, { accessFlags := 2, nameIndex := 37, descriptorIndex := 38, attributes := #[] }, { accessFlags := 2, nameIndex := 41, descriptorIndex := 38, attributes := #[] }, { accessFlags := 2, nameIndex := 44, descriptorIndex := 21, attributes := #[] }])
  fields := #[{ name := "LIST_CELL", type := (.object "java/lang/String"), accessFlags := 25, slot := 0, constantValue := 0 }, { name := "name", type := (.object "java/lang/String"), accessFlags := 2, slot := 0, constantValue := 0 }, { name := "arity", type := .int, accessFlags := 2, slot := 1, constantValue := 0 }, { name := "first", type := (.object "com/example/resolvent/resolvent/term/Term"), accessFlags := 2, slot := 2, constantValue := 0 }, { name := "second", type := (.object "com/example/resolvent/resolvent/term/Term"), accessFlags := 2, slot := 3, constantValue := 0 }, { name := "more", type := (.array (.object "com/example/resolvent/resolvent/term/Term")), accessFlags := 2, slot := 4, constantValue := 0 }]
  methods := #[k13m0, k13m1, k13m2, k13m3]
  instanceTypes := #[(.object "java/lang/String"), .int, (.object "com/example/resolvent/resolvent/term/Term"), (.object "com/example/resolvent/resolvent/term/Term"), (.array (.object "com/example/resolvent/resolvent/term/Term"))]
  staticTypes := #[(.object "java/lang/String")]
  resolved := Array.replicate 116 none
  statics := none }

def pool14 : Array CpInfo := pool [(1, .methodref 2 3), (0, .class_ 4), (0, .nameAndType 5 6), (0, u "com/example/resolvent/resolvent/term/Term"), (0, u "<init>"), (0, u "()V"), (0, .string 8), (0, u "value"), (0, .methodref 10 11), (0, .class_ 12), (0, .nameAndType 13 14), (0, u "java/util/Objects"), (0, u "requireNonNull"), (0, u "(Ljava/lang/Object;Ljava/lang/String;)Ljava/lang/Object;"), (0, .class_ 16), (0, u "java/math/BigInteger"), (0, .fieldref 18 19), (0, .class_ 20), (0, .nameAndType 8 21), (0, u "com/example/resolvent/resolvent/term/Int"), (0, u "Ljava/math/BigInteger;"), (0, u "(Ljava/math/BigInteger;)V")] 5

def k14c0 : Code := { maxStack := 3, maxLocals := 2, code := prog_89_method_1_code, exceptionTable := #[], attributes := #[] }
def k14m0 : Method := { name := "<init>", desc := "(Ljava/math/BigInteger;)V", sig := { parameters := [(.object "java/math/BigInteger")], returnType := none }, accessFlags := 1, code := some k14c0 }
/-- com/example/resolvent/resolvent/term/Int -/
def k14 : Class := { plain "com/example/resolvent/resolvent/term/Int" (some 9) with
  accessFlags := 49
  interfaces := #[]
  cf := some (fileOf pool14 18 #[] #[{ accessFlags := 1, nameIndex := 5, descriptorIndex := 22, attributes := #[] }] 49 2 #[] #[{ accessFlags := 2, nameIndex := 8, descriptorIndex := 21, attributes := #[] }])
  fields := #[{ name := "value", type := (.object "java/math/BigInteger"), accessFlags := 2, slot := 0, constantValue := 0 }]
  methods := #[k14m0]
  instanceTypes := #[(.object "java/math/BigInteger")]
  staticTypes := #[]
  resolved := Array.replicate 28 none
  statics := none }

def pool15 : Array CpInfo := pool [(1, .methodref 2 3), (0, .class_ 4), (0, .nameAndType 5 6), (0, u "java/lang/Object"), (0, u "<init>"), (0, u "()V"), (1, .class_ 10), (1, u "java/lang/Number"), (2, .class_ 14), (0, u "java/io/Serializable"), (0, u "serialVersionUID"), (0, u "J")] 20

def k15c0 : Code := { maxStack := 1, maxLocals := 1, code := jdk_18_method_1_code, exceptionTable := #[], attributes := #[] }
def k15m0 : Method := { name := "<init>", desc := "()V", sig := { parameters := [], returnType := none }, accessFlags := 1, code := some k15c0 }
/-- java/lang/Number -/
def k15 : Class := { plain "java/lang/Number" (some 0) with
  accessFlags := 1057
  interfaces := #[2]
  cf := some (fileOf pool15 8 #[] #[{ accessFlags := 1, nameIndex := 5, descriptorIndex := 6, attributes := #[] }] 1057 2 #[13] #[{ accessFlags := 26, nameIndex := 15, descriptorIndex := 16, attributes := #[] }])
  fields := #[{ name := "serialVersionUID", type := .long, accessFlags := 26, slot := 0, constantValue := 0 }]
  methods := #[k15m0]
  instanceTypes := #[]
  staticTypes := #[.long]
  resolved := Array.replicate 37 none
  statics := none }

def pool16 : Array CpInfo := pool [(3, .methodref 4 5), (0, .class_ 6), (0, .nameAndType 7 8), (0, u "java/lang/Number"), (0, u "<init>"), (0, u "()V"), (13, .fieldref 23 24), (0, .class_ 25), (0, .nameAndType 26 27), (0, u "java/math/BigInteger"), (0, u "ZERO"), (0, u "Ljava/math/BigInteger;"), (0, .fieldref 23 29), (0, .nameAndType 30 31), (0, u "mag"), (0, u "[I"), (0, .fieldref 23 33), (0, .nameAndType 34 35), (0, u "signum"), (0, u "I"), (59, u "bitsPerDigit"), (0, u "[J"), (9, u "digitsPerInt"), (12, u "intRadix"), (60, u "SMALL_PRIME_PRODUCT"), (56, u "valueOf"), (0, u "(J)Ljava/math/BigInteger;"), (21, u "ONE"), (6, u "TWO"), (43, u "$assertionsDisabled"), (0, u "Z"), (32, .long 16), (1, .fieldref 23 348), (0, .nameAndType 349 350), (0, u "posConst"), (0, u "[Ljava/math/BigInteger;"), (0, .long 18446744073709551600), (1, .fieldref 23 354), (0, .nameAndType 355 350), (0, u "negConst"), (0, .methodref 23 357), (0, .nameAndType 7 358), (0, u "(J)V"), (113, .class_ 474), (1, u "java/math/BigInteger$RecursiveOp"), (106, u "NEGATIVE_ONE"), (91, u "bnExpModThreshTable"), (72, u "lowestSetBitPlusTwo"), (2, u "bitLengthPlusOne"), (2, u "bitCountPlusOne"), (6, u "LOG_TWO"), (0, u "D"), (2, u "logCache"), (0, u "[D"), (13, u "NUM_ZEROS"), (2, u "ZEROS"), (0, u "Ljava/lang/String;"), (9, u "longRadix"), (5, u "digitsPerLong"), (22, u "powerCache"), (0, u "[[Ljava/math/BigInteger;"), (45, u "firstNonzeroIntNumPlusTwo"), (38, .class_ 909), (1, u "java/math/BigInteger$UnsafeHolder"), (141, u "TEN"), (106, u "serialPersistentFields"), (0, u "[Ljava/io/ObjectStreamField;"), (0, .class_ 1161), (0, u "java/lang/Comparable"), (0, u "LONG_MASK"), (0, u "J"), (1, u "MAX_MAG_LENGTH"), (0, u "PRIME_SEARCH_BIT_LENGTH_LIMIT"), (1, u "KARATSUBA_THRESHOLD"), (1, u "TOOM_COOK_THRESHOLD"), (1, u "KARATSUBA_SQUARE_THRESHOLD"), (1, u "TOOM_COOK_SQUARE_THRESHOLD"), (1, u "BURNIKEL_ZIEGLER_THRESHOLD"), (0, u "BURNIKEL_ZIEGLER_OFFSET"), (1, u "SCHOENHAGE_BASE_CONVERSION_THRESHOLD"), (1, u "MULTIPLY_SQUARE_THRESHOLD"), (0, u "MONTGOMERY_INTRINSIC_THRESHOLD"), (1, u "SMALL_PRIME_THRESHOLD"), (1, u "DEFAULT_PRIME_CERTAINTY"), (1, u "MAX_CONSTANT"), (3, u "serialVersionUID"), (338, .class_ 1532), (0, u "java/math/BigInteger$RecursiveOp$RecursiveSquare"), (0, .class_ 1534), (0, u "java/math/BigInteger$RecursiveOp$RecursiveMultiply")] 7

def k16c0 : Code := { maxStack := 4, maxLocals := 2, code := jdk_2097_method_29_code, exceptionTable := #[], attributes := #[] }
def k16m0 : Method := { name := "valueOf", desc := "(J)Ljava/math/BigInteger;", sig := { parameters := [.long], returnType := some (.object "java/math/BigInteger") }, accessFlags := 9, code := some k16c0 }
def k16c1 : Code := { maxStack := 4, maxLocals := 4, code := jdk_2097_method_30_code, exceptionTable := #[], attributes := #[] }
def k16m1 : Method := { name := "<init>", desc := "(J)V", sig := { parameters := [.long], returnType := none }, accessFlags := 2, code := some k16c1 }
/-- java/math/BigInteger -/
def k16 : Class := { plain "java/math/BigInteger" (some 15) with
  accessFlags := 33
  interfaces := #[3]
  cf := some (fileOf pool16 23 #[.nestMembers #[907, 472, 1531, 1533]] #[{ accessFlags := 9, nameIndex := 237, descriptorIndex := 238, attributes := #[] }, { accessFlags := 2, nameIndex := 7, descriptorIndex := 358, attributes := #[] }] 33 4 #[1160] #[{ accessFlags := 16, nameIndex := 34, descriptorIndex := 35, attributes := #[] }, { accessFlags := 16, nameIndex := 30, descriptorIndex := 31, attributes := #[] }, { accessFlags := 2, nameIndex := 752, descriptorIndex := 35, attributes := #[] }, { accessFlags := 2, nameIndex := 749, descriptorIndex := 35, attributes := #[] }, { accessFlags := 2, nameIndex := 746, descriptorIndex := 35, attributes := #[] }, { accessFlags := 2, nameIndex := 868, descriptorIndex := 35, attributes := #[] }, { accessFlags := 24, nameIndex := 1162, descriptorIndex := 1163, attributes := #[] }, { accessFlags := 26, nameIndex := 1165, descriptorIndex := 35, attributes := #[] }, { accessFlags := 26, nameIndex := 1166, descriptorIndex := 35, attributes := #[] }, { accessFlags := 26, nameIndex := 1168, descriptorIndex := 35, attributes := #[] }, { accessFlags := 26, nameIndex := 1170, descriptorIndex := 35, attributes := #[] }, { accessFlags := 26, nameIndex := 1172, descriptorIndex := 35, attributes := #[] }, { accessFlags := 26, nameIndex := 1174, descriptorIndex := 35, attributes := #[] }, { accessFlags := 24, nameIndex := 1176, descriptorIndex := 35, attributes := #[] }, { accessFlags := 24, nameIndex := 1177, descriptorIndex := 35, attributes := #[] }, { accessFlags := 26, nameIndex := 1179, descriptorIndex := 35, attributes := #[] }, { accessFlags := 26, nameIndex := 1181, descriptorIndex := 35, attributes := #[] }, { accessFlags := 26, nameIndex := 1182, descriptorIndex := 35, attributes := #[] }, { accessFlags := 10, nameIndex := 95, descriptorIndex := 96, attributes := #[] }, { accessFlags := 26, nameIndex := 1184, descriptorIndex := 35, attributes := #[] }, { accessFlags := 26, nameIndex := 1186, descriptorIndex := 35, attributes := #[] }, { accessFlags := 26, nameIndex := 180, descriptorIndex := 27, attributes := #[] }, { accessFlags := 26, nameIndex := 1188, descriptorIndex := 35, attributes := #[] }, { accessFlags := 26, nameIndex := 349, descriptorIndex := 350, attributes := #[] }, { accessFlags := 26, nameIndex := 355, descriptorIndex := 350, attributes := #[] }, { accessFlags := 74, nameIndex := 821, descriptorIndex := 822, attributes := #[] }, { accessFlags := 26, nameIndex := 763, descriptorIndex := 764, attributes := #[] }, { accessFlags := 26, nameIndex := 759, descriptorIndex := 760, attributes := #[] }, { accessFlags := 25, nameIndex := 26, descriptorIndex := 27, attributes := #[] }, { accessFlags := 25, nameIndex := 260, descriptorIndex := 27, attributes := #[] }, { accessFlags := 25, nameIndex := 267, descriptorIndex := 27, attributes := #[] }, { accessFlags := 26, nameIndex := 581, descriptorIndex := 27, attributes := #[] }, { accessFlags := 25, nameIndex := 1051, descriptorIndex := 27, attributes := #[] }, { accessFlags := 8, nameIndex := 673, descriptorIndex := 31, attributes := #[] }, { accessFlags := 10, nameIndex := 778, descriptorIndex := 35, attributes := #[] }, { accessFlags := 26, nameIndex := 781, descriptorIndex := 782, attributes := #[] }, { accessFlags := 10, nameIndex := 798, descriptorIndex := 31, attributes := #[] }, { accessFlags := 10, nameIndex := 792, descriptorIndex := 350, attributes := #[] }, { accessFlags := 10, nameIndex := 106, descriptorIndex := 31, attributes := #[] }, { accessFlags := 10, nameIndex := 119, descriptorIndex := 31, attributes := #[] }, { accessFlags := 26, nameIndex := 1192, descriptorIndex := 1163, attributes := #[] }, { accessFlags := 26, nameIndex := 1158, descriptorIndex := 1159, attributes := #[] }, { accessFlags := 4120, nameIndex := 311, descriptorIndex := 312, attributes := #[] }])
  fields := #[{ name := "signum", type := .int, accessFlags := 16, slot := 0, constantValue := 0 }, { name := "mag", type := (.array .int), accessFlags := 16, slot := 1, constantValue := 0 }, { name := "bitCountPlusOne", type := .int, accessFlags := 2, slot := 2, constantValue := 0 }, { name := "bitLengthPlusOne", type := .int, accessFlags := 2, slot := 3, constantValue := 0 }, { name := "lowestSetBitPlusTwo", type := .int, accessFlags := 2, slot := 4, constantValue := 0 }, { name := "firstNonzeroIntNumPlusTwo", type := .int, accessFlags := 2, slot := 5, constantValue := 0 }, { name := "LONG_MASK", type := .long, accessFlags := 24, slot := 0, constantValue := 0 }, { name := "MAX_MAG_LENGTH", type := .int, accessFlags := 26, slot := 1, constantValue := 0 }, { name := "PRIME_SEARCH_BIT_LENGTH_LIMIT", type := .int, accessFlags := 26, slot := 2, constantValue := 0 }, { name := "KARATSUBA_THRESHOLD", type := .int, accessFlags := 26, slot := 3, constantValue := 0 }, { name := "TOOM_COOK_THRESHOLD", type := .int, accessFlags := 26, slot := 4, constantValue := 0 }, { name := "KARATSUBA_SQUARE_THRESHOLD", type := .int, accessFlags := 26, slot := 5, constantValue := 0 }, { name := "TOOM_COOK_SQUARE_THRESHOLD", type := .int, accessFlags := 26, slot := 6, constantValue := 0 }, { name := "BURNIKEL_ZIEGLER_THRESHOLD", type := .int, accessFlags := 24, slot := 7, constantValue := 0 }, { name := "BURNIKEL_ZIEGLER_OFFSET", type := .int, accessFlags := 24, slot := 8, constantValue := 0 }, { name := "SCHOENHAGE_BASE_CONVERSION_THRESHOLD", type := .int, accessFlags := 26, slot := 9, constantValue := 0 }, { name := "MULTIPLY_SQUARE_THRESHOLD", type := .int, accessFlags := 26, slot := 10, constantValue := 0 }, { name := "MONTGOMERY_INTRINSIC_THRESHOLD", type := .int, accessFlags := 26, slot := 11, constantValue := 0 }, { name := "bitsPerDigit", type := (.array .long), accessFlags := 10, slot := 12, constantValue := 0 }, { name := "SMALL_PRIME_THRESHOLD", type := .int, accessFlags := 26, slot := 13, constantValue := 0 }, { name := "DEFAULT_PRIME_CERTAINTY", type := .int, accessFlags := 26, slot := 14, constantValue := 0 }, { name := "SMALL_PRIME_PRODUCT", type := (.object "java/math/BigInteger"), accessFlags := 26, slot := 15, constantValue := 0 }, { name := "MAX_CONSTANT", type := .int, accessFlags := 26, slot := 16, constantValue := 0 }, { name := "posConst", type := (.array (.object "java/math/BigInteger")), accessFlags := 26, slot := 17, constantValue := 0 }, { name := "negConst", type := (.array (.object "java/math/BigInteger")), accessFlags := 26, slot := 18, constantValue := 0 }, { name := "powerCache", type := (.array (.array (.object "java/math/BigInteger"))), accessFlags := 74, slot := 19, constantValue := 0 }, { name := "logCache", type := (.array .double), accessFlags := 26, slot := 20, constantValue := 0 }, { name := "LOG_TWO", type := .double, accessFlags := 26, slot := 21, constantValue := 0 }, { name := "ZERO", type := (.object "java/math/BigInteger"), accessFlags := 25, slot := 22, constantValue := 0 }, { name := "ONE", type := (.object "java/math/BigInteger"), accessFlags := 25, slot := 23, constantValue := 0 }, { name := "TWO", type := (.object "java/math/BigInteger"), accessFlags := 25, slot := 24, constantValue := 0 }, { name := "NEGATIVE_ONE", type := (.object "java/math/BigInteger"), accessFlags := 26, slot := 25, constantValue := 0 }, { name := "TEN", type := (.object "java/math/BigInteger"), accessFlags := 25, slot := 26, constantValue := 0 }, { name := "bnExpModThreshTable", type := (.array .int), accessFlags := 8, slot := 27, constantValue := 0 }, { name := "NUM_ZEROS", type := .int, accessFlags := 10, slot := 28, constantValue := 0 }, { name := "ZEROS", type := (.object "java/lang/String"), accessFlags := 26, slot := 29, constantValue := 0 }, { name := "digitsPerLong", type := (.array .int), accessFlags := 10, slot := 30, constantValue := 0 }, { name := "longRadix", type := (.array (.object "java/math/BigInteger")), accessFlags := 10, slot := 31, constantValue := 0 }, { name := "digitsPerInt", type := (.array .int), accessFlags := 10, slot := 32, constantValue := 0 }, { name := "intRadix", type := (.array .int), accessFlags := 10, slot := 33, constantValue := 0 }, { name := "serialVersionUID", type := .long, accessFlags := 26, slot := 34, constantValue := 0 }, { name := "serialPersistentFields", type := (.array (.object "java/io/ObjectStreamField")), accessFlags := 26, slot := 35, constantValue := 0 }, { name := "$assertionsDisabled", type := .boolean, accessFlags := 4120, slot := 36, constantValue := 0 }]
  methods := #[k16m0, k16m1]
  instanceTypes := #[.int, (.array .int), .int, .int, .int, .int]
  staticTypes := #[.long, .int, .int, .int, .int, .int, .int, .int, .int, .int, .int, .int, (.array .long), .int, .int, (.object "java/math/BigInteger"), .int, (.array (.object "java/math/BigInteger")), (.array (.object "java/math/BigInteger")), (.array (.array (.object "java/math/BigInteger"))), (.array .double), .double, (.object "java/math/BigInteger"), (.object "java/math/BigInteger"), (.object "java/math/BigInteger"), (.object "java/math/BigInteger"), (.object "java/math/BigInteger"), (.array .int), .int, (.object "java/lang/String"), (.array .int), (.array (.object "java/math/BigInteger")), (.array .int), (.array .int), .long, (.array (.object "java/io/ObjectStreamField")), .boolean]
  resolved := Array.replicate 1542 none
  statics := some 1 }

def pool17 : Array CpInfo := pool [(1, .methodref 2 3), (0, .class_ 4), (0, .nameAndType 5 6), (0, u "com/example/resolvent/resolvent/term/Variable"), (0, u "<init>"), (0, u "(Ljava/lang/String;Lcom/example/resolvent/resolvent/term/VariableStore;J)V"), (0, .methodref 8 9), (0, .class_ 10), (0, .nameAndType 5 11), (0, u "com/example/resolvent/resolvent/term/Term"), (0, u "()V"), (0, .string 13), (0, u "name"), (0, .methodref 15 16), (0, .class_ 17), (0, .nameAndType 18 19), (0, u "java/util/Objects"), (0, u "requireNonNull"), (0, u "(Ljava/lang/Object;Ljava/lang/String;)Ljava/lang/Object;"), (0, .class_ 21), (0, u "java/lang/String"), (0, .fieldref 2 23), (0, .nameAndType 13 24), (0, u "Ljava/lang/String;"), (0, .fieldref 2 26), (0, .nameAndType 27 28), (0, u "store"), (0, u "Lcom/example/resolvent/resolvent/term/VariableStore;"), (0, .fieldref 2 30), (0, .nameAndType 31 32), (0, u "serial"), (0, u "J"), (0, u "value"), (0, u "Lcom/example/resolvent/resolvent/term/Term;"), (0, u "stamp"), (0, u "(Ljava/lang/String;)V")] 5

def k17c0 : Code := { maxStack := 5, maxLocals := 2, code := prog_121_method_1_code, exceptionTable := #[], attributes := #[] }
def k17m0 : Method := { name := "<init>", desc := "(Ljava/lang/String;)V", sig := { parameters := [(.object "java/lang/String")], returnType := none }, accessFlags := 1, code := some k17c0 }
def k17c1 : Code := { maxStack := 3, maxLocals := 5, code := prog_121_method_2_code, exceptionTable := #[], attributes := #[] }
def k17m1 : Method := { name := "<init>", desc := "(Ljava/lang/String;Lcom/example/resolvent/resolvent/term/VariableStore;J)V", sig := { parameters := [(.object "java/lang/String"), (.object "com/example/resolvent/resolvent/term/VariableStore"), .long], returnType := none }, accessFlags := 0, code := some k17c1 }
/-- com/example/resolvent/resolvent/term/Variable -/
def k17 : Class := { plain "com/example/resolvent/resolvent/term/Variable" (some 9) with
  accessFlags := 49
  interfaces := #[]
  cf := some (fileOf pool17 2 #[] #[{ accessFlags := 1, nameIndex := 5, descriptorIndex := 36, attributes := #[] }, { accessFlags := 0, nameIndex := 5, descriptorIndex := 6, attributes := #[] }] 49 8 #[] #[{ accessFlags := 2, nameIndex := 13, descriptorIndex := 24, attributes := #[] }, { accessFlags := 0, nameIndex := 27, descriptorIndex := 28, attributes := #[] }, { accessFlags := 0, nameIndex := 31, descriptorIndex := 32, attributes := #[] }, { accessFlags := 0, nameIndex := 33, descriptorIndex := 34, attributes := #[] }, { accessFlags := 0, nameIndex := 35, descriptorIndex := 32, attributes := #[] }])
  fields := #[{ name := "name", type := (.object "java/lang/String"), accessFlags := 2, slot := 0, constantValue := 0 }, { name := "store", type := (.object "com/example/resolvent/resolvent/term/VariableStore"), accessFlags := 0, slot := 1, constantValue := 0 }, { name := "serial", type := .long, accessFlags := 0, slot := 2, constantValue := 0 }, { name := "value", type := (.object "com/example/resolvent/resolvent/term/Term"), accessFlags := 0, slot := 3, constantValue := 0 }, { name := "stamp", type := .long, accessFlags := 0, slot := 4, constantValue := 0 }]
  methods := #[k17m0, k17m1]
  instanceTypes := #[(.object "java/lang/String"), (.object "com/example/resolvent/resolvent/term/VariableStore"), .long, (.object "com/example/resolvent/resolvent/term/Term"), .long]
  staticTypes := #[]
  resolved := Array.replicate 42 none
  statics := none }

def pool18 : Array CpInfo := pool [(2, .class_ 4), (1, u "java/lang/Object"), (0, u "<init>"), (0, u "()V"), (17, .class_ 26), (1, u "jdk/internal/util/Preconditions"), (28, .class_ 56), (0, u "jdk/internal/util/Preconditions$4"), (57, .class_ 115), (0, u "jdk/internal/util/Preconditions$1"), (7, u "SIOOBE_FORMATTER"), (0, u "Ljava/util/function/BiFunction;"), (0, .class_ 126), (0, u "jdk/internal/util/Preconditions$2"), (3, u "AIOOBE_FORMATTER"), (0, .class_ 132), (0, u "jdk/internal/util/Preconditions$3"), (3, u "IOOBE_FORMATTER")] 57

def k18m0 : Method := { name := "<init>", desc := "()V", sig := { parameters := [], returnType := none }, accessFlags := 1, code := none }
/-- jdk/internal/util/Preconditions -/
def k18 : Class := { plain "jdk/internal/util/Preconditions" (some 0) with
  accessFlags := 33
  interfaces := #[]
  cf := some (fileOf pool18 24 #[.nestMembers #[55, 131, 125, 114]] #[{ accessFlags := 1, nameIndex := 5, descriptorIndex := 6, attributes := #[] }] 33 2 #[] #[{ accessFlags := 25, nameIndex := 123, descriptorIndex := 124, attributes := #[] }, { accessFlags := 25, nameIndex := 130, descriptorIndex := 124, attributes := #[] }, { accessFlags := 25, nameIndex := 136, descriptorIndex := 124, attributes := #[] }])
  fields := #[{ name := "SIOOBE_FORMATTER", type := (.object "java/util/function/BiFunction"), accessFlags := 25, slot := 0, constantValue := 0 }, { name := "AIOOBE_FORMATTER", type := (.object "java/util/function/BiFunction"), accessFlags := 25, slot := 1, constantValue := 0 }, { name := "IOOBE_FORMATTER", type := (.object "java/util/function/BiFunction"), accessFlags := 25, slot := 2, constantValue := 0 }]
  methods := #[k18m0]
  instanceTypes := #[]
  staticTypes := #[(.object "java/util/function/BiFunction"), (.object "java/util/function/BiFunction"), (.object "java/util/function/BiFunction")]
  resolved := Array.replicate 194 none
  statics := some 2 }

def pool19 : Array CpInfo := pool [(1, u "java/lang/Cloneable"), (0, .class_ 1), (0, u "java/lang/Object"), (0, .class_ 3)] 3

/-- java/lang/Cloneable -/
def k19 : Class := { plain "java/lang/Cloneable" (some 0) with
  accessFlags := 1537
  interfaces := #[]
  cf := some (fileOf pool19 2 #[] #[] 1537 4 #[] #[])
  fields := #[]
  methods := #[]
  instanceTypes := #[]
  staticTypes := #[]
  resolved := Array.replicate 8 none
  statics := none }

/-- the primitive byte -/
def k20 : Class := { plain "byte" none with kind := .primitive 'B', accessFlags := 0x411 }
/-- [B -/
def k21 : Class := { plain "[B" (some 0) with kind := .array 20 .byte, interfaces := #[19, 2], accessFlags := 1041 }

/-- the primitive char -/
def k22 : Class := { plain "char" none with kind := .primitive 'C', accessFlags := 0x411 }
/-- [C -/
def k23 : Class := { plain "[C" (some 0) with kind := .array 22 .char, interfaces := #[19, 2], accessFlags := 1041 }

/-- the primitive int -/
def k24 : Class := { plain "int" none with kind := .primitive 'I', accessFlags := 0x411 }
/-- [I -/
def k25 : Class := { plain "[I" (some 0) with kind := .array 24 .int, interfaces := #[19, 2], accessFlags := 1041 }

/-- [Lcom/example/resolvent/resolvent/term/Term; -/
def k26 : Class := { plain "[Lcom/example/resolvent/resolvent/term/Term;" (some 0) with kind := .array 9 (.object "com/example/resolvent/resolvent/term/Term"), interfaces := #[19, 2], accessFlags := 1041 }

/-- [Ljava/math/BigInteger; -/
def k27 : Class := { plain "[Ljava/math/BigInteger;" (some 0) with kind := .array 16 (.object "java/math/BigInteger"), interfaces := #[19, 2], accessFlags := 1041 }

/-- java/lang/StringLatin1, jdk/internal/util/ArraysSupport: the sets say them initialised -/
def k28 : Class := plain "java/lang/StringLatin1" (some 0)
def k29 : Class := plain "jdk/internal/util/ArraysSupport" (some 0)
def heap : Heap := #[{ cls := 7, slots := #[.long 0, .int 1, .null, .int 0, .null, .int 0, .int 0], vm := .statics 7 },
  { cls := 16, slots := #[.long 0, .int 0, .int 0, .int 0, .int 0, .int 0, .int 0, .int 0, .int 0, .int 0, .int 0, .int 0, .null, .int 0, .int 0, .null, .int 0, .ref 3, .ref 4, .null, .null, .double 0, .ref 70, .ref 37, .ref 38, .ref 53, .ref 46, .null, .int 0, .null, .null, .null, .null, .null, .long 0, .null, .int 0], vm := .statics 16 },
  { cls := 18, slots := #[.null, .null, .null], vm := .statics 18 },
  { cls := 27, slots := #[.null, .ref 37, .ref 38, .ref 39, .ref 40, .ref 41, .ref 42, .ref 43, .ref 44, .ref 45, .ref 46, .ref 47, .ref 48, .ref 49, .ref 50, .ref 51, .ref 52], vm := .none },
  { cls := 27, slots := #[.null, .ref 53, .ref 54, .ref 55, .ref 56, .ref 57, .ref 58, .ref 59, .ref 60, .ref 61, .ref 62, .ref 63, .ref 64, .ref 65, .ref 66, .ref 67, .ref 68], vm := .none },
  { cls := 25, slots := #[.int 1], vm := .none },
  { cls := 25, slots := #[.int 2], vm := .none },
  { cls := 25, slots := #[.int 3], vm := .none },
  { cls := 25, slots := #[.int 4], vm := .none },
  { cls := 25, slots := #[.int 5], vm := .none },
  { cls := 25, slots := #[.int 6], vm := .none },
  { cls := 25, slots := #[.int 7], vm := .none },
  { cls := 25, slots := #[.int 8], vm := .none },
  { cls := 25, slots := #[.int 9], vm := .none },
  { cls := 25, slots := #[.int 10], vm := .none },
  { cls := 25, slots := #[.int 11], vm := .none },
  { cls := 25, slots := #[.int 12], vm := .none },
  { cls := 25, slots := #[.int 13], vm := .none },
  { cls := 25, slots := #[.int 14], vm := .none },
  { cls := 25, slots := #[.int 15], vm := .none },
  { cls := 25, slots := #[.int 16], vm := .none },
  { cls := 25, slots := #[.int 1], vm := .none },
  { cls := 25, slots := #[.int 2], vm := .none },
  { cls := 25, slots := #[.int 3], vm := .none },
  { cls := 25, slots := #[.int 4], vm := .none },
  { cls := 25, slots := #[.int 5], vm := .none },
  { cls := 25, slots := #[.int 6], vm := .none },
  { cls := 25, slots := #[.int 7], vm := .none },
  { cls := 25, slots := #[.int 8], vm := .none },
  { cls := 25, slots := #[.int 9], vm := .none },
  { cls := 25, slots := #[.int 10], vm := .none },
  { cls := 25, slots := #[.int 11], vm := .none },
  { cls := 25, slots := #[.int 12], vm := .none },
  { cls := 25, slots := #[.int 13], vm := .none },
  { cls := 25, slots := #[.int 14], vm := .none },
  { cls := 25, slots := #[.int 15], vm := .none },
  { cls := 25, slots := #[.int 16], vm := .none },
  { cls := 16, slots := #[.int 1, .ref 5, .int 0, .int 0, .int 0, .int 0], vm := .none },
  { cls := 16, slots := #[.int 1, .ref 6, .int 0, .int 0, .int 0, .int 0], vm := .none },
  { cls := 16, slots := #[.int 1, .ref 7, .int 0, .int 0, .int 0, .int 0], vm := .none },
  { cls := 16, slots := #[.int 1, .ref 8, .int 0, .int 0, .int 0, .int 0], vm := .none },
  { cls := 16, slots := #[.int 1, .ref 9, .int 0, .int 0, .int 0, .int 0], vm := .none },
  { cls := 16, slots := #[.int 1, .ref 10, .int 0, .int 0, .int 0, .int 0], vm := .none },
  { cls := 16, slots := #[.int 1, .ref 11, .int 0, .int 0, .int 0, .int 0], vm := .none },
  { cls := 16, slots := #[.int 1, .ref 12, .int 0, .int 0, .int 0, .int 0], vm := .none },
  { cls := 16, slots := #[.int 1, .ref 13, .int 0, .int 0, .int 0, .int 0], vm := .none },
  { cls := 16, slots := #[.int 1, .ref 14, .int 0, .int 0, .int 0, .int 0], vm := .none },
  { cls := 16, slots := #[.int 1, .ref 15, .int 0, .int 0, .int 0, .int 0], vm := .none },
  { cls := 16, slots := #[.int 1, .ref 16, .int 0, .int 0, .int 0, .int 0], vm := .none },
  { cls := 16, slots := #[.int 1, .ref 17, .int 0, .int 0, .int 0, .int 0], vm := .none },
  { cls := 16, slots := #[.int 1, .ref 18, .int 0, .int 0, .int 0, .int 0], vm := .none },
  { cls := 16, slots := #[.int 1, .ref 19, .int 0, .int 0, .int 0, .int 0], vm := .none },
  { cls := 16, slots := #[.int 1, .ref 20, .int 0, .int 0, .int 0, .int 0], vm := .none },
  { cls := 16, slots := #[.int (-1), .ref 21, .int 0, .int 0, .int 0, .int 0], vm := .none },
  { cls := 16, slots := #[.int (-1), .ref 22, .int 0, .int 0, .int 0, .int 0], vm := .none },
  { cls := 16, slots := #[.int (-1), .ref 23, .int 0, .int 0, .int 0, .int 0], vm := .none },
  { cls := 16, slots := #[.int (-1), .ref 24, .int 0, .int 0, .int 0, .int 0], vm := .none },
  { cls := 16, slots := #[.int (-1), .ref 25, .int 0, .int 0, .int 0, .int 0], vm := .none },
  { cls := 16, slots := #[.int (-1), .ref 26, .int 0, .int 0, .int 0, .int 0], vm := .none },
  { cls := 16, slots := #[.int (-1), .ref 27, .int 0, .int 0, .int 0, .int 0], vm := .none },
  { cls := 16, slots := #[.int (-1), .ref 28, .int 0, .int 0, .int 0, .int 0], vm := .none },
  { cls := 16, slots := #[.int (-1), .ref 29, .int 0, .int 0, .int 0, .int 0], vm := .none },
  { cls := 16, slots := #[.int (-1), .ref 30, .int 0, .int 0, .int 0, .int 0], vm := .none },
  { cls := 16, slots := #[.int (-1), .ref 31, .int 0, .int 0, .int 0, .int 0], vm := .none },
  { cls := 16, slots := #[.int (-1), .ref 32, .int 0, .int 0, .int 0, .int 0], vm := .none },
  { cls := 16, slots := #[.int (-1), .ref 33, .int 0, .int 0, .int 0, .int 0], vm := .none },
  { cls := 16, slots := #[.int (-1), .ref 34, .int 0, .int 0, .int 0, .int 0], vm := .none },
  { cls := 16, slots := #[.int (-1), .ref 35, .int 0, .int 0, .int 0, .int 0], vm := .none },
  { cls := 16, slots := #[.int (-1), .ref 36, .int 0, .int 0, .int 0, .int 0], vm := .none },
  { cls := 25, slots := #[], vm := .none },
  { cls := 16, slots := #[.int 0, .ref 69, .int 0, .int 0, .int 0, .int 0], vm := .none }]
def classes : Array Class := #[k0, k1, k2, k3, k4, k5, k6, k7, k8, k9, k10, k11, k12, k13, k14, k15, k16, k17, k18, k19, k20, k21, k22, k23, k24, k25, k26, k27, k28, k29]
def interned : List (Array UInt16 × Addr) := []
def slotsUsed : Nat := 311
def theMethod : MethodId := ⟨1, 1⟩
def args0 : Array Value := #[.int 1, .long 300, .int 7, .int 2]
def aboutOver (below : List Frame) : State where
  vm := { classes := classes, interned := interned.toArray }
  heap := heap
  slotsUsed := slotsUsed
  threads := #[{ frames := .invoking theMethod args0 :: below }]
def below0 : List Frame := [.native { method := ⟨0, 0⟩, args := #[] }]
def about1 : State := aboutOver below0
def p0 : Program := .bare "" "" ""
def e0 : Env := launch0.env 0 0 0
theorem w_frames : about1.frames = Frame.invoking theMethod args0 :: below0 := rfl
set_option maxRecDepth 65536 in
theorem w_args : argsFit about1.vm theMethod args0 = true := by decide +kernel
set_option maxRecDepth 65536 in
theorem w_heap : heapFits about1 = true := by decide +kernel
set_option maxRecDepth 65536 in
theorem w_runnable : about1.curStatus? = some .runnable := by decide +kernel
set_option maxRecDepth 65536 in
theorem w_alone : about1.alone = true := by decide +kernel
set_option maxRecDepth 65536 in
theorem w_named : about1.methodNamed? x = some theMethod := by decide +kernel
set_option maxRecDepth 65536 in
theorem w_hears : about1.hears theMethod below0 = true := by decide +kernel
set_option maxRecDepth 65536 in
theorem w_ripe : about1.ripe theMethod args0 below0 = true := by decide +kernel
theorem w_running : about1.status = .running := rfl
set_option maxRecDepth 65536 in
theorem w_room : about1.hasRoom e0.platform room_1 = true :=
  launch0.hasRoom_least _ room_1 (by decide +kernel) (by decide +kernel) (by decide +kernel) (by decide +kernel) (by decide +kernel) (by decide +kernel)
theorem allAtoms_all (ts : List Jvm.Cond) (a : Array Jvm.Value) (st : Jvm.State) : (allAtoms ts).before a st = ts.all (fun c => c.before a st) := by
  induction ts with
  | nil => rfl
  | cons c t ih =>
    show (Jvm.Cond.and c (allAtoms t)).before a st = _
    rw [Jvm.Cond.before_and, ih, List.all_cons]
def words1 : List Jvm.Cond := Jvm.Cond.code x code maxLocals ret :: tables_1
/-- a 'code' word, met by the world's own term for the bytes: nothing is compared byte by byte -/
theorem code_word {y : MethodName} {bytes : ByteArray} {mx : Nat} {rt : Option FieldType} {a : Array Value} {s : State} {m : MethodId} {meth : Method} {c : Code} (h1 : s.methodNamed? y = some m) (h2 : s.vm.method? m = some meth) (h3 : meth.code = some c) (h4 : c.code = bytes)
    (h5 : (c.maxLocals == mx && c.exceptionTable.isEmpty && decide (c.maxStack ≤ mostOperands) && decide (meth.sig.returnType = rt) && !meth.locks && decide (parseMethodDescriptor y.desc = some meth.sig)) = true) : (Jvm.Cond.code y bytes mx rt).before a s = true := by
  simp only [Bool.and_eq_true, beq_iff_eq, Bool.not_eq_true', decide_eq_true_eq] at h5
  obtain ⟨⟨⟨⟨⟨g1, g2⟩, g3⟩, g4⟩, g5⟩, g6⟩ := h5
  simp [Cond.before, Cond.holds, Cond.value, h1, h2, h3, h4, g1, g2, g3, g4, g5, g6]
def isCode : Jvm.Cond → Bool
  | .code _ _ _ _ => true
  | _ => false
theorem all_split {L : List Jvm.Cond} {P : Jvm.Cond → Bool} (h1 : L.all (fun c => isCode c || P c) = true) (h2 : ∀ c ∈ L.filter isCode, P c = true) : L.all P = true := by
  refine List.all_eq_true.mpr fun c hc => ?_
  have h := List.all_eq_true.mp h1 c hc
  rcases Bool.eq_false_or_eq_true (isCode c) with hi | hi
  · exact h2 c (List.mem_filter.mpr ⟨hc, hi⟩)
  · simpa [hi] using h
set_option maxRecDepth 65536 in
theorem w_c0 : (Jvm.Cond.code x code maxLocals ret).before args0 about1 = true := code_word (m := ⟨1, 1⟩) (meth := k1m1) (c := k1c1) (by decide +kernel) rfl rfl rfl (by decide +kernel)
set_option maxRecDepth 65536 in
theorem w_c1 : (Jvm.Cond.code ({ cls := "java/lang/String", name := "<init>", desc := "([C)V" } : Jvm.MethodName) jdk_42_method_3_code (2 : Nat) (Option.none : Option Jvm.ClassFile.FieldType)).before args0 about1 = true := code_word (m := ⟨7, 1⟩) (meth := k7m1) (c := k7c1) (by decide +kernel) rfl rfl rfl (by decide +kernel)
set_option maxRecDepth 65536 in
theorem w_c2 : (Jvm.Cond.code ({ cls := "java/lang/String", name := "<init>", desc := "([CIILjava/lang/Void;)V" } : Jvm.MethodName) jdk_42_method_149_code (6 : Nat) (Option.none : Option Jvm.ClassFile.FieldType)).before args0 about1 = true := code_word (m := ⟨7, 2⟩) (meth := k7m2) (c := k7c2) (by decide +kernel) rfl rfl rfl (by decide +kernel)
set_option maxRecDepth 65536 in
theorem w_c3 : (Jvm.Cond.code ({ cls := "java/lang/Object", name := "<init>", desc := "()V" } : Jvm.MethodName) object_method_1_code (1 : Nat) (Option.none : Option Jvm.ClassFile.FieldType)).before args0 about1 = true := code_word (m := ⟨0, 0⟩) (meth := k0m0) (c := k0c0) (by decide +kernel) rfl rfl rfl (by decide +kernel)
set_option maxRecDepth 65536 in
theorem w_c4 : (Jvm.Cond.code ({ cls := "java/lang/StringUTF16", name := "compress", desc := "([CII)[B" } : Jvm.MethodName) jdk_52_method_16_code (6 : Nat) (Option.some (Jvm.ClassFile.FieldType.array Jvm.ClassFile.FieldType.byte))).before args0 about1 = true := code_word (m := ⟨8, 2⟩) (meth := k8m2) (c := k8c2) (by decide +kernel) rfl rfl rfl (by decide +kernel)
set_option maxRecDepth 65536 in
theorem w_c5 : (Jvm.Cond.code ({ cls := "java/lang/StringUTF16", name := "compress", desc := "([CI[BII)I" } : Jvm.MethodName) jdk_52_method_21_code (7 : Nat) (Option.some Jvm.ClassFile.FieldType.int)).before args0 about1 = true := code_word (m := ⟨8, 3⟩) (meth := k8m3) (c := k8c3) (by decide +kernel) rfl rfl rfl (by decide +kernel)
set_option maxRecDepth 65536 in
theorem w_c6 : (Jvm.Cond.code ({ cls := "java/lang/StringUTF16", name := "coderFromArrayLen", desc := "([BI)B" } : Jvm.MethodName) jdk_52_method_15_code (2 : Nat) (Option.some Jvm.ClassFile.FieldType.byte)).before args0 about1 = true := code_word (m := ⟨8, 1⟩) (meth := k8m1) (c := k8c1) (by decide +kernel) rfl rfl rfl (by decide +kernel)
set_option maxRecDepth 65536 in
theorem w_c7 : (Jvm.Cond.code ({ cls := "com/example/resolvent/resolvent/term/Atom", name := "<init>", desc := "(Ljava/lang/String;)V" } : Jvm.MethodName) prog_86_method_1_code (2 : Nat) (Option.none : Option Jvm.ClassFile.FieldType)).before args0 about1 = true := code_word (m := ⟨10, 0⟩) (meth := k10m0) (c := k10c0) (by decide +kernel) rfl rfl rfl (by decide +kernel)
set_option maxRecDepth 65536 in
theorem w_c8 : (Jvm.Cond.code ({ cls := "com/example/resolvent/resolvent/term/Term", name := "<init>", desc := "()V" } : Jvm.MethodName) prog_96_method_1_code (1 : Nat) (Option.none : Option Jvm.ClassFile.FieldType)).before args0 about1 = true := code_word (m := ⟨9, 0⟩) (meth := k9m0) (c := k9c0) (by decide +kernel) rfl rfl rfl (by decide +kernel)
set_option maxRecDepth 65536 in
theorem w_c9 : (Jvm.Cond.code ({ cls := "java/util/Objects", name := "requireNonNull", desc := "(Ljava/lang/Object;Ljava/lang/String;)Ljava/lang/Object;" } : Jvm.MethodName) jdk_31_method_11_code (2 : Nat) (Option.some (Jvm.ClassFile.FieldType.object "java/lang/Object"))).before args0 about1 = true := code_word (m := ⟨11, 1⟩) (meth := k11m1) (c := k11c1) (by decide +kernel) rfl rfl rfl (by decide +kernel)
set_option maxRecDepth 65536 in
theorem w_c10 : (Jvm.Cond.code ({ cls := "com/example/resolvent/resolvent/model/Relation", name := "isConstant", desc := "(Lcom/example/resolvent/resolvent/term/Term;)Z" } : Jvm.MethodName) prog_27_method_3_code (1 : Nat) (Option.some Jvm.ClassFile.FieldType.boolean)).before args0 about1 = true := code_word (m := ⟨12, 1⟩) (meth := k12m1) (c := k12c1) (by decide +kernel) rfl rfl rfl (by decide +kernel)
set_option maxRecDepth 65536 in
theorem w_c11 : (Jvm.Cond.code ({ cls := "com/example/resolvent/resolvent/term/Compound", name := "<init>", desc := "(Ljava/lang/String;[Lcom/example/resolvent/resolvent/term/Term;)V" } : Jvm.MethodName) prog_88_method_1_code (3 : Nat) (Option.none : Option Jvm.ClassFile.FieldType)).before args0 about1 = true := code_word (m := ⟨13, 0⟩) (meth := k13m0) (c := k13c0) (by decide +kernel) rfl rfl rfl (by decide +kernel)
set_option maxRecDepth 65536 in
theorem w_c12 : (Jvm.Cond.code ({ cls := "com/example/resolvent/resolvent/term/Compound", name := "checked", desc := "(Ljava/lang/String;[Lcom/example/resolvent/resolvent/term/Term;)[Lcom/example/resolvent/resolvent/term/Term;" } : Jvm.MethodName) prog_88_method_6_code (6 : Nat) (Option.some (Jvm.ClassFile.FieldType.array (Jvm.ClassFile.FieldType.object "com/example/resolvent/resolvent/term/Term")))).before args0 about1 = true := code_word (m := ⟨13, 3⟩) (meth := k13m3) (c := k13c3) (by decide +kernel) rfl rfl rfl (by decide +kernel)
set_option maxRecDepth 65536 in
theorem w_c13 : (Jvm.Cond.code ({ cls := "com/example/resolvent/resolvent/term/Compound", name := "<init>", desc := "([Lcom/example/resolvent/resolvent/term/Term;Ljava/lang/String;)V" } : Jvm.MethodName) prog_88_method_4_code (3 : Nat) (Option.none : Option Jvm.ClassFile.FieldType)).before args0 about1 = true := code_word (m := ⟨13, 1⟩) (meth := k13m1) (c := k13c1) (by decide +kernel) rfl rfl rfl (by decide +kernel)
set_option maxRecDepth 65536 in
theorem w_c14 : (Jvm.Cond.code ({ cls := "com/example/resolvent/resolvent/term/Compound", name := "<init>", desc := "(Ljava/lang/String;ILcom/example/resolvent/resolvent/term/Term;Lcom/example/resolvent/resolvent/term/Term;[Lcom/example/resolvent/resolvent/term/Term;)V" } : Jvm.MethodName) prog_88_method_5_code (6 : Nat) (Option.none : Option Jvm.ClassFile.FieldType)).before args0 about1 = true := code_word (m := ⟨13, 2⟩) (meth := k13m2) (c := k13c2) (by decide +kernel) rfl rfl rfl (by decide +kernel)
set_option maxRecDepth 65536 in
theorem w_c15 : (Jvm.Cond.code ({ cls := "java/math/BigInteger", name := "valueOf", desc := "(J)Ljava/math/BigInteger;" } : Jvm.MethodName) jdk_2097_method_29_code (2 : Nat) (Option.some (Jvm.ClassFile.FieldType.object "java/math/BigInteger"))).before args0 about1 = true := code_word (m := ⟨16, 0⟩) (meth := k16m0) (c := k16c0) (by decide +kernel) rfl rfl rfl (by decide +kernel)
set_option maxRecDepth 65536 in
theorem w_c16 : (Jvm.Cond.code ({ cls := "java/math/BigInteger", name := "<init>", desc := "(J)V" } : Jvm.MethodName) jdk_2097_method_30_code (4 : Nat) (Option.none : Option Jvm.ClassFile.FieldType)).before args0 about1 = true := code_word (m := ⟨16, 1⟩) (meth := k16m1) (c := k16c1) (by decide +kernel) rfl rfl rfl (by decide +kernel)
set_option maxRecDepth 65536 in
theorem w_c17 : (Jvm.Cond.code ({ cls := "java/lang/Number", name := "<init>", desc := "()V" } : Jvm.MethodName) jdk_18_method_1_code (1 : Nat) (Option.none : Option Jvm.ClassFile.FieldType)).before args0 about1 = true := code_word (m := ⟨15, 0⟩) (meth := k15m0) (c := k15c0) (by decide +kernel) rfl rfl rfl (by decide +kernel)
set_option maxRecDepth 65536 in
theorem w_c18 : (Jvm.Cond.code ({ cls := "com/example/resolvent/resolvent/term/Int", name := "<init>", desc := "(Ljava/math/BigInteger;)V" } : Jvm.MethodName) prog_89_method_1_code (2 : Nat) (Option.none : Option Jvm.ClassFile.FieldType)).before args0 about1 = true := code_word (m := ⟨14, 0⟩) (meth := k14m0) (c := k14c0) (by decide +kernel) rfl rfl rfl (by decide +kernel)
set_option maxRecDepth 65536 in
theorem w_c19 : (Jvm.Cond.code ({ cls := "com/example/resolvent/resolvent/term/Variable", name := "<init>", desc := "(Ljava/lang/String;)V" } : Jvm.MethodName) prog_121_method_1_code (2 : Nat) (Option.none : Option Jvm.ClassFile.FieldType)).before args0 about1 = true := code_word (m := ⟨17, 0⟩) (meth := k17m0) (c := k17c0) (by decide +kernel) rfl rfl rfl (by decide +kernel)
set_option maxRecDepth 65536 in
theorem w_c20 : (Jvm.Cond.code ({ cls := "com/example/resolvent/resolvent/term/Variable", name := "<init>", desc := "(Ljava/lang/String;Lcom/example/resolvent/resolvent/term/VariableStore;J)V" } : Jvm.MethodName) prog_121_method_2_code (5 : Nat) (Option.none : Option Jvm.ClassFile.FieldType)).before args0 about1 = true := code_word (m := ⟨17, 1⟩) (meth := k17m1) (c := k17c1) (by decide +kernel) rfl rfl rfl (by decide +kernel)
def codes1 : List Jvm.Cond := [Jvm.Cond.code x code maxLocals ret, Jvm.Cond.code ({ cls := "java/lang/String", name := "<init>", desc := "([C)V" } : Jvm.MethodName) jdk_42_method_3_code (2 : Nat) (Option.none : Option Jvm.ClassFile.FieldType), Jvm.Cond.code ({ cls := "java/lang/String", name := "<init>", desc := "([CIILjava/lang/Void;)V" } : Jvm.MethodName) jdk_42_method_149_code (6 : Nat) (Option.none : Option Jvm.ClassFile.FieldType), Jvm.Cond.code ({ cls := "java/lang/Object", name := "<init>", desc := "()V" } : Jvm.MethodName) object_method_1_code (1 : Nat) (Option.none : Option Jvm.ClassFile.FieldType), Jvm.Cond.code ({ cls := "java/lang/StringUTF16", name := "compress", desc := "([CII)[B" } : Jvm.MethodName) jdk_52_method_16_code (6 : Nat) (Option.some (Jvm.ClassFile.FieldType.array Jvm.ClassFile.FieldType.byte)), Jvm.Cond.code ({ cls := "java/lang/StringUTF16", name := "compress", desc := "([CI[BII)I" } : Jvm.MethodName) jdk_52_method_21_code (7 : Nat) (Option.some Jvm.ClassFile.FieldType.int), Jvm.Cond.code ({ cls := "java/lang/StringUTF16", name := "coderFromArrayLen", desc := "([BI)B" } : Jvm.MethodName) jdk_52_method_15_code (2 : Nat) (Option.some Jvm.ClassFile.FieldType.byte), Jvm.Cond.code ({ cls := "com/example/resolvent/resolvent/term/Atom", name := "<init>", desc := "(Ljava/lang/String;)V" } : Jvm.MethodName) prog_86_method_1_code (2 : Nat) (Option.none : Option Jvm.ClassFile.FieldType), Jvm.Cond.code ({ cls := "com/example/resolvent/resolvent/term/Term", name := "<init>", desc := "()V" } : Jvm.MethodName) prog_96_method_1_code (1 : Nat) (Option.none : Option Jvm.ClassFile.FieldType), Jvm.Cond.code ({ cls := "java/util/Objects", name := "requireNonNull", desc := "(Ljava/lang/Object;Ljava/lang/String;)Ljava/lang/Object;" } : Jvm.MethodName) jdk_31_method_11_code (2 : Nat) (Option.some (Jvm.ClassFile.FieldType.object "java/lang/Object")), Jvm.Cond.code ({ cls := "com/example/resolvent/resolvent/model/Relation", name := "isConstant", desc := "(Lcom/example/resolvent/resolvent/term/Term;)Z" } : Jvm.MethodName) prog_27_method_3_code (1 : Nat) (Option.some Jvm.ClassFile.FieldType.boolean), Jvm.Cond.code ({ cls := "com/example/resolvent/resolvent/term/Compound", name := "<init>", desc := "(Ljava/lang/String;[Lcom/example/resolvent/resolvent/term/Term;)V" } : Jvm.MethodName) prog_88_method_1_code (3 : Nat) (Option.none : Option Jvm.ClassFile.FieldType), Jvm.Cond.code ({ cls := "com/example/resolvent/resolvent/term/Compound", name := "checked", desc := "(Ljava/lang/String;[Lcom/example/resolvent/resolvent/term/Term;)[Lcom/example/resolvent/resolvent/term/Term;" } : Jvm.MethodName) prog_88_method_6_code (6 : Nat) (Option.some (Jvm.ClassFile.FieldType.array (Jvm.ClassFile.FieldType.object "com/example/resolvent/resolvent/term/Term"))), Jvm.Cond.code ({ cls := "com/example/resolvent/resolvent/term/Compound", name := "<init>", desc := "([Lcom/example/resolvent/resolvent/term/Term;Ljava/lang/String;)V" } : Jvm.MethodName) prog_88_method_4_code (3 : Nat) (Option.none : Option Jvm.ClassFile.FieldType), Jvm.Cond.code ({ cls := "com/example/resolvent/resolvent/term/Compound", name := "<init>", desc := "(Ljava/lang/String;ILcom/example/resolvent/resolvent/term/Term;Lcom/example/resolvent/resolvent/term/Term;[Lcom/example/resolvent/resolvent/term/Term;)V" } : Jvm.MethodName) prog_88_method_5_code (6 : Nat) (Option.none : Option Jvm.ClassFile.FieldType), Jvm.Cond.code ({ cls := "java/math/BigInteger", name := "valueOf", desc := "(J)Ljava/math/BigInteger;" } : Jvm.MethodName) jdk_2097_method_29_code (2 : Nat) (Option.some (Jvm.ClassFile.FieldType.object "java/math/BigInteger")), Jvm.Cond.code ({ cls := "java/math/BigInteger", name := "<init>", desc := "(J)V" } : Jvm.MethodName) jdk_2097_method_30_code (4 : Nat) (Option.none : Option Jvm.ClassFile.FieldType), Jvm.Cond.code ({ cls := "java/lang/Number", name := "<init>", desc := "()V" } : Jvm.MethodName) jdk_18_method_1_code (1 : Nat) (Option.none : Option Jvm.ClassFile.FieldType), Jvm.Cond.code ({ cls := "com/example/resolvent/resolvent/term/Int", name := "<init>", desc := "(Ljava/math/BigInteger;)V" } : Jvm.MethodName) prog_89_method_1_code (2 : Nat) (Option.none : Option Jvm.ClassFile.FieldType), Jvm.Cond.code ({ cls := "com/example/resolvent/resolvent/term/Variable", name := "<init>", desc := "(Ljava/lang/String;)V" } : Jvm.MethodName) prog_121_method_1_code (2 : Nat) (Option.none : Option Jvm.ClassFile.FieldType), Jvm.Cond.code ({ cls := "com/example/resolvent/resolvent/term/Variable", name := "<init>", desc := "(Ljava/lang/String;Lcom/example/resolvent/resolvent/term/VariableStore;J)V" } : Jvm.MethodName) prog_121_method_2_code (5 : Nat) (Option.none : Option Jvm.ClassFile.FieldType)]
set_option maxRecDepth 65536 in
theorem codes_eq : words1.filter isCode = codes1 := rfl
theorem w_codes : ∀ c ∈ words1.filter isCode, c.before args0 about1 = true := by
  rw [codes_eq]
  intro c hc
  simp only [codes1, List.mem_cons, List.not_mem_nil, or_false] at hc
  rcases hc with rfl | rfl | rfl | rfl | rfl | rfl | rfl | rfl | rfl | rfl | rfl | rfl | rfl | rfl | rfl | rfl | rfl | rfl | rfl | rfl | rfl
  · exact w_c0
  · exact w_c1
  · exact w_c2
  · exact w_c3
  · exact w_c4
  · exact w_c5
  · exact w_c6
  · exact w_c7
  · exact w_c8
  · exact w_c9
  · exact w_c10
  · exact w_c11
  · exact w_c12
  · exact w_c13
  · exact w_c14
  · exact w_c15
  · exact w_c16
  · exact w_c17
  · exact w_c18
  · exact w_c19
  · exact w_c20
set_option maxRecDepth 65536 in
theorem w_t1 : (words1.take 24).all (fun c => isCode c || c.before args0 about1) = true := by decide +kernel
set_option maxRecDepth 65536 in
theorem w_t2 : ((words1.drop 24).take 24).all (fun c => isCode c || c.before args0 about1) = true := by decide +kernel
set_option maxRecDepth 65536 in
theorem w_t3 : (((words1.drop 24).drop 24).take 24).all (fun c => isCode c || c.before args0 about1) = true := by decide +kernel
set_option maxRecDepth 65536 in
theorem w_t4 : ((((words1.drop 24).drop 24).drop 24).take 24).all (fun c => isCode c || c.before args0 about1) = true := by decide +kernel
set_option maxRecDepth 65536 in
theorem w_t5 : (((((words1.drop 24).drop 24).drop 24).drop 24).take 24).all (fun c => isCode c || c.before args0 about1) = true := by decide +kernel
set_option maxRecDepth 65536 in
theorem w_t6 : ((((((words1.drop 24).drop 24).drop 24).drop 24).drop 24).take 24).all (fun c => isCode c || c.before args0 about1) = true := by decide +kernel
set_option maxRecDepth 65536 in
theorem w_t7 : ((((((words1.drop 24).drop 24).drop 24).drop 24).drop 24).drop 24).all (fun c => isCode c || c.before args0 about1) = true := by decide +kernel
theorem w_tables : (allAtoms (Jvm.Cond.code x code maxLocals ret :: tables_1)).before args0 about1 = true := by
  rw [allAtoms_all]
  show words1.all (fun c => c.before args0 about1) = true
  refine all_split ?_ w_codes
  rw [← List.take_append_drop 24 words1, List.all_append, w_t1, ← List.take_append_drop 24 (words1.drop 24), List.all_append, w_t2, ← List.take_append_drop 24 ((words1.drop 24).drop 24), List.all_append, w_t3, ← List.take_append_drop 24 (((words1.drop 24).drop 24).drop 24), List.all_append, w_t4, ← List.take_append_drop 24 ((((words1.drop 24).drop 24).drop 24).drop 24), List.all_append, w_t5, ← List.take_append_drop 24 (((((words1.drop 24).drop 24).drop 24).drop 24).drop 24), List.all_append, w_t6, w_t7]
  rfl
set_option maxRecDepth 65536 in
theorem w_rest : rest_1_c.before args0 about1 = true := by decide +kernel
set_option maxRecDepth 65536 in
theorem w_case : (Jvm.Cond.and given_1 narrow_1).before args0 about1 = true := by decide +kernel
theorem w_applies : (headSpec (Jvm.Cond.code x code maxLocals ret :: tables_1) room_1).applies x e0.platform about1 = true :=
  (Spec.applies_iff w_frames).mpr ⟨w_running, w_runnable, w_alone, w_named, w_hears, w_ripe, w_room, w_tables⟩
theorem atStart : AtStart classFile x code maxLocals ret World_1 tables_1 room_1 Calls_1 rest_1 Pre_1 launch0 p0 e0 about1 theMethod args0 below0 :=
  ⟨lists_1, trivial, launch0.admits_env _ _ _, launch0.least_env, fairChoices_fair.cas, fairChoices_fair.clock, w_frames, w_args, w_heap, w_applies, trivial, w_rest, w_case⟩
end start1
theorem witness_1 : WitnessClaimed_1 := ⟨start1.p0, start1.e0, start1.about1, start1.theMethod, start1.args0, start1.below0, start1.atStart⟩
end Jvm.Pilot.@@N@@
