import JvmDerived
import JvmDerived.Pilot.@@N@@Statement
import JvmDerived.Pilot.@@N@@Code
set_option linter.unusedVariables false
set_option linter.unusedSimpArgs false
@@BLOCK:NumsL.lean.txt@@
namespace Jvm.Pilot.@@N@@
open Jvm Jvm.ClassFile Sem Op Lib Jvm.Free Jvm.Stand Jvm.LawKit Jvm.RoadKit Bundle Jvm.Pilot.@@N@@.Jvm.D
set_option maxRecDepth 65536
set_option maxHeartbeats 40000000
theorem tw {Z : State} {a0 : Array Value} (hw : ∀ d ∈ tables_1, d.before a0 Z = true) (i : Nat) {d : Cond} (h : tables_1[i]? = some d) : d.before a0 Z = true := hw _ (List.mem_of_getElem? h)
theorem ble {a b : Nat} (h : Nat.ble a b = true) : a ≤ b := Nat.le_of_ble_eq_true h
section OwnKit
variable {p : Program} {l : Launch} {e : Env} {R : Room} {s : State} {m : MethodId} {args : Array Value} {below : List Frame} {meth : Method} {c : Code} {n0 C N : Nat} {Q : Option Value → Heap → Prop} {h : Heap} {ce sl pc q : Nat} {Ls : Array Slot} {st : List Value} {Z : State} {a0 : Array Value} {EL : List (String × Nat)} {hh0 : Heap} {SF : List Addr}
theorem wZ {vm0 : Vm} {k0 : Nat} (hZ : Z.Warmed39 s.vm) (hS : s.Since vm0 k0) : Z.Warmed39 (s.setVm vm0).vm := State.Warmed39.trans (t := s) hZ hS.1
theorem wO {vm0 : Vm} {k0 : Nat} {own : String} (hown : s.vm.findClass own = some m.cls) (hS : s.Since vm0 k0) : (s.setVm vm0).vm.findClass own = some m.cls := by
  show vm0.findClass own = _
  rw [hS.1.alike.findClass]; exact hown
theorem safe_new {vm : Vm} {h' : Heap} {a : Addr} (H : CHv Z EL vm h) (E : Ext h h') (ha : h.size ≤ a) : Safe Z EL vm h' a := fun B => Safe.new ha ((H.step fun _ _ _ q => E.2 _ _ q).2 _ B)
/-- the walk that stands at pc, with these locals, this stack and this heap, comes to its end as Q says (wide: it may load String constants; EL: the entries whose texts are held; SF: the cells that are no constant's) -/
def Go (p : Program) (l : Launch) (e : Env) (R : Room) (s : State) (m : MethodId) (args : Array Value) (below : List Frame) (meth : Method) (c : Code) (n0 C N : Nat) (Q : Option Value → Heap → Prop) (Z : State) (a0 : Array Value) (EL : List (String × Nat)) (hh0 : Heap) (SF : List Addr) (h : Heap) (ce sl pc : Nat) (Ls : Array Slot) (st : List Value) : Prop :=
  ∀ (T : State) (vm0 : Vm) (locs : List Loc) (k0 : Nat), Z.Warmed39 s.vm → EW Z a0 EL → Stand p l e R (s.setVm vm0) m args below meth c T locs ce sl → s.Since vm0 k0 → k0 ≤ h.size → CHr Z EL s.vm hh0 vm0 h → (∀ x ∈ SF, x < h.size ∧ Safe Z EL vm0 h x) → Fr n0 locs → T.heap = h →
    ∃ (s₂ : State) (v : Option Value) (L : List Loc), Steps p.tables e below (T.setTop (mkF m pc Ls st)) s₂ ∧ s₂.status = .running ∧ Ended s₂ below (.returned v) ∧ (Q v s₂.heap ∧ Fr n0 L) ∧ CHr Z EL s.vm hh0 s₂.vm s₂.heap ∧ ReturnedEndW s (.returned v) s₂ L C N
/-- a method's contract, at given arguments and a given heap -/
abbrev Met (l : Launch) (Z : State) (EL : List (String × Nat)) (SF : List Addr) (y : MethodName) (bytes : ByteArray) (maxL : Nat) (rt : Option FieldType) (ws : List Cond) (rm : Room) (as : Array Value) (h0 : Heap) (n0 : Nat) (Q : Option Value → Heap → Prop) : Prop :=
  MetFree l y (head1 (Cond.code y bytes maxL rt :: ws) rm) (fun a U => a = as ∧ Z.Warmed39 U.vm ∧ U.heap = h0 ∧ CHv Z EL U.vm h0 ∧ ∀ x ∈ SF, x < h0.size ∧ Safe Z EL U.vm h0 x) (fun _ _ _ _ _ => True) (fun _ U o U' => ∃ v L, o = .returned v ∧ (Q v U'.heap ∧ Fr n0 L) ∧ CHr Z EL U.vm U.heap U'.vm U'.heap ∧ ReturnedEndW U o U' L rm.cells rm.slots)
theorem Met.of {y : MethodName} {bytes : ByteArray} {maxL : Nat} {rt : Option FieldType} {ws : List Cond} {rm : Room} {as : Array Value} {h0 : Heap} {Ls0 : Array Slot} (hpl : plainFor y = true) (hent : argsToLocals as maxL = Ls0) (hel : EW Z a0 EL)
    (body : ∀ (p : Program) (e : Env) (s : State) (m : MethodId) (below : List Frame) (meth : Method) (c : Code), p.tables.exec = Jvm.exec → c.code = bytes → c.maxLocals = maxL → meth.sig.returnType = rt → meth.locks = false → s.vm.findClass y.cls = some m.cls → meth.name = y.name → Z.Warmed39 s.vm →
      Go p l e rm s m as below meth c n0 rm.cells rm.slots Q Z a0 EL h0 SF h0 0 0 0 Ls0 []) : Met l Z EL SF y bytes maxL rt ws rm as h0 n0 Q := by
  refine MetFree.of_bodySF hpl hisR ?_
  intro p e s m args below meth c s₁ Bd hml0 hP hK
  obtain ⟨rfl, hZ, hh, hCH, hSF⟩ := hP
  have e0 : s₁.heap = h0 := by rw [← hh, Bd.state]; rfl
  obtain ⟨s₂, v, L, S, r1, r2, hq, hc, fe⟩ := body p e s m below meth c Bd.exec Bd.bytes hml0 Bd.returns Bd.notSynchronized (findClass_of_methodNamed Bd.named) (name_of_methodNamed Bd.named Bd.method).1 hZ s₁ s.vm [] h0.size hZ hel (Stand.of_body Bd) ((State.WarmedH.refl s).since _) (Nat.le_refl _) (CHr.refl hCH) hSF (Fr.nil _) e0
  have ef : entryFrame m args maxL = mkF m 0 Ls0 [] := by simp only [entryFrame, mkF, hent]
  exact ⟨s₂, _, castTop ef S, r1, r2, v, L, rfl, hq, by rw [hh]; exact hc, fe⟩
theorem backOfSF {vm0 : Vm} {y : MethodName} {bytes : ByteArray} {maxL : Nat} {ret : Option FieldType} {rm : Room} {len W : Nat} {SFc : List Addr} {as' : Array Value} {Q : Option Value → Heap → List Loc → Prop}
    (hM : MetFree l y (head1 [Cond.code y bytes maxL ret] rm) (fun a U => a = as' ∧ Z.Warmed39 U.vm ∧ U.heap = h ∧ CHv Z EL U.vm h ∧ ∀ x ∈ SFc, x < h.size ∧ Safe Z EL U.vm h x) (fun _ _ _ _ _ => True) (fun _ U o U' => ∃ v L, o = .returned v ∧ Q v U'.heap L ∧ CHr Z EL U.vm U.heap U'.vm U'.heap ∧ ReturnedEndW U o U' L rm.cells rm.slots))
    (hZ : Z.Warmed39 vm0) (wc : (Cond.code y bytes maxL ret).before a0 Z = true) (wz : (Cond.initialized y.cls).before a0 Z = true) (hf : rm.frames + 1 ≤ R.frames) (hl : W + (maxL + 11) + rm.locals ≤ R.locals) (hEL : EW Z a0 EL) (hSF : ∀ x ∈ SFc, x < h.size ∧ Safe Z EL vm0 h x) (H : CHv Z EL vm0 h) :
    BackS l R p e below (s.setVm vm0) args y len W (fun A a => a = as' ∧ A.U.heap = h ∧ A.cells + rm.cells ≤ R.cells ∧ A.slots + rm.slots ≤ R.slots)
      (fun A _ v B => ∃ L, Q v B.U.heap L ∧ B.locs = A.locs ++ L ∧ B.cells = A.cells + rm.cells ∧ B.slots = A.slots + rm.slots ∧ CHr Z EL vm0 h B.U.vm B.U.heap) :=
  BackS.of_freeW (bytes := bytes) (maxL := maxL) (ret := ret) (E := fun _ first o t L k n => k = rm.cells ∧ n = rm.slots ∧ (∃ v, o = .returned v ∧ Q v t.heap L) ∧ CHr Z EL first.vm first.heap t.vm t.heap) hM hf hl
    (fun m meth c A a Y hp => have hU : Z.Warmed39 A.U.vm := wtrans (s := s.setVm vm0) hZ Y.warmed
      ⟨by show (Cond.and _ .tt).before a A.U = true; rw [Cond.before_and, mv hU wc]; rfl, mv hU wc, mv hU wz, hp.2.2.1, hp.2.2.2⟩)
    (fun m meth c A a g mk Y hp => ⟨hp.1, wtrans (s := s.setVm vm0) hZ Y.warmed, hp.2.1, (CHv.at Y hZ hEL H).1, fun x hx => ⟨(hSF x hx).1, (CHv.at Y hZ hEL H).safe (hSF x hx).1 (hSF x hx).2⟩⟩) (fun _ _ _ _ _ _ _ _ _ => trivial)
    (fun _ _ _ _ ⟨v, L, h1, h2, h3, h4⟩ => ⟨L, _, _, h4, rfl, rfl, ⟨v, h1, h2⟩, h3⟩)
    (fun m meth c A a g mk v t L k n Y hp _ _ ⟨e1, e2, ⟨v', e3, e4⟩, e5⟩ => by
      cases e3; subst e1 e2
      refine ⟨L, e4, rfl, rfl, rfl, (CHv.at Y hZ hEL H).trans ?_⟩
      rw [← hp.2.1]; exact e5)
theorem Go.mono {ce' sl' : Nat} (hc : ce ≤ ce') (hs : sl ≤ sl') (G : Go p l e R s m args below meth c n0 C N Q Z a0 EL hh0 SF h ce' sl' pc Ls st) : Go p l e R s m args below meth c n0 C N Q Z a0 EL hh0 SF h ce sl pc Ls st :=
  fun T vm0 locs k0 hz hel X => G T vm0 locs k0 hz hel (X.more hc hs)
theorem Go.step {q' : Nat} {Ls' : Array Slot} {st' : List Value} (H : ∀ (T : State) (vm0 : Vm) (k0 : Nat) (locs : List Loc) (target : State), Stand p l e R (s.setVm vm0) m args below meth c T locs ce sl → s.Since vm0 k0 → T.heap = h → Steps p.tables e below (T.setTop (mkF m q' Ls' st')) target → Steps p.tables e below (T.setTop (mkF m pc Ls st)) target)
    (G : Go p l e R s m args below meth c n0 C N Q Z a0 EL hh0 SF h ce sl q' Ls' st') : Go p l e R s m args below meth c n0 C N Q Z a0 EL hh0 SF h ce sl pc Ls st := fun T vm0 locs k0 hz hel X hS hk hC hF Nf eT => by
  obtain ⟨s₂, v, L, S, r⟩ := G T vm0 locs k0 hz hel X hS hk hC hF Nf eT
  exact ⟨s₂, v, L, H T vm0 k0 locs s₂ X hS eT S, r⟩
theorem Go.law {ce' sl' q' : Nat} {Ls' : Array Slot} {st' : List Value} (H : ∀ (T : State) (vm0 : Vm) (k0 : Nat) (locs : List Loc), Stand p l e R (s.setVm vm0) m args below meth c T locs ce sl → s.Since vm0 k0 → T.heap = h → ∃ T', Stand p l e R (s.setVm vm0) m args below meth c T' locs ce' sl' ∧ T'.heap = h ∧ ∀ target, Steps p.tables e below (T'.setTop (mkF m q' Ls' st')) target → Steps p.tables e below (T.setTop (mkF m pc Ls st)) target)
    (G : Go p l e R s m args below meth c n0 C N Q Z a0 EL hh0 SF h ce' sl' q' Ls' st') : Go p l e R s m args below meth c n0 C N Q Z a0 EL hh0 SF h ce sl pc Ls st := fun T vm0 locs k0 hz hel X hS hk hC hF Nf eT => by
  obtain ⟨T', X', eT', hs⟩ := H T vm0 k0 locs X hS eT
  obtain ⟨s₂, v, L, S, r⟩ := G T' vm0 locs k0 hz hel X' hS hk hC hF Nf eT'
  exact ⟨s₂, v, L, hs _ S, r⟩
/-- over an Ext that makes a -/
theorem sf_ext {vm0 : Vm} {h' : Heap} {a : Addr} (hC : CHv Z EL vm0 h) (E : Ext h h') (hF : ∀ x ∈ SF, x < h.size ∧ Safe Z EL vm0 h x) (ha : a = h.size) (hlt : a < h'.size) : ∀ x ∈ a :: SF, x < h'.size ∧ Safe Z EL vm0 h' x := fun x hx => by
  rcases List.mem_cons.mp hx with rfl | hx
  · exact ⟨hlt, safe_new hC E (Nat.le_of_eq ha.symm)⟩
  · exact ⟨Nat.lt_of_lt_of_le (hF x hx).1 E.1, (CHr.ext E hC).safe (hF x hx).1 (hF x hx).2⟩
theorem sf_wr {vm0 : Vm} {h' : Heap} {a : Addr} {k : Nat} {v : Value} (hC : CHv Z EL vm0 h) (W : Wr h h' a k v) (ha : a ∈ SF) (hF : ∀ x ∈ SF, x < h.size ∧ Safe Z EL vm0 h x) : ∀ x ∈ SF, x < h'.size ∧ Safe Z EL vm0 h' x := fun x hx =>
  ⟨by rw [W.size]; exact (hF x hx).1, (CHr.wr W (hF a ha).2 hC).safe (hF x hx).1 (hF x hx).2⟩
theorem Go.iloadN (hx : p.tables.exec = Jvm.exec) {k : Fin 4} {v : Int32} (hd : decode c.code pc = .ok (.iload_n k, 1)) (hl : Ls[k.val]? = some (.val (.int v))) (hq : q = pc + 1) (G : Go p l e R s m args below meth c n0 C N Q Z a0 EL hh0 SF h ce sl q Ls (.int v :: st)) : Go p l e R s m args below meth c n0 C N Q Z a0 EL hh0 SF h ce sl pc Ls (st) := by
  subst hq
  exact Go.step (fun T vm0 k0 locs target X hS _ S => XS.iloadN X.here hx rfl hd hl S) G
theorem Go.iload (hx : p.tables.exec = Jvm.exec) {k : Nat} {v : Int32} (hd : decode c.code pc = .ok (.iload k, 2)) (hl : Ls[k]? = some (.val (.int v))) (hq : q = pc + 2) (G : Go p l e R s m args below meth c n0 C N Q Z a0 EL hh0 SF h ce sl q Ls (.int v :: st)) : Go p l e R s m args below meth c n0 C N Q Z a0 EL hh0 SF h ce sl pc Ls (st) := by
  subst hq
  exact Go.step (fun T vm0 k0 locs target X hS _ S => XS.iload X.here hx rfl hd hl S) G
theorem Go.aloadN (hx : p.tables.exec = Jvm.exec) {k : Fin 4} {v : Value} (hd : decode c.code pc = .ok (.aload_n k, 1)) (hl : Ls[k.val]? = some (.val v)) (hv : v.isRef = true) (hq : q = pc + 1) (G : Go p l e R s m args below meth c n0 C N Q Z a0 EL hh0 SF h ce sl q Ls (v :: st)) : Go p l e R s m args below meth c n0 C N Q Z a0 EL hh0 SF h ce sl pc Ls (st) := by
  subst hq
  exact Go.step (fun T vm0 k0 locs target X hS _ S => XS.aloadN X.here hx rfl hd hl hv S) G
theorem Go.aload (hx : p.tables.exec = Jvm.exec) {k : Nat} {v : Value} (hd : decode c.code pc = .ok (.aload k, 2)) (hl : Ls[k]? = some (.val v)) (hv : v.isRef = true) (hq : q = pc + 2) (G : Go p l e R s m args below meth c n0 C N Q Z a0 EL hh0 SF h ce sl q Ls (v :: st)) : Go p l e R s m args below meth c n0 C N Q Z a0 EL hh0 SF h ce sl pc Ls (st) := by
  subst hq
  exact Go.step (fun T vm0 k0 locs target X hS _ S => XS.aload X.here hx rfl hd hl hv S) G
theorem Go.lloadN (hx : p.tables.exec = Jvm.exec) {k : Fin 4} {v : Int64} (hd : decode c.code pc = .ok (.lload_n k, 1)) (hl : Ls[k.val]? = some (.val (.long v))) (hq : q = pc + 1) (G : Go p l e R s m args below meth c n0 C N Q Z a0 EL hh0 SF h ce sl q Ls (.long v :: st)) : Go p l e R s m args below meth c n0 C N Q Z a0 EL hh0 SF h ce sl pc Ls (st) := by
  subst hq
  exact Go.step (fun T vm0 k0 locs target X hS _ S => XT.lloadN X.here hx rfl hd hl S) G
theorem Go.lload (hx : p.tables.exec = Jvm.exec) {k : Nat} {v : Int64} (hd : decode c.code pc = .ok (.lload k, 2)) (hl : Ls[k]? = some (.val (.long v))) (hq : q = pc + 2) (G : Go p l e R s m args below meth c n0 C N Q Z a0 EL hh0 SF h ce sl q Ls (.long v :: st)) : Go p l e R s m args below meth c n0 C N Q Z a0 EL hh0 SF h ce sl pc Ls (st) := by
  subst hq
  exact Go.step (fun T vm0 k0 locs target X hS _ S => XT.lload X.here hx rfl hd hl S) G
theorem Go.istoreN (hx : p.tables.exec = Jvm.exec) {k : Fin 4} {x : Int32} {l' : Array Slot} (hd : decode c.code pc = .ok (.istore_n k, 1)) (hl : storeLocals Ls k.val (.int x) = some l') (hq : q = pc + 1) (G : Go p l e R s m args below meth c n0 C N Q Z a0 EL hh0 SF h ce sl q l' (st)) : Go p l e R s m args below meth c n0 C N Q Z a0 EL hh0 SF h ce sl pc Ls (.int x :: st) := by
  subst hq
  exact Go.step (fun T vm0 k0 locs target X hS _ S => XS.istoreN X.here hx rfl hd rfl hl S) G
theorem Go.istore (hx : p.tables.exec = Jvm.exec) {k : Nat} {x : Int32} {l' : Array Slot} (hd : decode c.code pc = .ok (.istore k, 2)) (hl : storeLocals Ls k (.int x) = some l') (hq : q = pc + 2) (G : Go p l e R s m args below meth c n0 C N Q Z a0 EL hh0 SF h ce sl q l' (st)) : Go p l e R s m args below meth c n0 C N Q Z a0 EL hh0 SF h ce sl pc Ls (.int x :: st) := by
  subst hq
  exact Go.step (fun T vm0 k0 locs target X hS _ S => XS.istore X.here hx rfl hd rfl hl S) G
theorem Go.lstoreN (hx : p.tables.exec = Jvm.exec) {k : Fin 4} {x : Int64} {l' : Array Slot} (hd : decode c.code pc = .ok (.lstore_n k, 1)) (hl : storeLocals Ls k.val (.long x) = some l') (hq : q = pc + 1) (G : Go p l e R s m args below meth c n0 C N Q Z a0 EL hh0 SF h ce sl q l' (st)) : Go p l e R s m args below meth c n0 C N Q Z a0 EL hh0 SF h ce sl pc Ls (.long x :: st) := by
  subst hq
  exact Go.step (fun T vm0 k0 locs target X hS _ S => XT.lstoreN X.here hx rfl hd rfl hl S) G
theorem Go.lstore (hx : p.tables.exec = Jvm.exec) {k : Nat} {x : Int64} {l' : Array Slot} (hd : decode c.code pc = .ok (.lstore k, 2)) (hl : storeLocals Ls k (.long x) = some l') (hq : q = pc + 2) (G : Go p l e R s m args below meth c n0 C N Q Z a0 EL hh0 SF h ce sl q l' (st)) : Go p l e R s m args below meth c n0 C N Q Z a0 EL hh0 SF h ce sl pc Ls (.long x :: st) := by
  subst hq
  exact Go.step (fun T vm0 k0 locs target X hS _ S => XT.lstore X.here hx rfl hd rfl hl S) G
theorem Go.astoreN (hx : p.tables.exec = Jvm.exec) {k : Fin 4} {x : Value} {l' : Array Slot} (hd : decode c.code pc = .ok (.astore_n k, 1)) (hv : x.isRef = true) (hl : storeLocals Ls k.val x = some l') (hq : q = pc + 1) (G : Go p l e R s m args below meth c n0 C N Q Z a0 EL hh0 SF h ce sl q l' (st)) : Go p l e R s m args below meth c n0 C N Q Z a0 EL hh0 SF h ce sl pc Ls (x :: st) := by
  subst hq
  exact Go.step (fun T vm0 k0 locs target X hS _ S => XS.astoreN X.here hx rfl hd rfl hv hl S) G
theorem Go.astore (hx : p.tables.exec = Jvm.exec) {k : Nat} {x : Value} {l' : Array Slot} (hd : decode c.code pc = .ok (.astore k, 2)) (hv : x.isRef = true) (hl : storeLocals Ls k x = some l') (hq : q = pc + 2) (G : Go p l e R s m args below meth c n0 C N Q Z a0 EL hh0 SF h ce sl q l' (st)) : Go p l e R s m args below meth c n0 C N Q Z a0 EL hh0 SF h ce sl pc Ls (x :: st) := by
  subst hq
  exact Go.step (fun T vm0 k0 locs target X hS _ S => XS.astore X.here hx rfl hd rfl hv hl S) G
theorem Go.iinc (hx : p.tables.exec = Jvm.exec) {k : Nat} {cst : Int} {x : Int32} {l' : Array Slot} (hd : decode c.code pc = .ok (.iinc k cst, 3)) (hl : Ls[k]? = some (.val (.int x))) (hl' : storeLocals Ls k (.int (x + Int32.ofInt cst)) = some l') (hq : q = pc + 3) (G : Go p l e R s m args below meth c n0 C N Q Z a0 EL hh0 SF h ce sl q l' (st)) : Go p l e R s m args below meth c n0 C N Q Z a0 EL hh0 SF h ce sl pc Ls (st) := by
  subst hq
  exact Go.step (fun T vm0 k0 locs target X hS _ S => XS.iinc X.here hx rfl hd hl hl' S) G
theorem Go.iconst (hx : p.tables.exec = Jvm.exec) {i : Int} {z : Int32} (hd : decode c.code pc = .ok (.iconst i, 1)) (hz : Int32.ofInt i = z) (hq : q = pc + 1) (G : Go p l e R s m args below meth c n0 C N Q Z a0 EL hh0 SF h ce sl q Ls (.int z :: st)) : Go p l e R s m args below meth c n0 C N Q Z a0 EL hh0 SF h ce sl pc Ls (st) := by
  subst hq
  exact Go.step (fun T vm0 k0 locs target X hS _ S => XS.iconst X.here hx rfl hd (by rw [hz]; exact S)) G
theorem Go.bipush (hx : p.tables.exec = Jvm.exec) {i : Int} {z : Int32} (hd : decode c.code pc = .ok (.bipush i, 2)) (hz : (Int8.ofInt i).toInt32 = z) (hq : q = pc + 2) (G : Go p l e R s m args below meth c n0 C N Q Z a0 EL hh0 SF h ce sl q Ls (.int z :: st)) : Go p l e R s m args below meth c n0 C N Q Z a0 EL hh0 SF h ce sl pc Ls (st) := by
  subst hq
  exact Go.step (fun T vm0 k0 locs target X hS _ S => XS.bipush X.here hx rfl hd (by rw [hz]; exact S)) G
theorem Go.sipush (hx : p.tables.exec = Jvm.exec) {i : Int} {z : Int32} (hd : decode c.code pc = .ok (.sipush i, 3)) (hz : (Int16.ofInt i).toInt32 = z) (hq : q = pc + 3) (G : Go p l e R s m args below meth c n0 C N Q Z a0 EL hh0 SF h ce sl q Ls (.int z :: st)) : Go p l e R s m args below meth c n0 C N Q Z a0 EL hh0 SF h ce sl pc Ls (st) := by
  subst hq
  exact Go.step (fun T vm0 k0 locs target X hS _ S => XS.sipush X.here hx rfl hd (by rw [hz]; exact S)) G
theorem Go.aconstNull (hx : p.tables.exec = Jvm.exec)  (hd : decode c.code pc = .ok (.aconst_null, 1))  (hq : q = pc + 1) (G : Go p l e R s m args below meth c n0 C N Q Z a0 EL hh0 SF h ce sl q Ls (.null :: st)) : Go p l e R s m args below meth c n0 C N Q Z a0 EL hh0 SF h ce sl pc Ls (st) := by
  subst hq
  exact Go.step (fun T vm0 k0 locs target X hS _ S => XS.aconstNull X.here hx rfl hd S) G
theorem Go.lconst (hx : p.tables.exec = Jvm.exec) {k : Fin 2} {z : Int64} (hd : decode c.code pc = .ok (.lconst k, 1)) (hz : Int64.ofNat k = z) (hq : q = pc + 1) (G : Go p l e R s m args below meth c n0 C N Q Z a0 EL hh0 SF h ce sl q Ls (.long z :: st)) : Go p l e R s m args below meth c n0 C N Q Z a0 EL hh0 SF h ce sl pc Ls (st) := by
  subst hq
  exact Go.step (fun T vm0 k0 locs target X hS _ S => XT.lconst X.here hx rfl hd (by rw [hz]; exact S)) G
theorem Go.ldcInt (hx : p.tables.exec = Jvm.exec) (hZ : Z.Warmed39 s.vm) {own : String} {index : Nat} {v : Int32} (hown : s.vm.findClass own = some m.cls) (hw : (Cond.constant own index v).before a0 Z = true) (hd : decode c.code pc = .ok (.ldc index, 2)) (hq : q = pc + 2) (G : Go p l e R s m args below meth c n0 C N Q Z a0 EL hh0 SF h ce sl q Ls (.int v :: st)) : Go p l e R s m args below meth c n0 C N Q Z a0 EL hh0 SF h ce sl pc Ls st := by
  subst hq
  exact Go.step (fun T vm0 k0 locs target X hS _ S => X.ldcInt hx (wO hown hS) (mvT (wZ hZ hS) hw) (g := mkF m pc Ls st) rfl hd target S) G
theorem Go.ldc2Long (hx : p.tables.exec = Jvm.exec) (hZ : Z.Warmed39 s.vm) {own : String} {index : Nat} {v : Int64} (hown : s.vm.findClass own = some m.cls) (hw : (Cond.constantLong own index v).before a0 Z = true) (hd : decode c.code pc = .ok (.ldc2_w index, 3)) (hq : q = pc + 3) (G : Go p l e R s m args below meth c n0 C N Q Z a0 EL hh0 SF h ce sl q Ls (.long v :: st)) : Go p l e R s m args below meth c n0 C N Q Z a0 EL hh0 SF h ce sl pc Ls st := by
  subst hq
  exact Go.step (fun T vm0 k0 locs target X hS _ S => X.ldc2Long hx (wO hown hS) (mvT (wZ hZ hS) hw) (g := mkF m pc Ls st) rfl hd target S) G
theorem Go.iadd (hx : p.tables.exec = Jvm.exec) {x y : Int32} (hd : decode c.code pc = .ok (.iadd, 1))  (hq : q = pc + 1) (G : Go p l e R s m args below meth c n0 C N Q Z a0 EL hh0 SF h ce sl q Ls (.int (x + y) :: st)) : Go p l e R s m args below meth c n0 C N Q Z a0 EL hh0 SF h ce sl pc Ls (.int y :: .int x :: st) := by
  subst hq
  exact Go.step (fun T vm0 k0 locs target X hS _ S => XS.iadd X.here hx rfl hd rfl S) G
theorem Go.isub (hx : p.tables.exec = Jvm.exec) {x y : Int32} (hd : decode c.code pc = .ok (.isub, 1))  (hq : q = pc + 1) (G : Go p l e R s m args below meth c n0 C N Q Z a0 EL hh0 SF h ce sl q Ls (.int (x - y) :: st)) : Go p l e R s m args below meth c n0 C N Q Z a0 EL hh0 SF h ce sl pc Ls (.int y :: .int x :: st) := by
  subst hq
  exact Go.step (fun T vm0 k0 locs target X hS _ S => XS.isub X.here hx rfl hd rfl S) G
theorem Go.iand (hx : p.tables.exec = Jvm.exec) {x y : Int32} (hd : decode c.code pc = .ok (.iand, 1))  (hq : q = pc + 1) (G : Go p l e R s m args below meth c n0 C N Q Z a0 EL hh0 SF h ce sl q Ls (.int (x &&& y) :: st)) : Go p l e R s m args below meth c n0 C N Q Z a0 EL hh0 SF h ce sl pc Ls (.int y :: .int x :: st) := by
  subst hq
  exact Go.step (fun T vm0 k0 locs target X hS _ S => XS.iand X.here hx rfl hd rfl S) G
theorem Go.imul (hx : p.tables.exec = Jvm.exec) {x y : Int32} (hd : decode c.code pc = .ok (.imul, 1))  (hq : q = pc + 1) (G : Go p l e R s m args below meth c n0 C N Q Z a0 EL hh0 SF h ce sl q Ls (.int (x * y) :: st)) : Go p l e R s m args below meth c n0 C N Q Z a0 EL hh0 SF h ce sl pc Ls (.int y :: .int x :: st) := by
  subst hq
  exact Go.step (fun T vm0 k0 locs target X hS _ S => XS.imul X.here hx rfl hd rfl S) G
theorem Go.idiv (hx : p.tables.exec = Jvm.exec) {x y : Int32} (hd : decode c.code pc = .ok (.idiv, 1)) (hy : y ≠ 0) (hq : q = pc + 1) (G : Go p l e R s m args below meth c n0 C N Q Z a0 EL hh0 SF h ce sl q Ls (.int (x / y) :: st)) : Go p l e R s m args below meth c n0 C N Q Z a0 EL hh0 SF h ce sl pc Ls (.int y :: .int x :: st) := by
  subst hq
  exact Go.step (fun T vm0 k0 locs target X hS _ S => XS.idiv X.here hx rfl hd rfl hy S) G
theorem Go.irem (hx : p.tables.exec = Jvm.exec) {x y : Int32} (hd : decode c.code pc = .ok (.irem, 1)) (hy : y ≠ 0) (hq : q = pc + 1) (G : Go p l e R s m args below meth c n0 C N Q Z a0 EL hh0 SF h ce sl q Ls (.int (x % y) :: st)) : Go p l e R s m args below meth c n0 C N Q Z a0 EL hh0 SF h ce sl pc Ls (.int y :: .int x :: st) := by
  subst hq
  exact Go.step (fun T vm0 k0 locs target X hS _ S => iremM X hx rfl hd rfl hy S) G
theorem Go.ineg (hx : p.tables.exec = Jvm.exec) {x : Int32} (hd : decode c.code pc = .ok (.ineg, 1))  (hq : q = pc + 1) (G : Go p l e R s m args below meth c n0 C N Q Z a0 EL hh0 SF h ce sl q Ls (.int (-x) :: st)) : Go p l e R s m args below meth c n0 C N Q Z a0 EL hh0 SF h ce sl pc Ls (.int x :: st) := by
  subst hq
  exact Go.step (fun T vm0 k0 locs target X hS _ S => XS.ineg X.here hx rfl hd rfl S) G
theorem Go.ixor (hx : p.tables.exec = Jvm.exec) {x y : Int32} (hd : decode c.code pc = .ok (.ixor, 1))  (hq : q = pc + 1) (G : Go p l e R s m args below meth c n0 C N Q Z a0 EL hh0 SF h ce sl q Ls (.int (x ^^^ y) :: st)) : Go p l e R s m args below meth c n0 C N Q Z a0 EL hh0 SF h ce sl pc Ls (.int y :: .int x :: st) := by
  subst hq
  exact Go.step (fun T vm0 k0 locs target X hS _ S => XT.ixor X.here hx rfl hd rfl S) G
theorem Go.ior (hx : p.tables.exec = Jvm.exec) {x y : Int32} (hd : decode c.code pc = .ok (.ior, 1))  (hq : q = pc + 1) (G : Go p l e R s m args below meth c n0 C N Q Z a0 EL hh0 SF h ce sl q Ls (.int (x ||| y) :: st)) : Go p l e R s m args below meth c n0 C N Q Z a0 EL hh0 SF h ce sl pc Ls (.int y :: .int x :: st) := by
  subst hq
  exact Go.step (fun T vm0 k0 locs target X hS _ S => XT.ior X.here hx rfl hd rfl S) G
theorem Go.ishl (hx : p.tables.exec = Jvm.exec) {x y : Int32} (hd : decode c.code pc = .ok (.ishl, 1))  (hq : q = pc + 1) (G : Go p l e R s m args below meth c n0 C N Q Z a0 EL hh0 SF h ce sl q Ls (.int (x <<< (y &&& 31)) :: st)) : Go p l e R s m args below meth c n0 C N Q Z a0 EL hh0 SF h ce sl pc Ls (.int y :: .int x :: st) := by
  subst hq
  exact Go.step (fun T vm0 k0 locs target X hS _ S => XT.ishl X.here hx rfl hd rfl S) G
theorem Go.ishr (hx : p.tables.exec = Jvm.exec) {x y : Int32} (hd : decode c.code pc = .ok (.ishr, 1))  (hq : q = pc + 1) (G : Go p l e R s m args below meth c n0 C N Q Z a0 EL hh0 SF h ce sl q Ls (.int (x >>> (y &&& 31)) :: st)) : Go p l e R s m args below meth c n0 C N Q Z a0 EL hh0 SF h ce sl pc Ls (.int y :: .int x :: st) := by
  subst hq
  exact Go.step (fun T vm0 k0 locs target X hS _ S => XT.ishr X.here hx rfl hd rfl S) G
theorem Go.iushr (hx : p.tables.exec = Jvm.exec) {x y : Int32} (hd : decode c.code pc = .ok (.iushr, 1))  (hq : q = pc + 1) (G : Go p l e R s m args below meth c n0 C N Q Z a0 EL hh0 SF h ce sl q Ls (.int (XT.ushr x y) :: st)) : Go p l e R s m args below meth c n0 C N Q Z a0 EL hh0 SF h ce sl pc Ls (.int y :: .int x :: st) := by
  subst hq
  exact Go.step (fun T vm0 k0 locs target X hS _ S => XT.iushr X.here hx rfl hd rfl S) G
theorem Go.ladd (hx : p.tables.exec = Jvm.exec) {x y : Int64} (hd : decode c.code pc = .ok (.ladd, 1))  (hq : q = pc + 1) (G : Go p l e R s m args below meth c n0 C N Q Z a0 EL hh0 SF h ce sl q Ls (.long (x + y) :: st)) : Go p l e R s m args below meth c n0 C N Q Z a0 EL hh0 SF h ce sl pc Ls (.long y :: .long x :: st) := by
  subst hq
  exact Go.step (fun T vm0 k0 locs target X hS _ S => XT.ladd X.here hx rfl hd rfl S) G
theorem Go.lsub (hx : p.tables.exec = Jvm.exec) {x y : Int64} (hd : decode c.code pc = .ok (.lsub, 1))  (hq : q = pc + 1) (G : Go p l e R s m args below meth c n0 C N Q Z a0 EL hh0 SF h ce sl q Ls (.long (x - y) :: st)) : Go p l e R s m args below meth c n0 C N Q Z a0 EL hh0 SF h ce sl pc Ls (.long y :: .long x :: st) := by
  subst hq
  exact Go.step (fun T vm0 k0 locs target X hS _ S => XT.lsub X.here hx rfl hd rfl S) G
theorem Go.lmul (hx : p.tables.exec = Jvm.exec) {x y : Int64} (hd : decode c.code pc = .ok (.lmul, 1))  (hq : q = pc + 1) (G : Go p l e R s m args below meth c n0 C N Q Z a0 EL hh0 SF h ce sl q Ls (.long (x * y) :: st)) : Go p l e R s m args below meth c n0 C N Q Z a0 EL hh0 SF h ce sl pc Ls (.long y :: .long x :: st) := by
  subst hq
  exact Go.step (fun T vm0 k0 locs target X hS _ S => XT.lmul X.here hx rfl hd rfl S) G
theorem Go.land (hx : p.tables.exec = Jvm.exec) {x y : Int64} (hd : decode c.code pc = .ok (.land, 1))  (hq : q = pc + 1) (G : Go p l e R s m args below meth c n0 C N Q Z a0 EL hh0 SF h ce sl q Ls (.long (x &&& y) :: st)) : Go p l e R s m args below meth c n0 C N Q Z a0 EL hh0 SF h ce sl pc Ls (.long y :: .long x :: st) := by
  subst hq
  exact Go.step (fun T vm0 k0 locs target X hS _ S => XT.land X.here hx rfl hd rfl S) G
theorem Go.lor (hx : p.tables.exec = Jvm.exec) {x y : Int64} (hd : decode c.code pc = .ok (.lor, 1))  (hq : q = pc + 1) (G : Go p l e R s m args below meth c n0 C N Q Z a0 EL hh0 SF h ce sl q Ls (.long (x ||| y) :: st)) : Go p l e R s m args below meth c n0 C N Q Z a0 EL hh0 SF h ce sl pc Ls (.long y :: .long x :: st) := by
  subst hq
  exact Go.step (fun T vm0 k0 locs target X hS _ S => XT.lor X.here hx rfl hd rfl S) G
theorem Go.lxor (hx : p.tables.exec = Jvm.exec) {x y : Int64} (hd : decode c.code pc = .ok (.lxor, 1))  (hq : q = pc + 1) (G : Go p l e R s m args below meth c n0 C N Q Z a0 EL hh0 SF h ce sl q Ls (.long (x ^^^ y) :: st)) : Go p l e R s m args below meth c n0 C N Q Z a0 EL hh0 SF h ce sl pc Ls (.long y :: .long x :: st) := by
  subst hq
  exact Go.step (fun T vm0 k0 locs target X hS _ S => XT.lxor X.here hx rfl hd rfl S) G
theorem Go.lshl (hx : p.tables.exec = Jvm.exec) {x : Int64} {y : Int32} (hd : decode c.code pc = .ok (.lshl, 1))  (hq : q = pc + 1) (G : Go p l e R s m args below meth c n0 C N Q Z a0 EL hh0 SF h ce sl q Ls (.long (x <<< (y.toInt64 &&& 63)) :: st)) : Go p l e R s m args below meth c n0 C N Q Z a0 EL hh0 SF h ce sl pc Ls (.int y :: .long x :: st) := by
  subst hq
  exact Go.step (fun T vm0 k0 locs target X hS _ S => XT.lshl X.here hx rfl hd rfl S) G
theorem Go.lshr (hx : p.tables.exec = Jvm.exec) {x : Int64} {y : Int32} (hd : decode c.code pc = .ok (.lshr, 1))  (hq : q = pc + 1) (G : Go p l e R s m args below meth c n0 C N Q Z a0 EL hh0 SF h ce sl q Ls (.long (x >>> (y.toInt64 &&& 63)) :: st)) : Go p l e R s m args below meth c n0 C N Q Z a0 EL hh0 SF h ce sl pc Ls (.int y :: .long x :: st) := by
  subst hq
  exact Go.step (fun T vm0 k0 locs target X hS _ S => XT.lshr X.here hx rfl hd rfl S) G
theorem Go.lushr (hx : p.tables.exec = Jvm.exec) {x : Int64} {y : Int32} (hd : decode c.code pc = .ok (.lushr, 1))  (hq : q = pc + 1) (G : Go p l e R s m args below meth c n0 C N Q Z a0 EL hh0 SF h ce sl q Ls (.long (XT.ushrL x y) :: st)) : Go p l e R s m args below meth c n0 C N Q Z a0 EL hh0 SF h ce sl pc Ls (.int y :: .long x :: st) := by
  subst hq
  exact Go.step (fun T vm0 k0 locs target X hS _ S => XT.lushr X.here hx rfl hd rfl S) G
theorem Go.lrem (hx : p.tables.exec = Jvm.exec) {x y : Int64} (hd : decode c.code pc = .ok (.lrem, 1)) (hy : y ≠ 0) (hq : q = pc + 1) (G : Go p l e R s m args below meth c n0 C N Q Z a0 EL hh0 SF h ce sl q Ls (.long (x - (x / y) * y) :: st)) : Go p l e R s m args below meth c n0 C N Q Z a0 EL hh0 SF h ce sl pc Ls (.long y :: .long x :: st) := by
  subst hq
  exact Go.step (fun T vm0 k0 locs target X hS _ S => XT.lrem X.here hx rfl hd rfl hy S) G
theorem Go.ldiv (hx : p.tables.exec = Jvm.exec) {x y : Int64} (hd : decode c.code pc = .ok (.ldiv, 1)) (hy : y ≠ 0) (hq : q = pc + 1) (G : Go p l e R s m args below meth c n0 C N Q Z a0 EL hh0 SF h ce sl q Ls (.long (x / y) :: st)) : Go p l e R s m args below meth c n0 C N Q Z a0 EL hh0 SF h ce sl pc Ls (.long y :: .long x :: st) := by
  subst hq
  exact Go.step (fun T vm0 k0 locs target X hS _ S => XT.ldiv X.here hx rfl hd rfl hy S) G
theorem Go.lneg (hx : p.tables.exec = Jvm.exec) {x : Int64} (hd : decode c.code pc = .ok (.lneg, 1))  (hq : q = pc + 1) (G : Go p l e R s m args below meth c n0 C N Q Z a0 EL hh0 SF h ce sl q Ls (.long (-x) :: st)) : Go p l e R s m args below meth c n0 C N Q Z a0 EL hh0 SF h ce sl pc Ls (.long x :: st) := by
  subst hq
  exact Go.step (fun T vm0 k0 locs target X hS _ S => XT.lneg X.here hx rfl hd rfl S) G
theorem Go.lcmp (hx : p.tables.exec = Jvm.exec) {x y : Int64} (hd : decode c.code pc = .ok (.lcmp, 1))  (hq : q = pc + 1) (G : Go p l e R s m args below meth c n0 C N Q Z a0 EL hh0 SF h ce sl q Ls (.int (XT.cmpL x y) :: st)) : Go p l e R s m args below meth c n0 C N Q Z a0 EL hh0 SF h ce sl pc Ls (.long y :: .long x :: st) := by
  subst hq
  exact Go.step (fun T vm0 k0 locs target X hS _ S => XT.lcmp X.here hx rfl hd rfl S) G
theorem Go.i2l (hx : p.tables.exec = Jvm.exec) {x : Int32} (hd : decode c.code pc = .ok (.i2l, 1))  (hq : q = pc + 1) (G : Go p l e R s m args below meth c n0 C N Q Z a0 EL hh0 SF h ce sl q Ls (.long (x.toInt64) :: st)) : Go p l e R s m args below meth c n0 C N Q Z a0 EL hh0 SF h ce sl pc Ls (.int x :: st) := by
  subst hq
  exact Go.step (fun T vm0 k0 locs target X hS _ S => XT.i2l X.here hx rfl hd rfl S) G
theorem Go.l2i (hx : p.tables.exec = Jvm.exec) {x : Int64} (hd : decode c.code pc = .ok (.l2i, 1))  (hq : q = pc + 1) (G : Go p l e R s m args below meth c n0 C N Q Z a0 EL hh0 SF h ce sl q Ls (.int (x.toInt32) :: st)) : Go p l e R s m args below meth c n0 C N Q Z a0 EL hh0 SF h ce sl pc Ls (.long x :: st) := by
  subst hq
  exact Go.step (fun T vm0 k0 locs target X hS _ S => XT.l2i X.here hx rfl hd rfl S) G
theorem Go.i2b (hx : p.tables.exec = Jvm.exec) {x : Int32} (hd : decode c.code pc = .ok (.i2b, 1))  (hq : q = pc + 1) (G : Go p l e R s m args below meth c n0 C N Q Z a0 EL hh0 SF h ce sl q Ls (.int (x.toInt8.toInt32) :: st)) : Go p l e R s m args below meth c n0 C N Q Z a0 EL hh0 SF h ce sl pc Ls (.int x :: st) := by
  subst hq
  exact Go.step (fun T vm0 k0 locs target X hS _ S => XT.i2b X.here hx rfl hd rfl S) G
theorem Go.i2c (hx : p.tables.exec = Jvm.exec) {x : Int32} (hd : decode c.code pc = .ok (.i2c, 1))  (hq : q = pc + 1) (G : Go p l e R s m args below meth c n0 C N Q Z a0 EL hh0 SF h ce sl q Ls (.int (x.toUInt32.toUInt16.toUInt32.toInt32) :: st)) : Go p l e R s m args below meth c n0 C N Q Z a0 EL hh0 SF h ce sl pc Ls (.int x :: st) := by
  subst hq
  exact Go.step (fun T vm0 k0 locs target X hS _ S => XT.i2c X.here hx rfl hd rfl S) G
theorem Go.i2s (hx : p.tables.exec = Jvm.exec) {x : Int32} (hd : decode c.code pc = .ok (.i2s, 1))  (hq : q = pc + 1) (G : Go p l e R s m args below meth c n0 C N Q Z a0 EL hh0 SF h ce sl q Ls (.int (x.toInt16.toInt32) :: st)) : Go p l e R s m args below meth c n0 C N Q Z a0 EL hh0 SF h ce sl pc Ls (.int x :: st) := by
  subst hq
  exact Go.step (fun T vm0 k0 locs target X hS _ S => XT.i2s X.here hx rfl hd rfl S) G
theorem Go.dup (hx : p.tables.exec = Jvm.exec) {x : Value} (hd : decode c.code pc = .ok (.dup, 1)) (hc : x.category = 1) (hq : q = pc + 1) (G : Go p l e R s m args below meth c n0 C N Q Z a0 EL hh0 SF h ce sl q Ls (x :: x :: st)) : Go p l e R s m args below meth c n0 C N Q Z a0 EL hh0 SF h ce sl pc Ls (x :: st) := by
  subst hq
  exact Go.step (fun T vm0 k0 locs target X hS _ S => XS.dup X.here hx rfl hd rfl hc S) G
theorem Go.pop (hx : p.tables.exec = Jvm.exec) {x : Value} (hd : decode c.code pc = .ok (.pop, 1)) (hc : x.category = 1) (hq : q = pc + 1) (G : Go p l e R s m args below meth c n0 C N Q Z a0 EL hh0 SF h ce sl q Ls (st)) : Go p l e R s m args below meth c n0 C N Q Z a0 EL hh0 SF h ce sl pc Ls (x :: st) := by
  subst hq
  exact Go.step (fun T vm0 k0 locs target X hS _ S => XT.pop X.here hx rfl hd rfl hc S) G
theorem Go.dupX1 (hx : p.tables.exec = Jvm.exec) {x y : Value} (hd : decode c.code pc = .ok (.dup_x1, 1)) (hc : x.category = 1) (hc' : y.category = 1) (hq : q = pc + 1) (G : Go p l e R s m args below meth c n0 C N Q Z a0 EL hh0 SF h ce sl q Ls (x :: y :: x :: st)) : Go p l e R s m args below meth c n0 C N Q Z a0 EL hh0 SF h ce sl pc Ls (x :: y :: st) := by
  subst hq
  exact Go.step (fun T vm0 k0 locs target X hS _ S => XT.dupX1 X.here hx rfl hd rfl hc hc' S) G
theorem Go.dup2 (hx : p.tables.exec = Jvm.exec) {x y : Value} (hd : decode c.code pc = .ok (.dup2, 1)) (hc : x.category = 1) (hc' : y.category = 1) (hq : q = pc + 1) (G : Go p l e R s m args below meth c n0 C N Q Z a0 EL hh0 SF h ce sl q Ls (x :: y :: x :: y :: st)) : Go p l e R s m args below meth c n0 C N Q Z a0 EL hh0 SF h ce sl pc Ls (x :: y :: st) := by
  subst hq
  exact Go.step (fun T vm0 k0 locs target X hS _ S => XT.dup2 X.here hx rfl hd rfl hc hc' S) G
theorem Go.dup2L (hx : p.tables.exec = Jvm.exec) {x : Int64} (hd : decode c.code pc = .ok (.dup2, 1))  (hq : q = pc + 1) (G : Go p l e R s m args below meth c n0 C N Q Z a0 EL hh0 SF h ce sl q Ls (.long x :: .long x :: st)) : Go p l e R s m args below meth c n0 C N Q Z a0 EL hh0 SF h ce sl pc Ls (.long x :: st) := by
  subst hq
  exact Go.step (fun T vm0 k0 locs target X hS _ S => XT.dup2L X.here hx rfl hd rfl S) G
theorem Go.goto (hx : p.tables.exec = Jvm.exec) {o : Int} (hd : decode c.code pc = .ok (.goto o, 3)) (ho : 0 ≤ (pc : Int) + o) (hq : ((pc : Int) + o).toNat = q) (G : Go p l e R s m args below meth c n0 C N Q Z a0 EL hh0 SF h ce sl q Ls st) : Go p l e R s m args below meth c n0 C N Q Z a0 EL hh0 SF h ce sl pc Ls st :=
  Go.step (fun T vm0 k0 locs target X hS _ S => XS.goto X.here hx rfl rfl hd ho hq S) G
theorem Go.icmp_eq (hx : p.tables.exec = Jvm.exec) {x y : Int32} {o : Int} {t : Nat} (hd : decode c.code pc = .ok (.if_icmp .eq o, 3)) (ho : 0 ≤ (pc : Int) + o) (ht : ((pc : Int) + o).toNat = t) (hq : q = pc + 3) (Gt : x = y → Go p l e R s m args below meth c n0 C N Q Z a0 EL hh0 SF h ce sl t Ls st) (Gf : ¬ x = y → Go p l e R s m args below meth c n0 C N Q Z a0 EL hh0 SF h ce sl q Ls st) : Go p l e R s m args below meth c n0 C N Q Z a0 EL hh0 SF h ce sl pc Ls (.int y :: .int x :: st) := by
  subst hq
  by_cases hc : x = y
  · exact Go.step (fun T vm0 k0 locs target X hS _ S => XS.icmpYes X.here hx rfl rfl hd rfl (teq hc).1 ho ht S) (Gt hc)
  · exact Go.step (fun T vm0 k0 locs target X hS _ S => XS.icmpNo X.here hx rfl hd rfl (feq hc).1 S) (Gf hc)
theorem Go.if_eq (hx : p.tables.exec = Jvm.exec) {x : Int32} {o : Int} {t : Nat} (hd : decode c.code pc = .ok (.ifCond .eq o, 3)) (ho : 0 ≤ (pc : Int) + o) (ht : ((pc : Int) + o).toNat = t) (hq : q = pc + 3) (Gt : x = 0 → Go p l e R s m args below meth c n0 C N Q Z a0 EL hh0 SF h ce sl t Ls st) (Gf : ¬ x = 0 → Go p l e R s m args below meth c n0 C N Q Z a0 EL hh0 SF h ce sl q Ls st) : Go p l e R s m args below meth c n0 C N Q Z a0 EL hh0 SF h ce sl pc Ls (.int x :: st) := by
  subst hq
  by_cases hc : x = 0
  · exact Go.step (fun T vm0 k0 locs target X hS _ S => XS.ifYes X.here hx rfl rfl hd rfl ((if0 _ _).trans (teq hc).1) ho ht S) (Gt hc)
  · exact Go.step (fun T vm0 k0 locs target X hS _ S => XS.ifNo X.here hx rfl hd rfl ((if0 _ _).trans (feq hc).1) S) (Gf hc)
theorem Go.icmp_ne (hx : p.tables.exec = Jvm.exec) {x y : Int32} {o : Int} {t : Nat} (hd : decode c.code pc = .ok (.if_icmp .ne o, 3)) (ho : 0 ≤ (pc : Int) + o) (ht : ((pc : Int) + o).toNat = t) (hq : q = pc + 3) (Gt : ¬ x = y → Go p l e R s m args below meth c n0 C N Q Z a0 EL hh0 SF h ce sl t Ls st) (Gf : x = y → Go p l e R s m args below meth c n0 C N Q Z a0 EL hh0 SF h ce sl q Ls st) : Go p l e R s m args below meth c n0 C N Q Z a0 EL hh0 SF h ce sl pc Ls (.int y :: .int x :: st) := by
  subst hq
  by_cases hc : x = y
  · exact Go.step (fun T vm0 k0 locs target X hS _ S => XS.icmpNo X.here hx rfl hd rfl (teq hc).2 S) (Gf hc)
  · exact Go.step (fun T vm0 k0 locs target X hS _ S => XS.icmpYes X.here hx rfl rfl hd rfl (feq hc).2 ho ht S) (Gt hc)
theorem Go.if_ne (hx : p.tables.exec = Jvm.exec) {x : Int32} {o : Int} {t : Nat} (hd : decode c.code pc = .ok (.ifCond .ne o, 3)) (ho : 0 ≤ (pc : Int) + o) (ht : ((pc : Int) + o).toNat = t) (hq : q = pc + 3) (Gt : ¬ x = 0 → Go p l e R s m args below meth c n0 C N Q Z a0 EL hh0 SF h ce sl t Ls st) (Gf : x = 0 → Go p l e R s m args below meth c n0 C N Q Z a0 EL hh0 SF h ce sl q Ls st) : Go p l e R s m args below meth c n0 C N Q Z a0 EL hh0 SF h ce sl pc Ls (.int x :: st) := by
  subst hq
  by_cases hc : x = 0
  · exact Go.step (fun T vm0 k0 locs target X hS _ S => XS.ifNo X.here hx rfl hd rfl ((if0 _ _).trans (teq hc).2) S) (Gf hc)
  · exact Go.step (fun T vm0 k0 locs target X hS _ S => XS.ifYes X.here hx rfl rfl hd rfl ((if0 _ _).trans (feq hc).2) ho ht S) (Gt hc)
theorem Go.icmp_lt (hx : p.tables.exec = Jvm.exec) {x y : Int32} {o : Int} {t : Nat} (hd : decode c.code pc = .ok (.if_icmp .lt o, 3)) (ho : 0 ≤ (pc : Int) + o) (ht : ((pc : Int) + o).toNat = t) (hq : q = pc + 3) (Gt : x < y → Go p l e R s m args below meth c n0 C N Q Z a0 EL hh0 SF h ce sl t Ls st) (Gf : ¬ x < y → Go p l e R s m args below meth c n0 C N Q Z a0 EL hh0 SF h ce sl q Ls st) : Go p l e R s m args below meth c n0 C N Q Z a0 EL hh0 SF h ce sl pc Ls (.int y :: .int x :: st) := by
  subst hq
  by_cases hc : x < y
  · exact Go.step (fun T vm0 k0 locs target X hS _ S => XS.icmpYes X.here hx rfl rfl hd rfl (tlt hc).1 ho ht S) (Gt hc)
  · exact Go.step (fun T vm0 k0 locs target X hS _ S => XS.icmpNo X.here hx rfl hd rfl (flt hc).1 S) (Gf hc)
theorem Go.if_lt (hx : p.tables.exec = Jvm.exec) {x : Int32} {o : Int} {t : Nat} (hd : decode c.code pc = .ok (.ifCond .lt o, 3)) (ho : 0 ≤ (pc : Int) + o) (ht : ((pc : Int) + o).toNat = t) (hq : q = pc + 3) (Gt : x < 0 → Go p l e R s m args below meth c n0 C N Q Z a0 EL hh0 SF h ce sl t Ls st) (Gf : ¬ x < 0 → Go p l e R s m args below meth c n0 C N Q Z a0 EL hh0 SF h ce sl q Ls st) : Go p l e R s m args below meth c n0 C N Q Z a0 EL hh0 SF h ce sl pc Ls (.int x :: st) := by
  subst hq
  by_cases hc : x < 0
  · exact Go.step (fun T vm0 k0 locs target X hS _ S => XS.ifYes X.here hx rfl rfl hd rfl ((if0 _ _).trans (tlt hc).1) ho ht S) (Gt hc)
  · exact Go.step (fun T vm0 k0 locs target X hS _ S => XS.ifNo X.here hx rfl hd rfl ((if0 _ _).trans (flt hc).1) S) (Gf hc)
theorem Go.icmp_ge (hx : p.tables.exec = Jvm.exec) {x y : Int32} {o : Int} {t : Nat} (hd : decode c.code pc = .ok (.if_icmp .ge o, 3)) (ho : 0 ≤ (pc : Int) + o) (ht : ((pc : Int) + o).toNat = t) (hq : q = pc + 3) (Gt : ¬ x < y → Go p l e R s m args below meth c n0 C N Q Z a0 EL hh0 SF h ce sl t Ls st) (Gf : x < y → Go p l e R s m args below meth c n0 C N Q Z a0 EL hh0 SF h ce sl q Ls st) : Go p l e R s m args below meth c n0 C N Q Z a0 EL hh0 SF h ce sl pc Ls (.int y :: .int x :: st) := by
  subst hq
  by_cases hc : x < y
  · exact Go.step (fun T vm0 k0 locs target X hS _ S => XS.icmpNo X.here hx rfl hd rfl (tlt hc).2.1 S) (Gf hc)
  · exact Go.step (fun T vm0 k0 locs target X hS _ S => XS.icmpYes X.here hx rfl rfl hd rfl (flt hc).2.1 ho ht S) (Gt hc)
theorem Go.if_ge (hx : p.tables.exec = Jvm.exec) {x : Int32} {o : Int} {t : Nat} (hd : decode c.code pc = .ok (.ifCond .ge o, 3)) (ho : 0 ≤ (pc : Int) + o) (ht : ((pc : Int) + o).toNat = t) (hq : q = pc + 3) (Gt : ¬ x < 0 → Go p l e R s m args below meth c n0 C N Q Z a0 EL hh0 SF h ce sl t Ls st) (Gf : x < 0 → Go p l e R s m args below meth c n0 C N Q Z a0 EL hh0 SF h ce sl q Ls st) : Go p l e R s m args below meth c n0 C N Q Z a0 EL hh0 SF h ce sl pc Ls (.int x :: st) := by
  subst hq
  by_cases hc : x < 0
  · exact Go.step (fun T vm0 k0 locs target X hS _ S => XS.ifNo X.here hx rfl hd rfl ((if0 _ _).trans (tlt hc).2.1) S) (Gf hc)
  · exact Go.step (fun T vm0 k0 locs target X hS _ S => XS.ifYes X.here hx rfl rfl hd rfl ((if0 _ _).trans (flt hc).2.1) ho ht S) (Gt hc)
theorem Go.icmp_gt (hx : p.tables.exec = Jvm.exec) {x y : Int32} {o : Int} {t : Nat} (hd : decode c.code pc = .ok (.if_icmp .gt o, 3)) (ho : 0 ≤ (pc : Int) + o) (ht : ((pc : Int) + o).toNat = t) (hq : q = pc + 3) (Gt : y < x → Go p l e R s m args below meth c n0 C N Q Z a0 EL hh0 SF h ce sl t Ls st) (Gf : ¬ y < x → Go p l e R s m args below meth c n0 C N Q Z a0 EL hh0 SF h ce sl q Ls st) : Go p l e R s m args below meth c n0 C N Q Z a0 EL hh0 SF h ce sl pc Ls (.int y :: .int x :: st) := by
  subst hq
  by_cases hc : y < x
  · exact Go.step (fun T vm0 k0 locs target X hS _ S => XS.icmpYes X.here hx rfl rfl hd rfl (tlt hc).2.2.1 ho ht S) (Gt hc)
  · exact Go.step (fun T vm0 k0 locs target X hS _ S => XS.icmpNo X.here hx rfl hd rfl (flt hc).2.2.1 S) (Gf hc)
theorem Go.if_gt (hx : p.tables.exec = Jvm.exec) {x : Int32} {o : Int} {t : Nat} (hd : decode c.code pc = .ok (.ifCond .gt o, 3)) (ho : 0 ≤ (pc : Int) + o) (ht : ((pc : Int) + o).toNat = t) (hq : q = pc + 3) (Gt : 0 < x → Go p l e R s m args below meth c n0 C N Q Z a0 EL hh0 SF h ce sl t Ls st) (Gf : ¬ 0 < x → Go p l e R s m args below meth c n0 C N Q Z a0 EL hh0 SF h ce sl q Ls st) : Go p l e R s m args below meth c n0 C N Q Z a0 EL hh0 SF h ce sl pc Ls (.int x :: st) := by
  subst hq
  by_cases hc : 0 < x
  · exact Go.step (fun T vm0 k0 locs target X hS _ S => XS.ifYes X.here hx rfl rfl hd rfl ((if0 _ _).trans (tlt hc).2.2.1) ho ht S) (Gt hc)
  · exact Go.step (fun T vm0 k0 locs target X hS _ S => XS.ifNo X.here hx rfl hd rfl ((if0 _ _).trans (flt hc).2.2.1) S) (Gf hc)
theorem Go.icmp_le (hx : p.tables.exec = Jvm.exec) {x y : Int32} {o : Int} {t : Nat} (hd : decode c.code pc = .ok (.if_icmp .le o, 3)) (ho : 0 ≤ (pc : Int) + o) (ht : ((pc : Int) + o).toNat = t) (hq : q = pc + 3) (Gt : ¬ y < x → Go p l e R s m args below meth c n0 C N Q Z a0 EL hh0 SF h ce sl t Ls st) (Gf : y < x → Go p l e R s m args below meth c n0 C N Q Z a0 EL hh0 SF h ce sl q Ls st) : Go p l e R s m args below meth c n0 C N Q Z a0 EL hh0 SF h ce sl pc Ls (.int y :: .int x :: st) := by
  subst hq
  by_cases hc : y < x
  · exact Go.step (fun T vm0 k0 locs target X hS _ S => XS.icmpNo X.here hx rfl hd rfl (tlt hc).2.2.2 S) (Gf hc)
  · exact Go.step (fun T vm0 k0 locs target X hS _ S => XS.icmpYes X.here hx rfl rfl hd rfl (flt hc).2.2.2 ho ht S) (Gt hc)
theorem Go.if_le (hx : p.tables.exec = Jvm.exec) {x : Int32} {o : Int} {t : Nat} (hd : decode c.code pc = .ok (.ifCond .le o, 3)) (ho : 0 ≤ (pc : Int) + o) (ht : ((pc : Int) + o).toNat = t) (hq : q = pc + 3) (Gt : ¬ 0 < x → Go p l e R s m args below meth c n0 C N Q Z a0 EL hh0 SF h ce sl t Ls st) (Gf : 0 < x → Go p l e R s m args below meth c n0 C N Q Z a0 EL hh0 SF h ce sl q Ls st) : Go p l e R s m args below meth c n0 C N Q Z a0 EL hh0 SF h ce sl pc Ls (.int x :: st) := by
  subst hq
  by_cases hc : 0 < x
  · exact Go.step (fun T vm0 k0 locs target X hS _ S => XS.ifNo X.here hx rfl hd rfl ((if0 _ _).trans (tlt hc).2.2.2) S) (Gf hc)
  · exact Go.step (fun T vm0 k0 locs target X hS _ S => XS.ifYes X.here hx rfl rfl hd rfl ((if0 _ _).trans (flt hc).2.2.2) ho ht S) (Gt hc)
theorem Go.ifnullT (hx : p.tables.exec = Jvm.exec) {b : Addr} {o : Int} {t : Nat} (hd : decode c.code pc = .ok (.ifnull o, 3)) (ho : 0 ≤ (pc : Int) + o) (ht : ((pc : Int) + o).toNat = t) (G : Go p l e R s m args below meth c n0 C N Q Z a0 EL hh0 SF h ce sl t Ls st) : Go p l e R s m args below meth c n0 C N Q Z a0 EL hh0 SF h ce sl pc Ls (.null :: st) :=
  Go.step (fun T vm0 k0 locs target X hS _ S => XS.ifnullYes X.here hx rfl rfl hd rfl ho ht S) G
theorem Go.ifnullF (hx : p.tables.exec = Jvm.exec) {b : Addr} {o : Int} (hd : decode c.code pc = .ok (.ifnull o, 3)) (hq : q = pc + 3) (G : Go p l e R s m args below meth c n0 C N Q Z a0 EL hh0 SF h ce sl q Ls st) : Go p l e R s m args below meth c n0 C N Q Z a0 EL hh0 SF h ce sl pc Ls (.ref b :: st) := by
  subst hq
  exact Go.step (fun T vm0 k0 locs target X hS _ S => XS.ifnullNo X.here hx rfl hd rfl S) G
theorem Go.ifnonnullT (hx : p.tables.exec = Jvm.exec) {b : Addr} {o : Int} {t : Nat} (hd : decode c.code pc = .ok (.ifnonnull o, 3)) (ho : 0 ≤ (pc : Int) + o) (ht : ((pc : Int) + o).toNat = t) (G : Go p l e R s m args below meth c n0 C N Q Z a0 EL hh0 SF h ce sl t Ls st) : Go p l e R s m args below meth c n0 C N Q Z a0 EL hh0 SF h ce sl pc Ls (.ref b :: st) :=
  Go.step (fun T vm0 k0 locs target X hS _ S => XT.ifnonnullYes X.here hx rfl rfl hd rfl ho ht S) G
theorem Go.ifnonnullF (hx : p.tables.exec = Jvm.exec) {b : Addr} {o : Int} (hd : decode c.code pc = .ok (.ifnonnull o, 3)) (hq : q = pc + 3) (G : Go p l e R s m args below meth c n0 C N Q Z a0 EL hh0 SF h ce sl q Ls st) : Go p l e R s m args below meth c n0 C N Q Z a0 EL hh0 SF h ce sl pc Ls (.null :: st) := by
  subst hq
  exact Go.step (fun T vm0 k0 locs target X hS _ S => XT.ifnonnullNo X.here hx rfl hd rfl S) G
theorem Go.acmp_eq (hx : p.tables.exec = Jvm.exec) {x y : Value} {o : Int} {t : Nat} (hvx : x.isRef = true) (hvy : y.isRef = true) (hd : decode c.code pc = .ok (.if_acmp .eq o, 3)) (ho : 0 ≤ (pc : Int) + o) (ht : ((pc : Int) + o).toNat = t) (hq : q = pc + 3) (Gt : x = y → Go p l e R s m args below meth c n0 C N Q Z a0 EL hh0 SF h ce sl t Ls st) (Gf : ¬ x = y → Go p l e R s m args below meth c n0 C N Q Z a0 EL hh0 SF h ce sl q Ls st) : Go p l e R s m args below meth c n0 C N Q Z a0 EL hh0 SF h ce sl pc Ls (y :: x :: st) := by
  subst hq
  by_cases hc : x = y
  · exact Go.step (fun T vm0 k0 locs target X hS _ S => XT.acmpYes X.here hx rfl rfl hd rfl hvx hvy (by simp [XT.acmp, hc]) ho ht S) (Gt hc)
  · exact Go.step (fun T vm0 k0 locs target X hS _ S => XT.acmpNo X.here hx rfl hd rfl hvx hvy (by simp [XT.acmp, hc]) S) (Gf hc)
theorem Go.acmp_ne (hx : p.tables.exec = Jvm.exec) {x y : Value} {o : Int} {t : Nat} (hvx : x.isRef = true) (hvy : y.isRef = true) (hd : decode c.code pc = .ok (.if_acmp .ne o, 3)) (ho : 0 ≤ (pc : Int) + o) (ht : ((pc : Int) + o).toNat = t) (hq : q = pc + 3) (Gt : ¬ x = y → Go p l e R s m args below meth c n0 C N Q Z a0 EL hh0 SF h ce sl t Ls st) (Gf : x = y → Go p l e R s m args below meth c n0 C N Q Z a0 EL hh0 SF h ce sl q Ls st) : Go p l e R s m args below meth c n0 C N Q Z a0 EL hh0 SF h ce sl pc Ls (y :: x :: st) := by
  subst hq
  by_cases hc : x = y
  · exact Go.step (fun T vm0 k0 locs target X hS _ S => XT.acmpNo X.here hx rfl hd rfl hvx hvy (by simp [XT.acmp, hc]) S) (Gf hc)
  · exact Go.step (fun T vm0 k0 locs target X hS _ S => XT.acmpYes X.here hx rfl rfl hd rfl hvx hvy (by simp [XT.acmp, hc]) ho ht S) (Gt hc)
theorem Go.retV (hx : p.tables.exec = Jvm.exec) {wv : Value} {t : FieldType} {i : Instr} (hret : meth.sig.returnType = some t) (hlk : meth.locks = false) (hn : narrow t wv = wv)
    (hi : (i = .ireturn ∧ (t = .int ∨ t = .boolean ∨ t = .byte ∨ t = .char ∨ t = .short) ∧ ∃ z, wv = .int z) ∨ (i = .lreturn ∧ t = .long ∧ ∃ z, wv = .long z) ∨ (i = .dreturn ∧ t = .double ∧ ∃ z, wv = .double z) ∨ (i = .freturn ∧ t = .float ∧ ∃ z, wv = .float z) ∨ (i = .areturn ∧ t.isReference = true ∧ wv.isRef = true))
    (hd : decode c.code pc = .ok (i, 1)) (hc : ce ≤ C) (hs : sl ≤ N) (hQ : Q (some wv) h) : Go p l e R s m args below meth c n0 C N Q Z a0 EL hh0 SF h ce sl pc Ls (wv :: st) := fun T vm0 locs k0 hz hel X hS hk hC hF Nf eT => by
  obtain ⟨fs, hr, hrun, hended, hRW⟩ := X.leaveW hS (by rw [eT]; exact hk) (v := some wv) (fun hh => by rw [hret] at hh; cases hh)
  refine ⟨_, _, _, retOut X hx hret hn hi hd hr, hrun, hended, ⟨?_, Nf⟩, ?_, hRW.1, hRW.2.1, hRW.2.2.1, hRW.2.2.2.mono hc hs⟩
  · show Q _ T.heap
    rw [eT]; exact hQ
  · show CHr Z EL s.vm hh0 T.vm T.heap
    rw [eT]; exact hC.trans (CHv.at X (wZ hz hS) hel hC.1)
theorem Go.retI (hx : p.tables.exec = Jvm.exec) {z : Int32} (hret : meth.sig.returnType = some .int) (hlk : meth.locks = false) (hd : decode c.code pc = .ok (.ireturn, 1)) (hc : ce ≤ C) (hs : sl ≤ N) (hQ : Q (some (.int z)) h) : Go p l e R s m args below meth c n0 C N Q Z a0 EL hh0 SF h ce sl pc Ls (.int z :: st) :=
  Go.retV hx hret hlk rfl (Or.inl ⟨rfl, Or.inl rfl, _, rfl⟩) hd hc hs hQ
theorem Go.retL (hx : p.tables.exec = Jvm.exec) {z : Int64} (hret : meth.sig.returnType = some .long) (hlk : meth.locks = false) (hd : decode c.code pc = .ok (.lreturn, 1)) (hc : ce ≤ C) (hs : sl ≤ N) (hQ : Q (some (.long z)) h) : Go p l e R s m args below meth c n0 C N Q Z a0 EL hh0 SF h ce sl pc Ls (.long z :: st) :=
  Go.retV hx hret hlk rfl (Or.inr (Or.inl ⟨rfl, rfl, _, rfl⟩)) hd hc hs hQ
theorem Go.retA (hx : p.tables.exec = Jvm.exec) {wv : Value} {t : FieldType} (hret : meth.sig.returnType = some t) (ht : t.isReference = true) (hv : wv.isRef = true) (hlk : meth.locks = false) (hd : decode c.code pc = .ok (.areturn, 1)) (hc : ce ≤ C) (hs : sl ≤ N) (hQ : Q (some wv) h) : Go p l e R s m args below meth c n0 C N Q Z a0 EL hh0 SF h ce sl pc Ls (wv :: st) :=
  Go.retV hx hret hlk (by cases wv <;> cases t <;> simp_all [Value.isRef, FieldType.isReference, narrow]) (Or.inr (Or.inr (Or.inr (Or.inr ⟨rfl, ht, hv⟩)))) hd hc hs hQ
theorem Go.retN (hx : p.tables.exec = Jvm.exec) {z : Int32} {t : FieldType} (hret : meth.sig.returnType = some t) (ht : t = .boolean ∨ t = .byte ∨ t = .char ∨ t = .short) (hlk : meth.locks = false) (hd : decode c.code pc = .ok (.ireturn, 1)) (hc : ce ≤ C) (hs : sl ≤ N) (hQ : Q (some (.int (nar t z))) h) : Go p l e R s m args below meth c n0 C N Q Z a0 EL hh0 SF h ce sl pc Ls (.int z :: st) := fun T vm0 locs k0 hz hel X hS hk hC hF Nf eT => by
  obtain ⟨fs, hr, hrun, hended, hRW⟩ := X.leaveW hS (by rw [eT]; exact hk) (v := some (.int (nar t z))) (fun hh => by rw [hret] at hh; cases hh)
  refine ⟨_, _, _, Jvm.RoadKit.retN X hx hret ht hd hr, hrun, hended, ⟨?_, Nf⟩, ?_, hRW.1, hRW.2.1, hRW.2.2.1, hRW.2.2.2.mono hc hs⟩
  · show Q _ T.heap
    rw [eT]; exact hQ
  · show CHr Z EL s.vm hh0 T.vm T.heap
    rw [eT]; exact hC.trans (CHv.at X (wZ hz hS) hel hC.1)
theorem Go.ret0 (hx : p.tables.exec = Jvm.exec) (hret : meth.sig.returnType = none) (hlk : meth.locks = false) (hd : decode c.code pc = .ok (.return_, 1)) (hc : ce ≤ C) (hs : sl ≤ N) (hQ : Q none h) : Go p l e R s m args below meth c n0 C N Q Z a0 EL hh0 SF h ce sl pc Ls [] := fun T vm0 locs k0 hz hel X hS hk hC hF Nf eT => by
  obtain ⟨fs, hr, hrun, hended, hRW⟩ := X.leaveW hS (by rw [eT]; exact hk) (v := none) (fun _ => rfl)
  refine ⟨_, _, _, X.returnOut hx hret hd hr, hrun, hended, ⟨?_, Nf⟩, ?_, hRW.1, hRW.2.1, hRW.2.2.1, hRW.2.2.2.mono hc hs⟩
  · show Q _ T.heap
    rw [eT]; exact hQ
  · show CHr Z EL s.vm hh0 T.vm T.heap
    rw [eT]; exact hC.trans (CHv.at X (wZ hz hS) hel hC.1)
theorem Go.getF (hx : p.tables.exec = Jvm.exec) (hZ : Z.Warmed39 s.vm) {own R0 O n d host : String} {index : Nat} (hown : s.vm.findClass own = some m.cls) (hw : (Cond.fieldLink own index R0 n d).before a0 Z = true ∨ (Cond.fieldLinkNest own index R0 n d host).before a0 Z = true) (via : Via Z R0 O n d) {a : Addr} {v : Value} (F : Fld Z h a O n d v) (hd : decode c.code pc = .ok (.getfield index, 3)) (hq : q = pc + 3) (G : Go p l e R s m args below meth c n0 C N Q Z a0 EL hh0 SF h ce sl q Ls (v :: st)) : Go p l e R s m args below meth c n0 C N Q Z a0 EL hh0 SF h ce sl pc Ls (.ref a :: st) := by
  subst hq
  exact Go.law (fun T vm0 k0 locs X hS eT => Jvm.RoadKit.getF X hx (wZ hZ hS) (wO hown hS) hw via eT F (g := mkF m pc Ls (.ref a :: st)) rfl rfl hd) G
theorem Go.getS (hx : p.tables.exec = Jvm.exec) (hZ : Z.Warmed39 s.vm) {own R0 O n d host : String} {index : Nat} (hown : s.vm.findClass own = some m.cls) (hw : (Cond.fieldLink own index R0 n d).before a0 Z = true ∨ (Cond.fieldLinkNest own index R0 n d host).before a0 Z = true) (via : Via Z R0 O n d) {v : Value} (F : Sta Z h O n d v) (hd : decode c.code pc = .ok (.getstatic index, 3)) (hq : q = pc + 3) (G : Go p l e R s m args below meth c n0 C N Q Z a0 EL hh0 SF h ce sl q Ls (v :: st)) : Go p l e R s m args below meth c n0 C N Q Z a0 EL hh0 SF h ce sl pc Ls st := by
  subst hq
  exact Go.law (fun T vm0 k0 locs X hS eT => Jvm.RoadKit.getS2 (host := host) X hx (wZ hZ hS) (wO hown hS) hw via eT F (g := mkF m pc Ls st) rfl hd) G
theorem Go.putF (hx : p.tables.exec = Jvm.exec) (hZ : Z.Warmed39 s.vm) {own R0 O n d host C' : String} {index kk : Nat} {ty : FieldType} (hown : s.vm.findClass own = some m.cls) (hw : (Cond.fieldLink own index R0 n d).before a0 Z = true ∨ (Cond.fieldLinkNest own index R0 n d host).before a0 Z = true) (via : Via Z R0 O n d) {a : Addr} {v old : Value} (F : Fld Z h a O n d old) (E : Exa Z h a C') (L : (Cond.lays C' O n d).before a0 Z = true ∨ ((Cond.laysFinal C' O n d).before a0 Z = true ∧ own = O ∧ meth.name = "<init>")) (wi : (Cond.instantiable C' kk).before a0 Z = true)
    (hty : parseFieldDescriptor d = some ty) (hn : narrow ty v = v) (hf : fits ty v = true) (ha : n0 ≤ a) (hsf : a ∈ SF) (hd : decode c.code pc = .ok (.putfield index, 3)) (hq : q = pc + 3) (G : ∀ h', Wr h h' a (Jvm.RoadKit.slotOf Z O n d) v → Go p l e R s m args below meth c n0 C N Q Z a0 EL hh0 SF h' ce sl q Ls st) : Go p l e R s m args below meth c n0 C N Q Z a0 EL hh0 SF h ce sl pc Ls (v :: .ref a :: st) := fun T vm0 locs k0 hz hel X hS hk hC hF Nf eT => by
  subst hq
  obtain ⟨T', h', X', eT', W, hs⟩ := Jvm.RoadKit.putF X hx (wZ hZ hS) (wO hown hS) hw via eT F E L wi hty hn hf (g := mkF m pc Ls (v :: .ref a :: st)) rfl rfl hd
  obtain ⟨s₂, v', L', S, r⟩ := G h' W T' vm0 _ k0 hz hel X' hS (by rw [W.size]; exact hk) (hC.trans (CHr.wr W (hF a hsf).2 hC.1)) (sf_wr hC.1 W hsf hF) (Fr.snoc X' Nf ha) eT'
  exact ⟨s₂, v', L', hs _ S, r⟩
theorem Go.newO (hx : p.tables.exec = Jvm.exec) (hZ : Z.Warmed39 s.vm) {own C' : String} {index n ce' sl' : Nat} (hown : s.vm.findClass own = some m.cls) (w1 : (Cond.classLink own index C').before a0 Z = true) (wi : (Cond.instantiable C' n).before a0 Z = true) (wz : (Cond.initialized C').before a0 Z = true) (hd : decode c.code pc = .ok (.new index, 3)) (hq : q = pc + 3) (hce : ce + 1 = ce') (hsl : sl + n = sl') (hc : ce' ≤ R.cells) (hl : sl' ≤ R.slots)
    (G : ∀ (h' : Heap) (a : Addr), a = h.size → Ext h h' → Exa Z h' a C' → (∀ {O nm d : String} {ty : FieldType}, Laid Z a0 C' O nm d → parseFieldDescriptor d = some ty → Fld Z h' a O nm d (defaultValue ty)) → Go p l e R s m args below meth c n0 C N Q Z a0 EL hh0 (a :: SF) h' ce' sl' q Ls (.ref a :: st)) : Go p l e R s m args below meth c n0 C N Q Z a0 EL hh0 SF h ce sl pc Ls st := fun T vm0 locs k0 hz hel X hS hk hC hF Nf eT => by
  subst hq hce hsl
  obtain ⟨T', h', X', eT', E, A, D, -, hs⟩ := Jvm.RoadKit.newO X hx (wZ hZ hS) (wO hown hS) w1 wi wz eT (g := mkF m pc Ls st) rfl hd hc hl
  obtain ⟨s₂, v', L', S, r⟩ := G h' _ rfl E A D T' vm0 _ k0 hz hel X' hS (Nat.le_trans hk E.1) (hC.trans (CHr.ext E hC.1)) (sf_ext hC.1 E hF rfl A.lt) Nf eT'
  exact ⟨s₂, v', L', hs _ S, r⟩
theorem Go.newP (hx : p.tables.exec = Jvm.exec) (hZ : Z.Warmed39 s.vm) {aty : ArrayType} {cap ce' sl' : Nat} (wa : (Cond.arrayClass (newarray.typeOf aty)).before a0 Z = true) {n : Int32} (hn : ¬ n < 0) (hcap : n.toNatClampNeg ≤ cap) (hd : decode c.code pc = .ok (.newarray aty, 2)) (hq : q = pc + 2) (hb : cap * 8 ≤ 536870912) (hce : ce + 1 = ce') (hsl : sl + cap = sl') (hc : ce' ≤ R.cells) (hl : sl' ≤ R.slots)
    (G : ∀ (h' : Heap) (a : Addr) (k : ClassId), a = h.size → Ext h h' → Arv Z h' a k (newarray.typeOf aty) n [] (defaultValue (newarray.typeOf aty)) → Go p l e R s m args below meth c n0 C N Q Z a0 EL hh0 (a :: SF) h' ce' sl' q Ls (.ref a :: st)) : Go p l e R s m args below meth c n0 C N Q Z a0 EL hh0 SF h ce sl pc Ls (.int n :: st) := fun T vm0 locs k0 hz hel X hS hk hC hF Nf eT => by
  subst hq hce hsl
  obtain ⟨T', h', k, X', eT', E, A, hs⟩ := Jvm.RoadKit.newP X hx (wZ hZ hS) wa eT (g := mkF m pc Ls (.int n :: st)) rfl hd rfl hn hcap hb hc hl
  obtain ⟨s₂, v', L', S, r⟩ := G h' _ k rfl E (Arv.new A hn) T' vm0 _ k0 hz hel X' hS (Nat.le_trans hk E.1) (hC.trans (CHr.ext E hC.1)) (sf_ext hC.1 E hF rfl A.lt) Nf eT'
  exact ⟨s₂, v', L', hs _ S, r⟩
theorem Go.newR (hx : p.tables.exec = Jvm.exec) (hZ : Z.Warmed39 s.vm) {own C' : String} {index cap ce' sl' : Nat} (hown : s.vm.findClass own = some m.cls) (w1 : (Cond.classLink own index C').before a0 Z = true) (w2 : (Cond.arrayOver (.object C')).before a0 Z = true) {n : Int32} (hn : ¬ n < 0) (hcap : n.toNatClampNeg ≤ cap) (hd : decode c.code pc = .ok (.anewarray index, 3)) (hq : q = pc + 3) (hb : cap * 8 ≤ 536870912) (hce : ce + 1 = ce') (hsl : sl + cap = sl') (hc : ce' ≤ R.cells) (hl : sl' ≤ R.slots)
    (G : ∀ (h' : Heap) (a : Addr) (k : ClassId), a = h.size → Ext h h' → Arv Z h' a k (.object C') n [] .null → Ovr Z k C' → Go p l e R s m args below meth c n0 C N Q Z a0 EL hh0 (a :: SF) h' ce' sl' q Ls (.ref a :: st)) : Go p l e R s m args below meth c n0 C N Q Z a0 EL hh0 SF h ce sl pc Ls (.int n :: st) := fun T vm0 locs k0 hz hel X hS hk hC hF Nf eT => by
  subst hq hce hsl
  obtain ⟨T', h', k, X', eT', E, A, O, hs⟩ := Jvm.RoadKit.newR X hx (wZ hZ hS) (wO hown hS) w1 w2 eT (g := mkF m pc Ls (.int n :: st)) rfl hd rfl hn hcap hb hc hl
  obtain ⟨s₂, v', L', S, r⟩ := G h' _ k rfl E (Arv.new A hn) O T' vm0 _ k0 hz hel X' hS (Nat.le_trans hk E.1) (hC.trans (CHr.ext E hC.1)) (sf_ext hC.1 E hF rfl A.lt) Nf eT'
  exact ⟨s₂, v', L', hs _ S, r⟩
theorem Go.initO (hx : p.tables.exec = Jvm.exec) (hZ : Z.Warmed39 s.vm) {own : String} {idx : Nat} (hown : s.vm.findClass own = some m.cls) (w1 : (Cond.methodLink own idx Lib.objectInit).before a0 Z = true) (w2 : (Cond.instanceMethod Lib.objectInit).before a0 Z = true) (w3 : (Cond.code Lib.objectInit ⟨#[0xb1]⟩ 1 none).before a0 Z = true) (hsize : Ls.size = c.maxLocals) {a : Addr} (hd : decode c.code pc = .ok (.invokespecial idx, 3)) (hq : q = pc + 3) (hf : 1 ≤ R.frames) (hl : (st.map fun v => v.category).sum + 12 ≤ R.locals) (G : Go p l e R s m args below meth c n0 C N Q Z a0 EL hh0 SF h ce sl q Ls st) : Go p l e R s m args below meth c n0 C N Q Z a0 EL hh0 SF h ce sl pc Ls (.ref a :: st) := by
  subst hq
  exact Go.law (fun T vm0 k0 locs X hS eT => Jvm.RoadKit.initO X hx (wZ hZ hS) (wO hown hS) w1 w2 w3 eT (g := mkF m pc Ls (.ref a :: st)) rfl hsize rfl hd hf (W := (st.map fun v => v.category).sum) (by show 2 * 0 + _ ≤ _; omega) hl) G
theorem Go.castY (hx : p.tables.exec = Jvm.exec) (hZ : Z.Warmed39 s.vm) {own K : String} {index : Nat} (hown : s.vm.findClass own = some m.cls) (w1 : (Cond.classLink own index K).before a0 Z = true) {a : Addr} (F : Ins Z h a K true) (hd : decode c.code pc = .ok (.checkcast index, 3)) (hq : q = pc + 3) (G : Go p l e R s m args below meth c n0 C N Q Z a0 EL hh0 SF h ce sl q Ls (.ref a :: st)) : Go p l e R s m args below meth c n0 C N Q Z a0 EL hh0 SF h ce sl pc Ls (.ref a :: st) := by
  subst hq
  exact Go.law (fun T vm0 k0 locs X hS eT => Jvm.RoadKit.castY X hx (wZ hZ hS) (wO hown hS) w1 eT F (g := mkF m pc Ls (.ref a :: st)) rfl rfl hd) G
theorem Go.instY (hx : p.tables.exec = Jvm.exec) (hZ : Z.Warmed39 s.vm) {own K : String} {index : Nat} (hown : s.vm.findClass own = some m.cls) (w1 : (Cond.classLink own index K).before a0 Z = true) {a : Addr} (F : Ins Z h a K true) (hd : decode c.code pc = .ok (.instanceof index, 3)) (hq : q = pc + 3) (G : Go p l e R s m args below meth c n0 C N Q Z a0 EL hh0 SF h ce sl q Ls (.int 1 :: st)) : Go p l e R s m args below meth c n0 C N Q Z a0 EL hh0 SF h ce sl pc Ls (.ref a :: st) := by
  subst hq
  exact Go.law (fun T vm0 k0 locs X hS eT => Jvm.RoadKit.instY X hx (wZ hZ hS) (wO hown hS) w1 eT F (g := mkF m pc Ls (.ref a :: st)) rfl rfl hd) G
theorem Go.alen (hx : p.tables.exec = Jvm.exec) (hZ : Z.Warmed39 s.vm) {a : Addr} {k : ClassId} {ty : FieldType} {n : Int32} {vs : List Value} {dv : Value} (A : Arv Z h a k ty n vs dv) (hd : decode c.code pc = .ok (.arraylength, 1)) (hq : q = pc + 1) (G : Go p l e R s m args below meth c n0 C N Q Z a0 EL hh0 SF h ce sl q Ls (.int n :: st)) : Go p l e R s m args below meth c n0 C N Q Z a0 EL hh0 SF h ce sl pc Ls (.ref a :: st) := by
  subst hq
  obtain ⟨cl, Ar, q1, S1, N1, H1, F1⟩ := A
  refine Go.step (fun T vm0 k0 locs target X hS eT S => X.arraylength hx (by rw [eT]; exact Ar.1) (State.isArrayOf_alike (wZ hZ hS).alike Ar.2.1) (g := mkF m pc Ls (.ref a :: st)) rfl rfl hd target ?_) G
  rw [len_of S1 N1]; exact S
theorem Go.baload (hx : p.tables.exec = Jvm.exec) (hZ : Z.Warmed39 s.vm) {a : Addr} {k : ClassId} {n j : Int32} {vs : List Value} {dv v : Value} (A : Arv Z h a k .byte n vs dv) (hj : ¬ j < 0 ∧ j < n) (hv : vs.getD j.toNatClampNeg dv = v) (hd : decode c.code pc = .ok (.baload, 1)) (hq : q = pc + 1) (G : Go p l e R s m args below meth c n0 C N Q Z a0 EL hh0 SF h ce sl q Ls (v :: st)) : Go p l e R s m args below meth c n0 C N Q Z a0 EL hh0 SF h ce sl pc Ls (.int j :: .ref a :: st) := by
  subst hq
  obtain ⟨cl, Ar, q1, S1, N1, H1, F1⟩ := A
  exact Go.step (fun T vm0 k0 locs target X hS eT S => X.baloadBytes hx (by rw [eT]; exact Ar.1) (State.isArrayOf_alike (wZ hZ hS).alike Ar.2.1) Ar.2.2 (inb_of S1 hj) (H1.at (inb_of S1 hj) hv) (g := mkF m pc Ls (.int j :: .ref a :: st)) rfl rfl hd target S) G
theorem Go.zaload (hx : p.tables.exec = Jvm.exec) (hZ : Z.Warmed39 s.vm) {a : Addr} {k : ClassId} {n j : Int32} {vs : List Value} {dv v : Value} (A : Arv Z h a k .boolean n vs dv) (hj : ¬ j < 0 ∧ j < n) (hv : vs.getD j.toNatClampNeg dv = v) (hd : decode c.code pc = .ok (.baload, 1)) (hq : q = pc + 1) (G : Go p l e R s m args below meth c n0 C N Q Z a0 EL hh0 SF h ce sl q Ls (v :: st)) : Go p l e R s m args below meth c n0 C N Q Z a0 EL hh0 SF h ce sl pc Ls (.int j :: .ref a :: st) := by
  subst hq
  obtain ⟨cl, Ar, q1, S1, N1, H1, F1⟩ := A
  exact Go.step (fun T vm0 k0 locs target X hS eT S => X.baloadBooleans hx (by rw [eT]; exact Ar.1) (State.isArrayOf_alike (wZ hZ hS).alike Ar.2.1) Ar.2.2 (inb_of S1 hj) (H1.at (inb_of S1 hj) hv) (g := mkF m pc Ls (.int j :: .ref a :: st)) rfl rfl hd target S) G
theorem Go.caload (hx : p.tables.exec = Jvm.exec) (hZ : Z.Warmed39 s.vm) {a : Addr} {k : ClassId} {n j : Int32} {vs : List Value} {dv v : Value} (A : Arv Z h a k .char n vs dv) (hj : ¬ j < 0 ∧ j < n) (hv : vs.getD j.toNatClampNeg dv = v) (hd : decode c.code pc = .ok (.caload, 1)) (hq : q = pc + 1) (G : Go p l e R s m args below meth c n0 C N Q Z a0 EL hh0 SF h ce sl q Ls (v :: st)) : Go p l e R s m args below meth c n0 C N Q Z a0 EL hh0 SF h ce sl pc Ls (.int j :: .ref a :: st) := by
  subst hq
  obtain ⟨cl, Ar, q1, S1, N1, H1, F1⟩ := A
  exact Go.step (fun T vm0 k0 locs target X hS eT S => X.caload hx (by rw [eT]; exact Ar.1) (State.isArrayOf_alike (wZ hZ hS).alike Ar.2.1) Ar.2.2 (inb_of S1 hj) (H1.at (inb_of S1 hj) hv) (g := mkF m pc Ls (.int j :: .ref a :: st)) rfl rfl hd target S) G
theorem Go.saload (hx : p.tables.exec = Jvm.exec) (hZ : Z.Warmed39 s.vm) {a : Addr} {k : ClassId} {n j : Int32} {vs : List Value} {dv v : Value} (A : Arv Z h a k .short n vs dv) (hj : ¬ j < 0 ∧ j < n) (hv : vs.getD j.toNatClampNeg dv = v) (hd : decode c.code pc = .ok (.saload, 1)) (hq : q = pc + 1) (G : Go p l e R s m args below meth c n0 C N Q Z a0 EL hh0 SF h ce sl q Ls (v :: st)) : Go p l e R s m args below meth c n0 C N Q Z a0 EL hh0 SF h ce sl pc Ls (.int j :: .ref a :: st) := by
  subst hq
  obtain ⟨cl, Ar, q1, S1, N1, H1, F1⟩ := A
  exact Go.step (fun T vm0 k0 locs target X hS eT S => X.saload hx (by rw [eT]; exact Ar.1) (State.isArrayOf_alike (wZ hZ hS).alike Ar.2.1) Ar.2.2 (inb_of S1 hj) (H1.at (inb_of S1 hj) hv) (g := mkF m pc Ls (.int j :: .ref a :: st)) rfl rfl hd target S) G
theorem Go.iaload (hx : p.tables.exec = Jvm.exec) (hZ : Z.Warmed39 s.vm) {a : Addr} {k : ClassId} {n j : Int32} {vs : List Value} {dv v : Value} (A : Arv Z h a k .int n vs dv) (hj : ¬ j < 0 ∧ j < n) (hv : vs.getD j.toNatClampNeg dv = v) (hd : decode c.code pc = .ok (.iaload, 1)) (hq : q = pc + 1) (G : Go p l e R s m args below meth c n0 C N Q Z a0 EL hh0 SF h ce sl q Ls (v :: st)) : Go p l e R s m args below meth c n0 C N Q Z a0 EL hh0 SF h ce sl pc Ls (.int j :: .ref a :: st) := by
  subst hq
  obtain ⟨cl, Ar, q1, S1, N1, H1, F1⟩ := A
  exact Go.step (fun T vm0 k0 locs target X hS eT S => X.iaload hx (by rw [eT]; exact Ar.1) (State.isArrayOf_alike (wZ hZ hS).alike Ar.2.1) Ar.2.2 (inb_of S1 hj) (H1.at (inb_of S1 hj) hv) (g := mkF m pc Ls (.int j :: .ref a :: st)) rfl rfl hd target S) G
theorem Go.laload (hx : p.tables.exec = Jvm.exec) (hZ : Z.Warmed39 s.vm) {a : Addr} {k : ClassId} {n j : Int32} {vs : List Value} {dv v : Value} (A : Arv Z h a k .long n vs dv) (hj : ¬ j < 0 ∧ j < n) (hv : vs.getD j.toNatClampNeg dv = v) (hd : decode c.code pc = .ok (.laload, 1)) (hq : q = pc + 1) (G : Go p l e R s m args below meth c n0 C N Q Z a0 EL hh0 SF h ce sl q Ls (v :: st)) : Go p l e R s m args below meth c n0 C N Q Z a0 EL hh0 SF h ce sl pc Ls (.int j :: .ref a :: st) := by
  subst hq
  obtain ⟨cl, Ar, q1, S1, N1, H1, F1⟩ := A
  exact Go.step (fun T vm0 k0 locs target X hS eT S => X.laload hx (by rw [eT]; exact Ar.1) (State.isArrayOf_alike (wZ hZ hS).alike Ar.2.1) Ar.2.2 (inb_of S1 hj) (H1.at (inb_of S1 hj) hv) (g := mkF m pc Ls (.int j :: .ref a :: st)) rfl rfl hd target S) G
theorem Go.aaload (hx : p.tables.exec = Jvm.exec) (hZ : Z.Warmed39 s.vm) {a : Addr} {k : ClassId} {ty : FieldType} {n j : Int32} {vs : List Value} {dv v : Value} (A : Arv Z h a k ty n vs dv) (hty : ty.isReference = true) (hj : ¬ j < 0 ∧ j < n) (hv : vs.getD j.toNatClampNeg dv = v) (hd : decode c.code pc = .ok (.aaload, 1)) (hq : q = pc + 1) (G : Go p l e R s m args below meth c n0 C N Q Z a0 EL hh0 SF h ce sl q Ls (v :: st)) : Go p l e R s m args below meth c n0 C N Q Z a0 EL hh0 SF h ce sl pc Ls (.int j :: .ref a :: st) := by
  subst hq
  obtain ⟨cl, Ar, q1, S1, N1, H1, F1⟩ := A
  exact Go.step (fun T vm0 k0 locs target X hS eT S => X.aaload hx (by rw [eT]; exact Ar.1) (State.isArrayOf_alike (wZ hZ hS).alike Ar.2.1) hty Ar.2.2 (inb_of S1 hj) (H1.at (inb_of S1 hj) hv) (g := mkF m pc Ls (.int j :: .ref a :: st)) rfl rfl hd target S) G
theorem Go.bastore (hx : p.tables.exec = Jvm.exec) (hZ : Z.Warmed39 s.vm) {a : Addr} {k : ClassId} {n j x : Int32} {vs : List Value} {dv : Value} (A : Arv Z h a k .byte n vs dv) (hj : ¬ j < 0 ∧ j < n) (i : Nat) (hi : j.toNatClampNeg = i) (hlen : i < vs.length) (ha : n0 ≤ a) (hsf : a ∈ SF) (hd : decode c.code pc = .ok (.bastore, 1)) (hq : q = pc + 1)
    (G : ∀ h', Wr h h' a j.toNatClampNeg (.int (nar .byte x)) → Arv Z h' a k .byte n (vs.set i (.int (nar .byte x))) dv → Go p l e R s m args below meth c n0 C N Q Z a0 EL hh0 SF h' ce sl q Ls st) : Go p l e R s m args below meth c n0 C N Q Z a0 EL hh0 SF h ce sl pc Ls (.int x :: .int j :: .ref a :: st) := fun T vm0 locs k0 hz hel X hS hk hC hF Nf eT => by
  subst hq
  obtain ⟨cl, Ar, q1, S1, N1, H1, F1⟩ := A
  obtain ⟨T', h', X', eT', W, hs⟩ := stB X hx (wZ hZ hS) eT Ar (inb_of S1 hj) (g := mkF m pc Ls (.int x :: .int j :: .ref a :: st)) rfl rfl hd
  obtain ⟨s₂, v', L', S, r⟩ := G h' W (Arv.set Ar q1 S1 N1 H1 F1 (fits_nar_byte _) W i hi hlen) T' vm0 _ k0 hz hel X' hS (by rw [W.size]; exact hk) (hC.trans (CHr.wr W (hF a hsf).2 hC.1)) (sf_wr hC.1 W hsf hF) (Fr.snoc X' Nf ha) eT'
  exact ⟨s₂, v', L', hs _ S, r⟩
theorem Go.zastore (hx : p.tables.exec = Jvm.exec) (hZ : Z.Warmed39 s.vm) {a : Addr} {k : ClassId} {n j x : Int32} {vs : List Value} {dv : Value} (A : Arv Z h a k .boolean n vs dv) (hj : ¬ j < 0 ∧ j < n) (i : Nat) (hi : j.toNatClampNeg = i) (hlen : i < vs.length) (ha : n0 ≤ a) (hsf : a ∈ SF) (hd : decode c.code pc = .ok (.bastore, 1)) (hq : q = pc + 1)
    (G : ∀ h', Wr h h' a j.toNatClampNeg (.int (nar .boolean x)) → Arv Z h' a k .boolean n (vs.set i (.int (nar .boolean x))) dv → Go p l e R s m args below meth c n0 C N Q Z a0 EL hh0 SF h' ce sl q Ls st) : Go p l e R s m args below meth c n0 C N Q Z a0 EL hh0 SF h ce sl pc Ls (.int x :: .int j :: .ref a :: st) := fun T vm0 locs k0 hz hel X hS hk hC hF Nf eT => by
  subst hq
  obtain ⟨cl, Ar, q1, S1, N1, H1, F1⟩ := A
  obtain ⟨T', h', X', eT', W, hs⟩ := stZ X hx (wZ hZ hS) eT Ar (inb_of S1 hj) (g := mkF m pc Ls (.int x :: .int j :: .ref a :: st)) rfl rfl hd
  obtain ⟨s₂, v', L', S, r⟩ := G h' W (Arv.set Ar q1 S1 N1 H1 F1 (fits_nar_bool _) W i hi hlen) T' vm0 _ k0 hz hel X' hS (by rw [W.size]; exact hk) (hC.trans (CHr.wr W (hF a hsf).2 hC.1)) (sf_wr hC.1 W hsf hF) (Fr.snoc X' Nf ha) eT'
  exact ⟨s₂, v', L', hs _ S, r⟩
theorem Go.castore (hx : p.tables.exec = Jvm.exec) (hZ : Z.Warmed39 s.vm) {a : Addr} {k : ClassId} {n j x : Int32} {vs : List Value} {dv : Value} (A : Arv Z h a k .char n vs dv) (hj : ¬ j < 0 ∧ j < n) (i : Nat) (hi : j.toNatClampNeg = i) (hlen : i < vs.length) (ha : n0 ≤ a) (hsf : a ∈ SF) (hd : decode c.code pc = .ok (.castore, 1)) (hq : q = pc + 1)
    (G : ∀ h', Wr h h' a j.toNatClampNeg (.int (nar .char x)) → Arv Z h' a k .char n (vs.set i (.int (nar .char x))) dv → Go p l e R s m args below meth c n0 C N Q Z a0 EL hh0 SF h' ce sl q Ls st) : Go p l e R s m args below meth c n0 C N Q Z a0 EL hh0 SF h ce sl pc Ls (.int x :: .int j :: .ref a :: st) := fun T vm0 locs k0 hz hel X hS hk hC hF Nf eT => by
  subst hq
  obtain ⟨cl, Ar, q1, S1, N1, H1, F1⟩ := A
  obtain ⟨T', h', X', eT', W, hs⟩ := stC X hx (wZ hZ hS) eT Ar (inb_of S1 hj) (g := mkF m pc Ls (.int x :: .int j :: .ref a :: st)) rfl rfl hd
  obtain ⟨s₂, v', L', S, r⟩ := G h' W (Arv.set Ar q1 S1 N1 H1 F1 (fits_nar_char _) W i hi hlen) T' vm0 _ k0 hz hel X' hS (by rw [W.size]; exact hk) (hC.trans (CHr.wr W (hF a hsf).2 hC.1)) (sf_wr hC.1 W hsf hF) (Fr.snoc X' Nf ha) eT'
  exact ⟨s₂, v', L', hs _ S, r⟩
theorem Go.sastore (hx : p.tables.exec = Jvm.exec) (hZ : Z.Warmed39 s.vm) {a : Addr} {k : ClassId} {n j x : Int32} {vs : List Value} {dv : Value} (A : Arv Z h a k .short n vs dv) (hj : ¬ j < 0 ∧ j < n) (i : Nat) (hi : j.toNatClampNeg = i) (hlen : i < vs.length) (ha : n0 ≤ a) (hsf : a ∈ SF) (hd : decode c.code pc = .ok (.sastore, 1)) (hq : q = pc + 1)
    (G : ∀ h', Wr h h' a j.toNatClampNeg (.int (nar .short x)) → Arv Z h' a k .short n (vs.set i (.int (nar .short x))) dv → Go p l e R s m args below meth c n0 C N Q Z a0 EL hh0 SF h' ce sl q Ls st) : Go p l e R s m args below meth c n0 C N Q Z a0 EL hh0 SF h ce sl pc Ls (.int x :: .int j :: .ref a :: st) := fun T vm0 locs k0 hz hel X hS hk hC hF Nf eT => by
  subst hq
  obtain ⟨cl, Ar, q1, S1, N1, H1, F1⟩ := A
  obtain ⟨T', h', X', eT', W, hs⟩ := stS X hx (wZ hZ hS) eT Ar (inb_of S1 hj) (g := mkF m pc Ls (.int x :: .int j :: .ref a :: st)) rfl rfl hd
  obtain ⟨s₂, v', L', S, r⟩ := G h' W (Arv.set Ar q1 S1 N1 H1 F1 (fits_nar_short _) W i hi hlen) T' vm0 _ k0 hz hel X' hS (by rw [W.size]; exact hk) (hC.trans (CHr.wr W (hF a hsf).2 hC.1)) (sf_wr hC.1 W hsf hF) (Fr.snoc X' Nf ha) eT'
  exact ⟨s₂, v', L', hs _ S, r⟩
theorem Go.iastore (hx : p.tables.exec = Jvm.exec) (hZ : Z.Warmed39 s.vm) {a : Addr} {k : ClassId} {n j x : Int32} {vs : List Value} {dv : Value} (A : Arv Z h a k .int n vs dv) (hj : ¬ j < 0 ∧ j < n) (i : Nat) (hi : j.toNatClampNeg = i) (hlen : i < vs.length) (ha : n0 ≤ a) (hsf : a ∈ SF) (hd : decode c.code pc = .ok (.iastore, 1)) (hq : q = pc + 1)
    (G : ∀ h', Wr h h' a j.toNatClampNeg (.int x) → Arv Z h' a k .int n (vs.set i (.int x)) dv → Go p l e R s m args below meth c n0 C N Q Z a0 EL hh0 SF h' ce sl q Ls st) : Go p l e R s m args below meth c n0 C N Q Z a0 EL hh0 SF h ce sl pc Ls (.int x :: .int j :: .ref a :: st) := fun T vm0 locs k0 hz hel X hS hk hC hF Nf eT => by
  subst hq
  obtain ⟨cl, Ar, q1, S1, N1, H1, F1⟩ := A
  obtain ⟨T', h', X', eT', W, hs⟩ := stI X hx (wZ hZ hS) eT Ar (inb_of S1 hj) (g := mkF m pc Ls (.int x :: .int j :: .ref a :: st)) rfl rfl hd
  obtain ⟨s₂, v', L', S, r⟩ := G h' W (Arv.set Ar q1 S1 N1 H1 F1 (rfl) W i hi hlen) T' vm0 _ k0 hz hel X' hS (by rw [W.size]; exact hk) (hC.trans (CHr.wr W (hF a hsf).2 hC.1)) (sf_wr hC.1 W hsf hF) (Fr.snoc X' Nf ha) eT'
  exact ⟨s₂, v', L', hs _ S, r⟩
theorem Go.aastore (hx : p.tables.exec = Jvm.exec) (hZ : Z.Warmed39 s.vm) {a : Addr} {k : ClassId} {C' : String} {n j : Int32} {x : Value} {vs : List Value} {dv : Value} (A : Arv Z h a k (.object C') n vs dv) (F : Sto Z h a x) (hxr : x.isRef = true) (hj : ¬ j < 0 ∧ j < n) (i : Nat) (hi : j.toNatClampNeg = i) (hlen : i < vs.length) (ha : n0 ≤ a) (hsf : a ∈ SF) (hd : decode c.code pc = .ok (.aastore, 1)) (hq : q = pc + 1)
    (G : ∀ h', Wr h h' a j.toNatClampNeg x → Arv Z h' a k (.object C') n (vs.set i x) dv → Go p l e R s m args below meth c n0 C N Q Z a0 EL hh0 SF h' ce sl q Ls st) : Go p l e R s m args below meth c n0 C N Q Z a0 EL hh0 SF h ce sl pc Ls (x :: .int j :: .ref a :: st) := fun T vm0 locs k0 hz hel X hS hk hC hF Nf eT => by
  subst hq
  obtain ⟨cl, Ar, q1, S1, N1, H1, F1⟩ := A
  obtain ⟨T', h', X', eT', W, hs⟩ := stR X hx (wZ hZ hS) eT Ar (inb_of S1 hj) rfl F (g := mkF m pc Ls (x :: .int j :: .ref a :: st)) rfl rfl hd
  obtain ⟨s₂, v', L', S, r⟩ := G h' W (Arv.set Ar q1 S1 N1 H1 F1 (by rcases ref_cases hxr with rfl | ⟨y, rfl⟩ <;> rfl) W i hi hlen) T' vm0 _ k0 hz hel X' hS (by rw [W.size]; exact hk) (hC.trans (CHr.wr W (hF a hsf).2 hC.1)) (sf_wr hC.1 W hsf hF) (Fr.snoc X' Nf ha) eT'
  exact ⟨s₂, v', L', hs _ S, r⟩
theorem Go.callS (hx : p.tables.exec = Jvm.exec) (hZ : Z.Warmed39 s.vm) {own : String} {index : Nat} {y : MethodName} {bytes : ByteArray} {maxL : Nat} {rt r' : Option FieldType} {ps : List FieldType} {rm : Room} {SFc : List Addr} {Qc : Option Value → Heap → Prop} {argsL rest : List Value} {ce' sl' : Nat} (hown : s.vm.findClass own = some m.cls) (w1 : (Cond.methodLink own index y).before a0 Z = true) (w2 : (Cond.static y).before a0 Z = true) (w3 : (Cond.initialized y.cls).before a0 Z = true) (w4 : (Cond.code y bytes maxL rt).before a0 Z = true) (hy : y.cls ≠ "java/lang/invoke/MethodHandle" ∧ y.cls ≠ "java/lang/invoke/VarHandle")
    (hM : Met l Z EL SFc y bytes maxL rt [] rm argsL.toArray h n0 Qc) (hsub : ∀ x ∈ SFc, x ∈ SF) (hsize : Ls.size = c.maxLocals) (hpd : parseMethodDescriptor y.desc = some ⟨ps, r'⟩) (hlen : argsL.length = ps.length) (hst : st = argsL.reverse ++ rest) (hd : decode c.code pc = .ok (.invokestatic index, 3)) (hq : q = pc + 3) (hf : rm.frames + 1 ≤ R.frames) (hl : (rest.map fun v => v.category).sum + (maxL + 11) + rm.locals ≤ R.locals) (hce : ce + rm.cells = ce') (hsl : sl + rm.slots = sl') (hc : ce' ≤ R.cells) (hs : sl' ≤ R.slots)
    (G : ∀ (v : Option Value) (h' : Heap), Qc v h' → Go p l e R s m args below meth c n0 C N Q Z a0 EL hh0 SF h' ce' sl' q Ls (v.toList ++ rest)) : Go p l e R s m args below meth c n0 C N Q Z a0 EL hh0 SF h ce sl pc Ls st := fun T vm0 locs k0 hz hel X hS hk hC hF Nf eT => by
  subst hq hce hsl
  obtain ⟨v, _, ⟨T', L', k', n'⟩, -, X', hS', hg', ⟨Lc, ⟨hQ, hF'⟩, hl1, hl2, hl3, hC'⟩, hst'⟩ := Jvm.RoadKit.callSS X hx (wO hown hS) (mvT (wZ hZ hS) w1) (mvT (wZ hZ hS) w2) (mvT (wZ hZ hS) w3) (mvT (wZ hZ hS) w4) hy (backOfSF (W := (rest.map fun v => v.category).sum) (Q := fun v h' L => Qc v h' ∧ Fr n0 L) hM (wZ hZ hS) w4 w3 hf hl hel (fun x hx => hF x (hsub x hx)) hC.1) (g := mkF m pc Ls st) rfl hsize (argsL := argsL) (rest := rest) (lenOf hpd hlen) hst (by show 2 * 0 + _ ≤ _; omega) hd (fun _ _ => ⟨rfl, eT, hc, hs⟩)
  dsimp only [Pt.U, Pt.locs, Pt.cells, Pt.slots] at X' hl1 hl2 hl3 hst' hQ hC' hS' hg'
  subst hl1 hl2 hl3
  obtain ⟨s₂, v', L'', S, r⟩ := G v _ hQ T' T'.vm _ T'.heap.size hz hel X' (foldS hS (by rw [eT]; exact hk) hS' hg') (Nat.le_refl _) (hC.trans hC') (fun x hx => ⟨Nat.lt_of_lt_of_le (hF x hx).1 hC'.2.1, hC'.safe (hF x hx).1 (hF x hx).2⟩) (Fr.app Nf hF') rfl
  exact ⟨s₂, v', L'', hst'.trans S, r⟩
theorem Go.callI (hx : p.tables.exec = Jvm.exec) (hZ : Z.Warmed39 s.vm) {own : String} {index : Nat} {y : MethodName} {bytes : ByteArray} {maxL : Nat} {r' : Option FieldType} {ps : List FieldType} {rm : Room} {SFc : List Addr} {Qc : Option Value → Heap → Prop} {a : Addr} {argsL rest : List Value} {ce' sl' : Nat} (hown : s.vm.findClass own = some m.cls) (hnm : y.name = "<init>") (w1 : (Cond.methodLink own index y).before a0 Z = true) (w2 : (Cond.instanceMethod y).before a0 Z = true) (w3 : (Cond.initialized y.cls).before a0 Z = true) (w4 : (Cond.code y bytes maxL none).before a0 Z = true) (hy : y.cls ≠ "java/lang/invoke/MethodHandle" ∧ y.cls ≠ "java/lang/invoke/VarHandle")
    (hM : Met l Z EL SFc y bytes maxL none [] rm (.ref a :: argsL).toArray h n0 Qc) (hsub : ∀ x ∈ SFc, x ∈ SF) (hsize : Ls.size = c.maxLocals) (hpd : parseMethodDescriptor y.desc = some ⟨ps, r'⟩) (hlen : argsL.length = ps.length) (hst : st = argsL.reverse ++ .ref a :: rest) (hd : decode c.code pc = .ok (.invokespecial index, 3)) (hq : q = pc + 3) (hf : rm.frames + 1 ≤ R.frames) (hl : (rest.map fun v => v.category).sum + (maxL + 11) + rm.locals ≤ R.locals) (hce : ce + rm.cells = ce') (hsl : sl + rm.slots = sl') (hc : ce' ≤ R.cells) (hs : sl' ≤ R.slots)
    (G : ∀ (v : Option Value) (h' : Heap), Qc v h' → Go p l e R s m args below meth c n0 C N Q Z a0 EL hh0 SF h' ce' sl' q Ls (v.toList ++ rest)) : Go p l e R s m args below meth c n0 C N Q Z a0 EL hh0 SF h ce sl pc Ls st := fun T vm0 locs k0 hz hel X hS hk hC hF Nf eT => by
  subst hq hce hsl
  obtain ⟨v, _, ⟨T', L', k', n'⟩, -, X', hS', hg', ⟨Lc, ⟨hQ, hF'⟩, hl1, hl2, hl3, hC'⟩, hst'⟩ := X.specialBackS hx hnm (wO hown hS) (mvT (wZ hZ hS) w1) (mvT (wZ hZ hS) w2) (mvT (wZ hZ hS) w4) hy (backOfSF (W := (rest.map fun v => v.category).sum) (Q := fun v h' L => Qc v h' ∧ Fr n0 L) hM (wZ hZ hS) w4 w3 hf hl hel (fun x hx => hF x (hsub x hx)) hC.1) (g := mkF m pc Ls st) rfl hsize (Steps.refl _) (a := a) (argsL := argsL) (rest := rest) (lenOf hpd hlen) hst (by show 2 * 0 + _ ≤ _; omega) hd (fun _ _ => ⟨rfl, eT, hc, hs⟩)
  dsimp only [Pt.U, Pt.locs, Pt.cells, Pt.slots] at X' hl1 hl2 hl3 hst' hQ hC' hS' hg'
  subst hl1 hl2 hl3
  obtain ⟨s₂, v', L'', S, r⟩ := G v _ hQ T' T'.vm _ T'.heap.size hz hel X' (foldS hS (by rw [eT]; exact hk) hS' hg') (Nat.le_refl _) (hC.trans hC') (fun x hx => ⟨Nat.lt_of_lt_of_le (hF x hx).1 hC'.2.1, hC'.safe (hF x hx).1 (hF x hx).2⟩) (Fr.app Nf hF') rfl
  exact ⟨s₂, v', L'', hst'.trans S, r⟩
theorem Go.callV (hx : p.tables.exec = Jvm.exec) (hZ : Z.Warmed39 s.vm) {own C' : String} {index : Nat} {y z : MethodName} {bytes : ByteArray} {maxL : Nat} {rt r' : Option FieldType} {ps : List FieldType} {rm : Room} {SFc : List Addr} {Qc : Option Value → Heap → Prop} {a : Addr} {argsL rest : List Value} {ce' sl' : Nat} (hown : s.vm.findClass own = some m.cls) (w1 : (Cond.methodLink own index y).before a0 Z = true) (w2 : (Cond.declares y).before a0 Z = true) (hnf : ∀ vm : Vm, Z.Warmed39 (s.setVm vm).vm → NotFace (s.setVm vm) y) (w5 : (Cond.selects C' y z).before a0 Z = true) (w6 : (Cond.instanceMethod z).before a0 Z = true) (w3 : (Cond.initialized z.cls).before a0 Z = true) (w4 : (Cond.code z bytes maxL rt).before a0 Z = true) (hy : y.cls ≠ "java/lang/invoke/MethodHandle" ∧ y.cls ≠ "java/lang/invoke/VarHandle")
    (E : Exa Z h a C') (hM : Met l Z EL SFc z bytes maxL rt [] rm (.ref a :: argsL).toArray h n0 Qc) (hsub : ∀ x ∈ SFc, x ∈ SF) (hsize : Ls.size = c.maxLocals) (hpd : parseMethodDescriptor y.desc = some ⟨ps, r'⟩) (hlen : argsL.length = ps.length) (hst : st = argsL.reverse ++ .ref a :: rest) (hd : decode c.code pc = .ok (.invokevirtual index, 3)) (hq : q = pc + 3) (hf : rm.frames + 1 ≤ R.frames) (hl : (rest.map fun v => v.category).sum + (maxL + 11) + rm.locals ≤ R.locals) (hce : ce + rm.cells = ce') (hsl : sl + rm.slots = sl') (hc : ce' ≤ R.cells) (hs : sl' ≤ R.slots)
    (G : ∀ (v : Option Value) (h' : Heap), Qc v h' → Go p l e R s m args below meth c n0 C N Q Z a0 EL hh0 SF h' ce' sl' q Ls (v.toList ++ rest)) : Go p l e R s m args below meth c n0 C N Q Z a0 EL hh0 SF h ce sl pc Ls st := fun T vm0 locs k0 hz hel X hS hk hC hF Nf eT => by
  subst hq hce hsl
  obtain ⟨cB, kB, qa, qb, qc⟩ := isOf (wZ hZ hS) eT E
  obtain ⟨v, _, ⟨T', L', k', n'⟩, -, X', hS', hg', ⟨Lc, ⟨hQ, hF'⟩, hl1, hl2, hl3, hC'⟩, hst'⟩ := X.virtualBackS hx (wO hown hS) (mvT (wZ hZ hS) w1) (mvT (wZ hZ hS) w2) (hnf vm0 (wZ hZ hS)) (mvT (wZ hZ hS) w5) (mvT (wZ hZ hS) w6) hy (backOfSF (W := (rest.map fun v => v.category).sum) (Q := fun v h' L => Qc v h' ∧ Fr n0 L) hM (wZ hZ hS) w4 w3 hf hl hel (fun x hx => hF x (hsub x hx)) hC.1) qa qc (g := mkF m pc Ls st) rfl hsize (Steps.refl _) (argsL := argsL) (rest := rest) (lenOf hpd hlen) hst (by show 2 * 0 + _ ≤ _; omega) hd (fun _ _ => ⟨rfl, eT, hc, hs⟩)
  dsimp only [Pt.U, Pt.locs, Pt.cells, Pt.slots] at X' hl1 hl2 hl3 hst' hQ hC' hS' hg'
  subst hl1 hl2 hl3
  obtain ⟨s₂, v', L'', S, r⟩ := G v _ hQ T' T'.vm _ T'.heap.size hz hel X' (foldS hS (by rw [eT]; exact hk) hS' hg') (Nat.le_refl _) (hC.trans hC') (fun x hx => ⟨Nat.lt_of_lt_of_le (hF x hx).1 hC'.2.1, hC'.safe (hF x hx).1 (hF x hx).2⟩) (Fr.app Nf hF') rfl
  exact ⟨s₂, v', L'', hst'.trans S, r⟩
theorem Go.instNull (hx : p.tables.exec = Jvm.exec) {index : Nat} (hd : decode c.code pc = .ok (.instanceof index, 3)) (hq : q = pc + 3) (G : Go p l e R s m args below meth c n0 C N Q Z a0 EL hh0 SF h ce sl q Ls (.int 0 :: st)) : Go p l e R s m args below meth c n0 C N Q Z a0 EL hh0 SF h ce sl pc Ls (.null :: st) := by
  subst hq
  exact Go.step (fun T vm0 k0 locs target X hS eT S => X.instanceofNull hx (g := mkF m pc Ls (.null :: st)) rfl rfl hd target S) G
theorem Go.castNull (hx : p.tables.exec = Jvm.exec) {index : Nat} (hd : decode c.code pc = .ok (.checkcast index, 3)) (hq : q = pc + 3) (G : Go p l e R s m args below meth c n0 C N Q Z a0 EL hh0 SF h ce sl q Ls (.null :: st)) : Go p l e R s m args below meth c n0 C N Q Z a0 EL hh0 SF h ce sl pc Ls (.null :: st) := by
  subst hq
  exact Go.step (fun T vm0 k0 locs target X hS eT S => X.checkcastNull hx (g := mkF m pc Ls (.null :: st)) rfl rfl hd target S) G
theorem Go.instNo (hx : p.tables.exec = Jvm.exec) (hZ : Z.Warmed39 s.vm) {own K C' : String} {index : Nat} (hown : s.vm.findClass own = some m.cls) (w1 : (Cond.classLink own index K).before a0 Z = true) {a : Addr} (E : Exa Z h a C') (F : ∃ c t, Z.vm.findClass C' = some c ∧ Z.vm.findClass K = some t ∧ Z.vm.assignable c t = false) (hd : decode c.code pc = .ok (.instanceof index, 3)) (hq : q = pc + 3) (G : Go p l e R s m args below meth c n0 C N Q Z a0 EL hh0 SF h ce sl q Ls (.int 0 :: st)) : Go p l e R s m args below meth c n0 C N Q Z a0 EL hh0 SF h ce sl pc Ls (.ref a :: st) := by
  subst hq
  exact Go.law (fun T vm0 k0 locs X hS eT => Jvm.RoadKit.instNo X hx (wZ hZ hS) (wO hown hS) w1 eT E F (g := mkF m pc Ls (.ref a :: st)) rfl rfl hd) G
theorem Go.aaloadC (hx : p.tables.exec = Jvm.exec) (hZ : Z.Warmed39 s.vm) {a : Addr} {cl : Cell} {ty : FieldType} {j : Int32} {v : Value} (A : Arr Z h a cl ty) (hty : ty.isReference = true) (hj : ¬ (j < 0 ∨ cl.slots.size ≤ j.toNatClampNeg)) (hv : cl.slots[j.toNatClampNeg]? = some v) (hd : decode c.code pc = .ok (.aaload, 1)) (hq : q = pc + 1) (G : Go p l e R s m args below meth c n0 C N Q Z a0 EL hh0 SF h ce sl q Ls (v :: st)) : Go p l e R s m args below meth c n0 C N Q Z a0 EL hh0 SF h ce sl pc Ls (.int j :: .ref a :: st) := by
  subst hq
  exact Go.step (fun T vm0 k0 locs target X hS eT S => X.aaload hx (by rw [eT]; exact A.1) (State.isArrayOf_alike (wZ hZ hS).alike A.2.1) hty A.2.2 hj hv (g := mkF m pc Ls (.int j :: .ref a :: st)) rfl rfl hd target S) G
theorem sto_of {a y : Addr} {k : ClassId} {C' : String} {n : Int32} {vs : List Value} {dv : Value} (A : Arv Z h a k (.object C') n vs dv) (O : Ovr Z k C') (I : Ins Z h y C' true) : Sto Z h a (.ref y) := by
  obtain ⟨cl, Ar, q1, -⟩ := A
  exact Sto.ofV Ar q1 O I
theorem cat_ref {v : Value} (hv : v.isRef = true) : v.category = 1 := by rcases ref_cases hv with rfl | ⟨x, rfl⟩ <;> rfl
theorem nar_ref {v : Value} {t : FieldType} (hv : v.isRef = true) (ht : t.isReference = true) : narrow t v = v := by rcases ref_cases hv with rfl | ⟨x, rfl⟩ <;> cases t <;> rfl
theorem fits_of_ref {v : Value} {t : FieldType} (hv : v.isRef = true) (ht : t.isReference = true) : fits t v = true := by rcases ref_cases hv with rfl | ⟨x, rfl⟩ <;> cases t <;> first | rfl | cases ht
theorem cmpL_gt (x y : Int64) : (0 : Int32) < XT.cmpL x y ↔ y < x := by
  unfold XT.cmpL; split <;> (try split) <;> simp_all <;> decide
theorem cmpL_lt (x y : Int64) : XT.cmpL x y < (0 : Int32) ↔ x < y := by
  unfold XT.cmpL; split <;> (try split) <;> simp_all [Int64.lt_iff_toInt_lt, ← Int64.toInt_inj, Int32.lt_iff_toInt_lt] <;> omega
theorem cmpL_eq (x y : Int64) : XT.cmpL x y = (0 : Int32) ↔ x = y := by
  unfold XT.cmpL; split <;> (try split) <;> simp_all [Int64.lt_iff_toInt_lt, ← Int64.toInt_inj] <;> omega
theorem ns_root {K O : String} {kn : Nat} (w1 : (Cond.noSuperclass O).before a0 Z = true) (wk : (Cond.instantiable K kn).before a0 Z = true) (hn : O ≠ K) : NS Z O K := by
  obtain ⟨c, k, h1, h2, h3, -, -⟩ := Cond.noSuperclass_spec w1
  obtain ⟨t, kt, g1, -⟩ := Cond.instantiable_spec wk
  have ne := ids_ne h1 g1 hn
  refine ⟨c, t, h1, g1, fun fuel => ?_⟩
  cases fuel with
  | zero => rfl
  | succ f => simp [Vm.isSubclassAux, ne, h2, h3]
theorem ns_no {C' S K : String} {kn : Nat} (w1 : (Cond.superclass C' S).before a0 Z = true) (wk : (Cond.instantiable K kn).before a0 Z = true) (nn : NS Z C' K) (hn : C' ≠ K) : ∃ c t, Z.vm.findClass C' = some c ∧ Z.vm.findClass K = some t ∧ Z.vm.assignable c t = false := by
  obtain ⟨c, t, h0, g0, n3⟩ := nn
  obtain ⟨p, k, kp, h1, h2, h3, h4, h5, -, h7⟩ := Cond.superclass_spec h0 w1
  obtain ⟨t', kt, g1, g2, g5, g7, -⟩ := Cond.instantiable_spec wk
  cases g0.symm.trans g1
  have g8 : kt.isInterface = false := by rw [Bool.or_eq_false_iff] at g7; exact g7.1
  have ne := ids_ne h0 g0 hn
  refine ⟨c, t, h0, g0, ?_⟩
  show Z.vm.assignableAux (255 + 1) c t = false
  simp [Vm.assignableAux, ne, h2, g2, h5, g5, g8, Vm.isSubclass, n3]
theorem Go.ldcStr (hx : p.tables.exec = Jvm.exec) (hZ : Z.Warmed39 s.vm) {own text : String} {index nn ce' sl' : Nat} {vs : List Value} {z : Int32} (hown : s.vm.findClass own = some m.cls) (w1 : (Cond.stringLink own index text).before a0 Z = true) (wS : ∀ a ∈ Bundle.stringAtoms, a.before a0 Z = true) (hmem : (own, index) ∈ EL)
    (ht : (∀ c ∈ text.toList, c.toNat < 256) ∧ text.toList.map (fun c => Value.int (Jvm.Lit.byteI c.toNat.toUInt16)) = vs) (hz : ¬ z < 0) (hl : z.toNatClampNeg = vs.length) (hd : decode c.code pc = .ok (.ldc index, 2)) (hq : q = pc + 2) (hn : 4 * text.toList.length ≤ nn) (hbig : nn ≤ 536870912) (hce : ce + 2 = ce') (hsl : sl + (nn + 4) = sl') (hc : ce' ≤ R.cells) (hl' : sl' ≤ R.slots)
    (G : ∀ (h' : Heap) (a b : Addr) (k : ClassId), Ext h h' → Exa Z h' a "java/lang/String" → Fld Z h' a "java/lang/String" "coder" "B" (.int 0) → Fld Z h' a "java/lang/String" "value" "[B" (.ref b) → Arv Z h' b k .byte z vs (.int 0) → (∀ x ∈ SF, x ≠ a ∧ x ≠ b) → Go p l e R s m args below meth c n0 C N Q Z a0 EL hh0 SF h' ce' sl' q Ls (.ref a :: st)) : Go p l e R s m args below meth c n0 C N Q Z a0 EL hh0 SF h ce sl pc Ls st := fun T vm0 locs k0 hz' hel X hS hk hC hF Nf eT => by
  subst hq hce hsl
  obtain ⟨a, T', h', k1, b, k, X', eT', E, hS', hk', hZ', hown', x1, x2, x3, x4, x5, x6, hC', hL, hne, hs⟩ := ldcCH X hx (wZ hZ hS) (wO hown hS) w1 wS eT hS hk hel hmem hC.1 ht hz hl (g := mkF m pc Ls st) rfl hd hn hbig hc hl'
  have hF' : ∀ x ∈ SF, x < h'.size ∧ Safe Z EL T'.vm h' x := fun x hx => ⟨Nat.lt_of_lt_of_le (hF x hx).1 E.1, hC'.safe (hF x hx).1 (hF x hx).2⟩
  obtain ⟨s₂, v', L', S, r⟩ := G h' a b k E x1 x2 x3 x4 (fun x hx => hne x (hF' x hx).2) T' T'.vm _ k1 hz' hel X' hS' hk' (hC.trans hC') hF' Nf eT'
  exact ⟨s₂, v', L', hs _ S, r⟩
theorem Go.ldcOpq (hx : p.tables.exec = Jvm.exec) (hZ : Z.Warmed39 s.vm) {own text : String} {index nn ce' sl' : Nat} (hown : s.vm.findClass own = some m.cls) (w1 : (Cond.stringLink own index text).before a0 Z = true) (wS : ∀ a ∈ Bundle.stringAtoms, a.before a0 Z = true)
    (hd : decode c.code pc = .ok (.ldc index, 2)) (hq : q = pc + 2) (hn : 4 * text.toList.length ≤ nn) (hbig : nn ≤ 536870912) (hce : ce + 2 = ce') (hsl : sl + (nn + 4) = sl') (hc : ce' ≤ R.cells) (hl' : sl' ≤ R.slots)
    (G : ∀ (h' : Heap) (a : Addr), Ext h h' → Go p l e R s m args below meth c n0 C N Q Z a0 EL hh0 SF h' ce' sl' q Ls (.ref a :: st)) : Go p l e R s m args below meth c n0 C N Q Z a0 EL hh0 SF h ce sl pc Ls st := fun T vm0 locs k0 hz' hel X hS hk hC hF Nf eT => by
  subst hq hce hsl
  obtain ⟨a, T', h', k1, X', eT', E, hS', hk', hZ', hown', hC', hL, hs⟩ := ldcOH X hx (wZ hZ hS) (wO hown hS) w1 wS eT hS hk hel hC.1 (g := mkF m pc Ls st) rfl hd hn hbig hc hl'
  have hF' : ∀ x ∈ SF, x < h'.size ∧ Safe Z EL T'.vm h' x := fun x hx => ⟨Nat.lt_of_lt_of_le (hF x hx).1 E.1, hC'.safe (hF x hx).1 (hF x hx).2⟩
  obtain ⟨s₂, v', L', S, r⟩ := G h' a E T' T'.vm _ k1 hz' hel X' hS' hk' (hC.trans hC') hF' Nf eT'
  exact ⟨s₂, v', L', hs _ S, r⟩
end OwnKit
theorem mask255 (x : Int32) : 0 ≤ (x &&& (255 : Int32)).toInt ∧ (x &&& (255 : Int32)).toInt ≤ 255 := by
  have e1 : (x &&& 255).toInt = x.toInt % 2 ^ 8 := Jvm.Kit.i32_mask x 255 (k := 8) (by decide) (by decide)
  omega
theorem char_ok (x : Int32) : ¬ (255 : Int32) < nar .char ((x &&& (255 : Int32)).toUInt32.toUInt16.toUInt32.toInt32) := by
  simp only [nar, i2c_mask]
  have e2 : (255 : Int32).toInt = 255 := rfl
  have := mask255 x
  rw [Int32.lt_iff_toInt_lt]; omega
theorem and3 (x : Int32) : (x &&& (3 : Int32)) = (0 : Int32) ∨ (x &&& (3 : Int32)) = (1 : Int32) ∨ (x &&& (3 : Int32)) = (2 : Int32) ∨ (x &&& (3 : Int32)) = (3 : Int32) := by
  have e1 : (x &&& 3).toInt = x.toInt % 2 ^ 2 := Jvm.Kit.i32_mask x 3 (k := 2) (by decide) (by decide)
  have f0 : (0 : Int32).toInt = 0 := rfl
  have f1 : (1 : Int32).toInt = 1 := rfl
  have f2 : (2 : Int32).toInt = 2 := rfl
  have f3 : (3 : Int32).toInt = 3 := rfl
  simp only [← Int32.toInt_inj]
  omega
theorem i2c_int (x : Int32) : (x.toUInt32.toUInt16.toUInt32.toInt32).toInt = x.toInt % 65536 := by
  have h : ∀ u : UInt16, (u.toUInt32.toInt32).toInt = u.toNat := fun u => by
    have hu := u.toNat_lt
    show ((u.toUInt32).toBitVec).toInt = _
    have hm : (u.toUInt32).toBitVec.toNat = u.toNat := by
      show (u.toUInt32).toNat = _
      simp
    rw [BitVec.toInt_eq_toNat_cond, hm, if_pos (by omega)]
  have e : x.toUInt32.toNat = x.toBitVec.toNat := rfl
  have e2 : x.toInt = x.toBitVec.toInt := rfl
  have hx := x.toBitVec.isLt
  rw [h, UInt32.toNat_toUInt16, e, e2, BitVec.toInt_eq_toNat_cond]
  split <;> omega
theorem i2b_int (x : Int32) : (x.toInt8.toInt32).toInt = x.toInt.bmod 256 := by
  rw [Int8.toInt_toInt32, Int32.toInt_toInt8]
def Chr (c : Int32) : Prop := 0 ≤ c.toInt ∧ c.toInt ≤ 65535
theorem chr_of (x : Int32) : Chr ((x &&& (65535 : Int32)).toUInt32.toUInt16.toUInt32.toInt32) := by
  unfold Chr; rw [i2c_int]; omega
theorem nar_chr {c : Int32} (h : Chr c) : nar .char c = c := by
  rw [← Int32.toInt_inj]; show (c.toUInt32.toUInt16.toUInt32.toInt32).toInt = _
  rw [i2c_int]; unfold Chr at h; omega
theorem m255 (x : Int32) : (x &&& (255 : Int32)).toInt = x.toInt % 256 := Jvm.Kit.i32_mask x 255 (k := 8) (by decide) (by decide)
theorem lat_ok {c : Int32} (h : Chr c) (h2 : ¬ (255 : Int32) < c) : nar .char ((nar .byte c.toInt8.toInt32 &&& (255 : Int32)).toUInt32.toUInt16.toUInt32.toInt32) = c := by
  unfold Chr at h
  have e2 : (255 : Int32).toInt = 255 := rfl
  rw [Int32.lt_iff_toInt_lt] at h2
  rw [← Int32.toInt_inj]
  show ((((c.toInt8.toInt32.toInt8.toInt32 &&& (255 : Int32)).toUInt32.toUInt16.toUInt32.toInt32)).toUInt32.toUInt16.toUInt32.toInt32).toInt = _
  rw [i2c_int, i2c_int, m255, i2b_int, i2b_int]
  simp only [Int.bmod_def]
  omega
theorem or8 {x y : Int32} (hx : 0 ≤ x.toInt) (hx2 : x.toInt ≤ 255) (hy : 0 ≤ y.toInt) (hy2 : y.toInt ≤ 255) : (x ||| (y <<< ((8 : Int32) &&& 31))).toInt = x.toInt + 256 * y.toInt := by
  have hs := Jvm.Kit.i32_shl y ((8 : Int32) &&& 31) (k := 8) (by decide) (by omega) (by omega)
  generalize hz : y <<< ((8 : Int32) &&& 31) = z at hs ⊢
  have ex : x.toInt = x.toBitVec.toInt := rfl
  have ez : z.toInt = z.toBitVec.toInt := rfl
  have lx := x.toBitVec.isLt
  have lz := z.toBitVec.isLt
  rw [BitVec.toInt_eq_toNat_cond] at ex ez
  have nx : x.toBitVec.toNat = x.toInt.toNat := by split at ex <;> omega
  have nz : z.toBitVec.toNat = y.toInt.toNat * 256 := by split at ez <;> omega
  have eo : (x ||| z).toInt = (x.toBitVec ||| z.toBitVec).toInt := rfl
  rw [eo, BitVec.toInt_eq_toNat_cond, BitVec.toNat_or, nx, nz, Nat.or_comm]
  have := Nat.shiftLeft_add_eq_or_of_lt (b := x.toInt.toNat) (i := 8) (by omega) y.toInt.toNat
  rw [Nat.shiftLeft_eq] at this
  rw [show y.toInt.toNat * 256 = y.toInt.toNat * 2 ^ 8 from rfl, ← this]
  split <;> omega
theorem utf_ok {c : Int32} (h : Chr c) : nar .char ((((nar .byte (c >>> ((0 : Int32) &&& 31)).toInt8.toInt32 &&& (255 : Int32)) <<< ((0 : Int32) &&& 31)) ||| ((nar .byte (c >>> ((8 : Int32) &&& 31)).toInt8.toInt32 &&& (255 : Int32)) <<< ((8 : Int32) &&& 31))).toUInt32.toUInt16.toUInt32.toInt32) = c := by
  unfold Chr at h
  rw [← Int32.toInt_inj]
  show ((((((c >>> ((0 : Int32) &&& 31)).toInt8.toInt32.toInt8.toInt32 &&& (255 : Int32)) <<< ((0 : Int32) &&& 31)) ||| (((c >>> ((8 : Int32) &&& 31)).toInt8.toInt32.toInt8.toInt32 &&& (255 : Int32)) <<< ((8 : Int32) &&& 31))).toUInt32.toUInt16.toUInt32.toInt32).toUInt32.toUInt16.toUInt32.toInt32).toInt = _
  have s0 := Jvm.Kit.i32_shr c ((0 : Int32) &&& 31) (k := 0) (by decide)
  have s8 := Jvm.Kit.i32_shr c ((8 : Int32) &&& 31) (k := 8) (by decide)
  have a0 : ((c >>> ((0 : Int32) &&& 31)).toInt8.toInt32.toInt8.toInt32 &&& (255 : Int32)).toInt = c.toInt % 256 := by
    rw [m255, i2b_int, i2b_int, s0]; simp only [Int.bmod_def]; omega
  have a8 : ((c >>> ((8 : Int32) &&& 31)).toInt8.toInt32.toInt8.toInt32 &&& (255 : Int32)).toInt = c.toInt / 256 := by
    rw [m255, i2b_int, i2b_int, s8]; simp only [Int.bmod_def]; omega
  have t0 := Jvm.Kit.i32_shl ((c >>> ((0 : Int32) &&& 31)).toInt8.toInt32.toInt8.toInt32 &&& (255 : Int32)) ((0 : Int32) &&& 31) (k := 0) (by decide) (by omega) (by omega)
  rw [i2c_int, i2c_int, or8 (by omega) (by omega) (by omega) (by omega), t0, a0, a8]
  omega
theorem rem5 (x : Int32) : (x &&& (2147483647 : Int32)) % (5 : Int32) = (0 : Int32) ∨ (x &&& (2147483647 : Int32)) % (5 : Int32) = (1 : Int32) ∨ (x &&& (2147483647 : Int32)) % (5 : Int32) = (2 : Int32) ∨ (x &&& (2147483647 : Int32)) % (5 : Int32) = (3 : Int32) ∨ (x &&& (2147483647 : Int32)) % (5 : Int32) = (4 : Int32) := by
  have e1 : (x &&& 2147483647).toInt = x.toInt % 2 ^ 31 := Jvm.Kit.i32_mask x 2147483647 (k := 31) (by decide) (by decide)
  have e2 := Jvm.Kit.i32_rem_nonneg (x := x &&& 2147483647) (y := 5) (by omega)
  have f0 : (0 : Int32).toInt = 0 := rfl
  have f1 : (1 : Int32).toInt = 1 := rfl
  have f2 : (2 : Int32).toInt = 2 := rfl
  have f3 : (3 : Int32).toInt = 3 := rfl
  have f4 : (4 : Int32).toInt = 4 := rfl
  have f5 : (5 : Int32).toInt = 5 := rfl
  simp only [← Int32.toInt_inj, e2, f0, f1, f2, f3, f4, f5]
  omega
/-- an array of bytes that isn't empty is no cell of the constant "" -/
theorem safe_len {Z : State} {a0 : Array Value} {vm : Vm} {h : Heap} {x : Addr} {k : ClassId} {z : Int32} {vs : List Value} {dv : Value} {own : String} {ix : Nat} (hZ : Z.Warmed39 vm) (w : (Cond.stringLink own ix "").before a0 Z = true) (F : Arv Z h x k .byte z vs dv) (hz : 0 < z.toNatClampNeg) : Safe Z [(own, ix)] vm h x := fun B => by
  have hal : Z.vm.Alike vm := hZ.alike
  obtain ⟨cl, A, -, hsz, -⟩ := F
  obtain ⟨A1, ⟨-, kA, hkA, compA, hkindA⟩, -⟩ := A
  obtain ⟨kA', hkA', ekA⟩ := hal.2.2 _ _ hkA
  obtain ⟨p, hp, u, a, hb, q, -, F, rfl | rfl⟩ := B
  · cases (show h[q.sa]? = some q.sC from F.ha).symm.trans A1
    obtain ⟨cS, ⟨-, -, e⟩, ⟨kS, g1, g2, -⟩, -⟩ := F
    subst e
    cases (show vm.classes[q.sC.cls]? = some kS from g1).symm.trans hkA'
    rw [ekA] at g2
    have := hkindA.symm.trans g2
    cases this
  · cases (show h[q.sd]? = some q.SA from F.hd).symm.trans A1
    obtain ⟨cS, -, -, -, hby⟩ := F
    obtain rfl : p = (own, ix) := by simpa using hp
    obtain ⟨c, k', cf, i, hc', hk', hcf', hpool, hu, -⟩ := hb
    have w2 : (Cond.stringLink own ix "").before a0 (Wst Z vm h) = true := mvS (s := { Z with heap := h }) hZ w
    obtain ⟨k0, cf0, i0, units0, hk, hcf, hp0, hu0, -, htext, -⟩ := Cond.stringLink_spec (s := Wst Z vm h) hc' w2
    cases hk'.symm.trans hk
    cases hcf'.symm.trans hcf
    cases hpool.symm.trans hp0
    cases hu.symm.trans hu0
    have e1 := Jvm.ClassFile.units_of_text htext (by decide)
    have e2 : u.size = 0 := by
      have := congrArg List.length e1
      simpa using this
    have e3 := stringBytes_size_le u
    rw [hby] at hsz
    omega
theorem Go.safe {p : Program} {l : Launch} {e : Env} {R : Room} {s : State} {m : MethodId} {args : Array Value} {below : List Frame} {meth : Method} {c : Code} {n0 C N : Nat} {Q : Option Value → Heap → Prop} {h : Heap} {ce sl pc : Nat} {Ls : Array Slot} {st : List Value} {Z : State} {a0 : Array Value} {EL : List (String × Nat)} {hh0 : Heap} {SF : List Addr} {x : Addr} (hb : x < h.size) (hs : ∀ vm, Z.Warmed39 vm → Safe Z EL vm h x) (G : Go p l e R s m args below meth c n0 C N Q Z a0 EL hh0 (x :: SF) h ce sl pc Ls st) : Go p l e R s m args below meth c n0 C N Q Z a0 EL hh0 SF h ce sl pc Ls st := fun T vm0 locs k0 hz hel X hS hk hC hF Nf eT =>
  G T vm0 locs k0 hz hel X hS hk hC (fun y hy => by
    rcases List.mem_cons.mp hy with rfl | hy
    · exact ⟨hb, hs _ (wZ hz hS)⟩
    · exact hF y hy) Nf eT
theorem d9_0 : decode jdk_52_method_15_code 0 = .ok (.iload_n 1, 1) := by decide +kernel
theorem d9_1 : decode jdk_52_method_15_code 1 = .ok (.aload_n 0, 1) := by decide +kernel
theorem d9_2 : decode jdk_52_method_15_code 2 = .ok (.arraylength, 1) := by decide +kernel
theorem d9_3 : decode jdk_52_method_15_code 3 = .ok (.isub, 1) := by decide +kernel
theorem d9_4 : decode jdk_52_method_15_code 4 = .ok (.bipush 31, 2) := by decide +kernel
theorem d9_6 : decode jdk_52_method_15_code 6 = .ok (.iushr, 1) := by decide +kernel
theorem d9_7 : decode jdk_52_method_15_code 7 = .ok (.i2b, 1) := by decide +kernel
theorem d9_8 : decode jdk_52_method_15_code 8 = .ok (.ireturn, 1) := by decide +kernel
theorem pl_0 : plainFor (⟨"java/lang/StringUTF16", "coderFromArrayLen", "([BI)B"⟩ : MethodName) = true := plainFor_of_name (by first | (simp [plainName, overriddenIn]; done) | decide +kernel)
theorem rmK (l : Launch) (Z : State) (a0 : Array Value) (hw : ∀ d ∈ tables_1, d.before a0 Z = true) (hel : EW Z a0 consts_1) (b : Addr) (kb : ClassId) (n : Int32) (vs : List Value) (h0 : Heap) (n0 : Nat) (Z0 : n0 ≤ h0.size) (B : Arv Z h0 b kb .byte n vs (.int (0 : Int32))) :
    Met l Z consts_1 [] (⟨"java/lang/StringUTF16", "coderFromArrayLen", "([BI)B"⟩ : MethodName) jdk_52_method_15_code 2 (Option.some FieldType.byte) [] ({ frames := 0, cells := 0, slots := 0, locals := 0 } : Room) #[(.ref b), (.int n)] h0 n0 (fun v h => v = some (.int (0 : Int32)) ∧ h0 = h) := by
  refine Met.of (Ls0 := #[.val (.ref b), .val (.int n)]) pl_0 (by first | (simp [argsToLocals, Value.category]; done) | rfl) hel ?_
  intro p e s m below meth c hx hby hml hret hlk hown hnm hZ
  refine Go.iloadN (q := 1) hx (hb hby d9_0) rfl rfl ?_
  refine Go.aloadN (q := 2) hx (hb hby d9_1) rfl (by rfl) rfl ?_
  refine Go.alen (q := 3) hx hZ B (hb hby d9_2) rfl ?_
  refine Go.isub (q := 4) hx (hb hby d9_3) rfl ?_
  refine Go.bipush (q := 6) (z := (31 : Int32)) hx (hb hby d9_4) rfl rfl ?_
  refine Go.iushr (q := 7) hx (hb hby d9_6) rfl ?_
  refine Go.i2b (q := 8) hx (hb hby d9_7) rfl ?_
  refine Go.retN hx (t := .byte) hret (by simp) hlk (hb hby d9_8) (by decide) (by decide) ?_
  exact ⟨by rw [Int32.sub_self]; rfl, rfl⟩
theorem d2_0 : decode jdk_42_method_149_code 0 = .ok (.aload_n 0, 1) := by decide +kernel
theorem d2_1 : decode jdk_42_method_149_code 1 = .ok (.invokespecial 1, 3) := by decide +kernel
theorem d2_4 : decode jdk_42_method_149_code 4 = .ok (.iload_n 3, 1) := by decide +kernel
theorem d2_5 : decode jdk_42_method_149_code 5 = .ok (.ifCond .ne 22, 3) := by decide +kernel
theorem d2_8 : decode jdk_42_method_149_code 8 = .ok (.aload_n 0, 1) := by decide +kernel
theorem d2_9 : decode jdk_42_method_149_code 9 = .ok (.ldc 7, 2) := by decide +kernel
theorem d2_11 : decode jdk_42_method_149_code 11 = .ok (.getfield 9, 3) := by decide +kernel
theorem d2_14 : decode jdk_42_method_149_code 14 = .ok (.putfield 9, 3) := by decide +kernel
theorem d2_17 : decode jdk_42_method_149_code 17 = .ok (.aload_n 0, 1) := by decide +kernel
theorem d2_18 : decode jdk_42_method_149_code 18 = .ok (.ldc 7, 2) := by decide +kernel
theorem d2_20 : decode jdk_42_method_149_code 20 = .ok (.getfield 15, 3) := by decide +kernel
theorem d2_23 : decode jdk_42_method_149_code 23 = .ok (.putfield 15, 3) := by decide +kernel
theorem d2_26 : decode jdk_42_method_149_code 26 = .ok (.return_, 1) := by decide +kernel
theorem d2_27 : decode jdk_42_method_149_code 27 = .ok (.getstatic 38, 3) := by decide +kernel
theorem d2_30 : decode jdk_42_method_149_code 30 = .ok (.ifCond .eq 28, 3) := by decide +kernel
theorem d2_33 : decode jdk_42_method_149_code 33 = .ok (.aload_n 1, 1) := by decide +kernel
theorem d2_34 : decode jdk_42_method_149_code 34 = .ok (.iload_n 2, 1) := by decide +kernel
theorem d2_35 : decode jdk_42_method_149_code 35 = .ok (.iload_n 3, 1) := by decide +kernel
theorem d2_36 : decode jdk_42_method_149_code 36 = .ok (.invokestatic 177, 3) := by decide +kernel
theorem d2_39 : decode jdk_42_method_149_code 39 = .ok (.astore 5, 2) := by decide +kernel
theorem d2_41 : decode jdk_42_method_149_code 41 = .ok (.aload_n 0, 1) := by decide +kernel
theorem d2_42 : decode jdk_42_method_149_code 42 = .ok (.aload 5, 2) := by decide +kernel
theorem d2_44 : decode jdk_42_method_149_code 44 = .ok (.iload_n 3, 1) := by decide +kernel
theorem d2_45 : decode jdk_42_method_149_code 45 = .ok (.invokestatic 47, 3) := by decide +kernel
theorem d2_48 : decode jdk_42_method_149_code 48 = .ok (.putfield 15, 3) := by decide +kernel
theorem d2_51 : decode jdk_42_method_149_code 51 = .ok (.aload_n 0, 1) := by decide +kernel
theorem d2_52 : decode jdk_42_method_149_code 52 = .ok (.aload 5, 2) := by decide +kernel
theorem d2_54 : decode jdk_42_method_149_code 54 = .ok (.putfield 9, 3) := by decide +kernel
theorem d2_57 : decode jdk_42_method_149_code 57 = .ok (.return_, 1) := by decide +kernel
theorem d2_58 : decode jdk_42_method_149_code 58 = .ok (.aload_n 0, 1) := by decide +kernel
theorem d2_59 : decode jdk_42_method_149_code 59 = .ok (.iconst 1, 1) := by decide +kernel
theorem d2_60 : decode jdk_42_method_149_code 60 = .ok (.putfield 15, 3) := by decide +kernel
theorem d2_63 : decode jdk_42_method_149_code 63 = .ok (.aload_n 0, 1) := by decide +kernel
theorem d2_64 : decode jdk_42_method_149_code 64 = .ok (.aload_n 1, 1) := by decide +kernel
theorem d2_65 : decode jdk_42_method_149_code 65 = .ok (.iload_n 2, 1) := by decide +kernel
theorem d2_66 : decode jdk_42_method_149_code 66 = .ok (.iload_n 3, 1) := by decide +kernel
theorem d2_67 : decode jdk_42_method_149_code 67 = .ok (.invokestatic 180, 3) := by decide +kernel
theorem d2_70 : decode jdk_42_method_149_code 70 = .ok (.putfield 9, 3) := by decide +kernel
theorem d2_73 : decode jdk_42_method_149_code 73 = .ok (.return_, 1) := by decide +kernel
theorem pl_1 : plainFor (⟨"java/lang/String", "<init>", "([CIILjava/lang/Void;)V"⟩ : MethodName) = true := plainFor_of_name (by first | (simp [plainName, overriddenIn]; done) | decide +kernel)
theorem pd_0 : parseMethodDescriptor "()V" = some ⟨[], none⟩ := by decide +kernel
theorem pd_1 : parseMethodDescriptor "([CII)[B" = some ⟨[(.array .char), .int, .int], some (.array .byte)⟩ := by decide +kernel
theorem pd_2 : parseMethodDescriptor "([BI)B" = some ⟨[(.array .byte), .int], some .byte⟩ := by decide +kernel
theorem rmS0 (l : Launch) (Z : State) (a0 : Array Value) (hw : ∀ d ∈ tables_1, d.before a0 Z = true) (hel : EW Z a0 consts_1) (sa a : Addr) (ka : ClassId) (cst : Int32) (h0 : Heap) (n0 : Nat) (Z0 : n0 ≤ h0.size) (gs : n0 ≤ sa) (nas : a ≠ sa) (E : Exa Z h0 sa "java/lang/String") (F1 : Fld Z h0 sa "java/lang/String" "value" "[B" .null) (F2 : Fld Z h0 sa "java/lang/String" "coder" "B" (.int (0 : Int32))) (A : Arv Z h0 a ka .char (0 : Int32) [] (.int (0 : Int32)))  (X0 : Old Z n0 h0) (SC : Sta Z Z.heap "java/lang/String" "COMPACT_STRINGS" "Z" (.int cst)) (hcs : ¬ cst = (0 : Int32)) :
    Met l Z consts_1 [sa] (⟨"java/lang/String", "<init>", "([CIILjava/lang/Void;)V"⟩ : MethodName) jdk_42_method_149_code 6 (Option.none : Option FieldType) [] ({ frames := 2, cells := 4, slots := 8, locals := 35 } : Room) #[(.ref sa), (.ref a), (.int (0 : Int32)), (.int (0 : Int32)), .null] h0 n0 (fun v h => v = none ∧ Keep h0 h [sa] ∧ ∃ b kb, Fld Z h sa "java/lang/String" "value" "[B" (.ref b) ∧ Fld Z h sa "java/lang/String" "coder" "B" (.int (0 : Int32)) ∧ Arv Z h b kb .byte (0 : Int32) [] (.int (0 : Int32))) := by
  refine Met.of (Ls0 := #[.val (.ref sa), .val (.ref a), .val (.int (0 : Int32)), .val (.int (0 : Int32)), .val .null, .unset]) pl_1 (by first | (simp [argsToLocals, Value.category]; done) | rfl) hel ?_
  have hSA : ∀ d ∈ Bundle.stringAtoms, d.before a0 Z = true := fun d hd => hw d ((by decide +kernel : ∀ d ∈ Bundle.stringAtoms, d ∈ tables_1) d hd)
  intro p e s m below meth c hx hby hml hret hlk hown hnm hZ
  refine Go.aloadN (q := 1) hx (hb hby d2_0) rfl (by rfl) rfl ?_
  refine Go.initO (q := 4) hx hZ hown (tw hw 17 rfl) (tw hw 18 rfl) (tw hw 19 rfl) (by rw [hml]; rfl) (hb hby d2_1) rfl (by decide) (ble rfl) ?_
  refine Go.iloadN (q := 5) hx (hb hby d2_4) rfl rfl ?_
  refine Go.if_ne (q := 8) (t := 27) hx (hb hby d2_5) (by decide) rfl rfl (fun hc5 => absurd hc5 (by decide)) (fun hc5 => ?_)
  refine Go.aloadN (q := 9) hx (hb hby d2_8) rfl (by rfl) rfl ?_
  refine Go.ldcStr (q := 11) (nn := 0) (z := (0 : Int32)) (vs := []) hx hZ hown (tw hw 20 rfl) hSA (by decide) ⟨by decide, rfl⟩ (by decide) rfl (hb hby d2_9) rfl (by decide) (by decide) (ce' := 2) (sl' := 4) rfl rfl (by decide) (by decide) (fun h1 a2 b4 k5 E3 x6 x7 x8 x9 nn10 => ?_)
  refine Go.getF (q := 14) hx hZ hown (host := "") (Or.inl (tw hw 26 rfl)) Via.refl x8 (hb hby d2_11) rfl ?_
  refine Go.putF (q := 17) hx hZ hown (host := "") (Or.inl (tw hw 26 rfl)) Via.refl (Fld.ext E3 F1) (Exa.ext E3 E) (Or.inr ⟨(tw hw 22 rfl), rfl, hnm⟩) (tw hw 7 rfl) (ty := (.array .byte)) (by decide) rfl rfl gs (by simp) (hb hby d2_14) rfl (fun h11 W12 => ?_)
  refine Go.aloadN (q := 18) hx (hb hby d2_17) rfl (by rfl) rfl ?_
  refine Go.ldcStr (q := 20) (nn := 0) (z := (0 : Int32)) (vs := []) hx hZ hown (tw hw 20 rfl) hSA (by decide) ⟨by decide, rfl⟩ (by decide) rfl (hb hby d2_18) rfl (by decide) (by decide) (ce' := 4) (sl' := 8) rfl rfl (by decide) (by decide) (fun h13 a14 b16 k17 E15 x18 x19 x20 x21 nn22 => ?_)
  refine Go.getF (q := 23) hx hZ hown (host := "") (Or.inl (tw hw 27 rfl)) Via.refl x19 (hb hby d2_20) rfl ?_
  refine Go.putF (q := 26) hx hZ hown (host := "") (Or.inl (tw hw 27 rfl)) Via.refl (Fld.ext E15 (Fld.other W12 (Fld.ext E3 F2) (Or.inr (slot_ne (C := "java/lang/String") (Or.inr (tw hw 23 rfl)) (Or.inr (tw hw 22 rfl)) (by decide) (by decide : _ = some .byte) (by decide : _ = some (.array .byte)))))) (Exa.ext E15 (Exa.wr W12 (Exa.ext E3 E))) (Or.inr ⟨(tw hw 23 rfl), rfl, hnm⟩) (tw hw 7 rfl) (ty := .byte) (by decide) rfl rfl gs (by simp) (hb hby d2_23) rfl (fun h23 W24 => ?_)
  refine Go.ret0 hx hret hlk (hb hby d2_26) (by decide) (by decide) ?_
  exact ⟨rfl, (((((Keep.refl h0 [sa]).ext E3).wr W12 (Or.inl (by simp))).ext E15).wr W24 (Or.inl (by simp))), b4, k5, (Fld.other W24 (Fld.ext E15 (Fld.same W12 (Fld.ext E3 F1))) (Or.inr (slot_ne (C := "java/lang/String") (Or.inr (tw hw 22 rfl)) (Or.inr (tw hw 23 rfl)) (by decide) (by decide : _ = some (.array .byte)) (by decide : _ = some .byte)))), (Fld.same W24 (Fld.ext E15 (Fld.other W12 (Fld.ext E3 F2) (Or.inr (slot_ne (C := "java/lang/String") (Or.inr (tw hw 23 rfl)) (Or.inr (tw hw 22 rfl)) (by decide) (by decide : _ = some .byte) (by decide : _ = some (.array .byte))))))), (((x9.other W12 (nn10 sa (by simp)).2.symm).ext E15).other W24 (nn10 sa (by simp)).2.symm)⟩
theorem d1_0 : decode jdk_42_method_3_code 0 = .ok (.aload_n 0, 1) := by decide +kernel
theorem d1_1 : decode jdk_42_method_3_code 1 = .ok (.aload_n 1, 1) := by decide +kernel
theorem d1_2 : decode jdk_42_method_3_code 2 = .ok (.iconst 0, 1) := by decide +kernel
theorem d1_3 : decode jdk_42_method_3_code 3 = .ok (.aload_n 1, 1) := by decide +kernel
theorem d1_4 : decode jdk_42_method_3_code 4 = .ok (.arraylength, 1) := by decide +kernel
theorem d1_5 : decode jdk_42_method_3_code 5 = .ok (.aconst_null, 1) := by decide +kernel
theorem d1_6 : decode jdk_42_method_3_code 6 = .ok (.invokespecial 27, 3) := by decide +kernel
theorem d1_9 : decode jdk_42_method_3_code 9 = .ok (.return_, 1) := by decide +kernel
theorem pl_2 : plainFor (⟨"java/lang/String", "<init>", "([C)V"⟩ : MethodName) = true := plainFor_of_name (by first | (simp [plainName, overriddenIn]; done) | decide +kernel)
theorem pd_3 : parseMethodDescriptor "([CIILjava/lang/Void;)V" = some ⟨[(.array .char), .int, .int, (.object "java/lang/Void")], none⟩ := by decide +kernel
theorem rmI0 (l : Launch) (Z : State) (a0 : Array Value) (hw : ∀ d ∈ tables_1, d.before a0 Z = true) (hel : EW Z a0 consts_1) (sa a : Addr) (ka : ClassId) (cst : Int32) (h0 : Heap) (n0 : Nat) (Z0 : n0 ≤ h0.size) (gs : n0 ≤ sa) (nas : a ≠ sa) (E : Exa Z h0 sa "java/lang/String") (F1 : Fld Z h0 sa "java/lang/String" "value" "[B" .null) (F2 : Fld Z h0 sa "java/lang/String" "coder" "B" (.int (0 : Int32))) (A : Arv Z h0 a ka .char (0 : Int32) [] (.int (0 : Int32)))  (X0 : Old Z n0 h0) (SC : Sta Z Z.heap "java/lang/String" "COMPACT_STRINGS" "Z" (.int cst)) (hcs : ¬ cst = (0 : Int32)) :
    Met l Z consts_1 [sa] (⟨"java/lang/String", "<init>", "([C)V"⟩ : MethodName) jdk_42_method_3_code 2 (Option.none : Option FieldType) [] ({ frames := 3, cells := 4, slots := 8, locals := 52 } : Room) #[(.ref sa), (.ref a)] h0 n0 (fun v h => v = none ∧ Keep h0 h [sa] ∧ ∃ b kb, Fld Z h sa "java/lang/String" "value" "[B" (.ref b) ∧ Fld Z h sa "java/lang/String" "coder" "B" (.int (0 : Int32)) ∧ Arv Z h b kb .byte (0 : Int32) [] (.int (0 : Int32))) := by
  refine Met.of (Ls0 := #[.val (.ref sa), .val (.ref a)]) pl_2 (by first | (simp [argsToLocals, Value.category]; done) | rfl) hel ?_
  intro p e s m below meth c hx hby hml hret hlk hown hnm hZ
  refine Go.aloadN (q := 1) hx (hb hby d1_0) rfl (by rfl) rfl ?_
  refine Go.aloadN (q := 2) hx (hb hby d1_1) rfl (by rfl) rfl ?_
  refine Go.iconst (q := 3) (z := (0 : Int32)) hx (hb hby d1_2) rfl rfl ?_
  refine Go.aloadN (q := 4) hx (hb hby d1_3) rfl (by rfl) rfl ?_
  refine Go.alen (q := 5) hx hZ A (hb hby d1_4) rfl ?_
  refine Go.aconstNull (q := 6) hx (hb hby d1_5) rfl ?_
  refine Go.callI (q := 9) hx hZ (a := sa) (argsL := [(.ref a), (.int (0 : Int32)), (.int (0 : Int32)), .null]) (rest := []) hown rfl (tw hw 13 rfl) (tw hw 14 rfl) (tw hw 8 rfl) (tw hw 16 rfl) (by decide) (rmS0 l Z a0 hw hel sa a ka cst  h0 n0 Z0 gs nas E F1 F2 A  X0 SC hcs) (by simp) (by rw [hml]; rfl) pd_3 rfl rfl (hb hby d1_6) rfl (by decide) (ble rfl) (ce' := 4) (sl' := 8) rfl rfl (by decide) (by decide) (fun v25 h26 hQ27 => ?_)
  obtain ⟨rfl, K28, Y29⟩ := hQ27
  show Go _ _ _ _ _ _ _ _ _ _ _ _ _ _ _ _ _ _ _ _ 4 8 9 #[.val (.ref sa), .val (.ref a)] []
  refine Go.ret0 hx hret hlk (hb hby d1_9) (by decide) (by decide) ?_
  exact ⟨rfl, (Keep.trans (Keep.refl h0 [sa]) K28 (allS (Or.inl (by simp)) all0)), Y29⟩
theorem d8_0 : decode jdk_52_method_21_code 0 = .ok (.iconst 0, 1) := by decide +kernel
theorem d8_1 : decode jdk_52_method_21_code 1 = .ok (.istore 5, 2) := by decide +kernel
theorem d8_3 : decode jdk_52_method_21_code 3 = .ok (.iload 5, 2) := by decide +kernel
theorem d8_5 : decode jdk_52_method_21_code 5 = .ok (.iload 4, 2) := by decide +kernel
theorem d8_7 : decode jdk_52_method_21_code 7 = .ok (.if_icmp .ge 37, 3) := by decide +kernel
theorem d8_10 : decode jdk_52_method_21_code 10 = .ok (.aload_n 0, 1) := by decide +kernel
theorem d8_11 : decode jdk_52_method_21_code 11 = .ok (.iload_n 1, 1) := by decide +kernel
theorem d8_12 : decode jdk_52_method_21_code 12 = .ok (.caload, 1) := by decide +kernel
theorem d8_13 : decode jdk_52_method_21_code 13 = .ok (.istore 6, 2) := by decide +kernel
theorem d8_15 : decode jdk_52_method_21_code 15 = .ok (.iload 6, 2) := by decide +kernel
theorem d8_17 : decode jdk_52_method_21_code 17 = .ok (.sipush 255, 3) := by decide +kernel
theorem d8_20 : decode jdk_52_method_21_code 20 = .ok (.if_icmp .le 6, 3) := by decide +kernel
theorem d8_23 : decode jdk_52_method_21_code 23 = .ok (.iload 5, 2) := by decide +kernel
theorem d8_25 : decode jdk_52_method_21_code 25 = .ok (.ireturn, 1) := by decide +kernel
theorem d8_26 : decode jdk_52_method_21_code 26 = .ok (.aload_n 2, 1) := by decide +kernel
theorem d8_27 : decode jdk_52_method_21_code 27 = .ok (.iload_n 3, 1) := by decide +kernel
theorem d8_28 : decode jdk_52_method_21_code 28 = .ok (.iload 6, 2) := by decide +kernel
theorem d8_30 : decode jdk_52_method_21_code 30 = .ok (.i2b, 1) := by decide +kernel
theorem d8_31 : decode jdk_52_method_21_code 31 = .ok (.bastore, 1) := by decide +kernel
theorem d8_32 : decode jdk_52_method_21_code 32 = .ok (.iinc 1 1, 3) := by decide +kernel
theorem d8_35 : decode jdk_52_method_21_code 35 = .ok (.iinc 3 1, 3) := by decide +kernel
theorem d8_38 : decode jdk_52_method_21_code 38 = .ok (.iinc 5 1, 3) := by decide +kernel
theorem d8_41 : decode jdk_52_method_21_code 41 = .ok (.goto (-38), 3) := by decide +kernel
theorem d8_44 : decode jdk_52_method_21_code 44 = .ok (.iload 4, 2) := by decide +kernel
theorem d8_46 : decode jdk_52_method_21_code 46 = .ok (.ireturn, 1) := by decide +kernel
theorem pl_3 : plainFor (⟨"java/lang/StringUTF16", "compress", "([CI[BII)I"⟩ : MethodName) = true := plainFor_of_name (by first | (simp [plainName, overriddenIn]; done) | decide +kernel)
theorem rmC1 (l : Launch) (Z : State) (a0 : Array Value) (hw : ∀ d ∈ tables_1, d.before a0 Z = true) (hel : EW Z a0 consts_1) (a b : Addr) (ka kb : ClassId) (c0 : Int32) (h0 : Heap) (n0 : Nat) (Z0 : n0 ≤ h0.size) (A : Arv Z h0 a ka .char (1 : Int32) [.int c0] (.int (0 : Int32))) (B : Arv Z h0 b kb .byte (1 : Int32) [(.int (0 : Int32))] (.int (0 : Int32))) (gb : n0 ≤ b) (nab : a ≠ b) (hp0 : ¬ (255 : Int32) < c0) :
    Met l Z consts_1 [b] (⟨"java/lang/StringUTF16", "compress", "([CI[BII)I"⟩ : MethodName) jdk_52_method_21_code 7 (Option.some FieldType.int) [] ({ frames := 0, cells := 0, slots := 0, locals := 0 } : Room) #[(.ref a), (.int (0 : Int32)), (.ref b), (.int (0 : Int32)), (.int (1 : Int32))] h0 n0 (fun v h => v = some (.int (1 : Int32)) ∧ Keep h0 h [b] ∧ Arv Z h b kb .byte (1 : Int32) [(.int (nar .byte c0.toInt8.toInt32))] (.int (0 : Int32))) := by
  refine Met.of (Ls0 := #[.val (.ref a), .val (.int (0 : Int32)), .val (.ref b), .val (.int (0 : Int32)), .val (.int (1 : Int32)), .unset, .unset]) pl_3 (by first | (simp [argsToLocals, Value.category]; done) | rfl) hel ?_
  intro p e s m below meth c hx hby hml hret hlk hown hnm hZ
  refine Go.iconst (q := 1) (z := (0 : Int32)) hx (hb hby d8_0) rfl rfl ?_
  refine Go.istore (q := 3) (l' := #[.val (.ref a), .val (.int (0 : Int32)), .val (.ref b), .val (.int (0 : Int32)), .val (.int (1 : Int32)), .val (.int (0 : Int32)), .unset]) hx (hb hby d8_1) rfl rfl ?_
  refine Go.iload (q := 5) hx (hb hby d8_3) rfl rfl ?_
  refine Go.iload (q := 7) hx (hb hby d8_5) rfl rfl ?_
  refine Go.icmp_ge (q := 10) (t := 44) hx (hb hby d8_7) (by decide) rfl rfl (fun hc7 => absurd hc7 (by decide)) (fun hc7 => ?_)
  refine Go.aloadN (q := 11) hx (hb hby d8_10) rfl (by rfl) rfl ?_
  refine Go.iloadN (q := 12) hx (hb hby d8_11) rfl rfl ?_
  refine Go.caload (q := 13) (v := (.int c0)) hx hZ A ⟨by decide, by decide⟩ rfl (hb hby d8_12) rfl ?_
  refine Go.istore (q := 15) (l' := #[.val (.ref a), .val (.int (0 : Int32)), .val (.ref b), .val (.int (0 : Int32)), .val (.int (1 : Int32)), .val (.int (0 : Int32)), .val (.int c0)]) hx (hb hby d8_13) rfl rfl ?_
  refine Go.iload (q := 17) hx (hb hby d8_15) rfl rfl ?_
  refine Go.sipush (q := 20) (z := (255 : Int32)) hx (hb hby d8_17) rfl rfl ?_
  refine Go.icmp_le (q := 23) (t := 26) hx (hb hby d8_20) (by decide) rfl rfl (fun hc20 => ?_) (fun hc20 => absurd hc20 hp0)
  refine Go.aloadN (q := 27) hx (hb hby d8_26) rfl (by rfl) rfl ?_
  refine Go.iloadN (q := 28) hx (hb hby d8_27) rfl rfl ?_
  refine Go.iload (q := 30) hx (hb hby d8_28) rfl rfl ?_
  refine Go.i2b (q := 31) hx (hb hby d8_30) rfl ?_
  refine Go.bastore (q := 32) hx hZ B ⟨by decide, by decide⟩ 0 rfl (ble rfl) gb (by simp) (hb hby d8_31) rfl (fun h30 W31 V32 => ?_)
  refine Go.iinc (q := 35) (l' := #[.val (.ref a), .val (.int ((0 : Int32) + (1 : Int32))), .val (.ref b), .val (.int (0 : Int32)), .val (.int (1 : Int32)), .val (.int (0 : Int32)), .val (.int c0)]) hx (hb hby d8_32) rfl rfl rfl ?_
  refine Go.iinc (q := 38) (l' := #[.val (.ref a), .val (.int ((0 : Int32) + (1 : Int32))), .val (.ref b), .val (.int ((0 : Int32) + (1 : Int32))), .val (.int (1 : Int32)), .val (.int (0 : Int32)), .val (.int c0)]) hx (hb hby d8_35) rfl rfl rfl ?_
  refine Go.iinc (q := 41) (l' := #[.val (.ref a), .val (.int ((0 : Int32) + (1 : Int32))), .val (.ref b), .val (.int ((0 : Int32) + (1 : Int32))), .val (.int (1 : Int32)), .val (.int ((0 : Int32) + (1 : Int32))), .val (.int c0)]) hx (hb hby d8_38) rfl rfl rfl ?_
  refine Go.goto (q := 3) hx (hb hby d8_41) (by decide) rfl ?_
  refine Go.iload (q := 5) hx (hb hby d8_3) rfl rfl ?_
  refine Go.iload (q := 7) hx (hb hby d8_5) rfl rfl ?_
  refine Go.icmp_ge (q := 10) (t := 44) hx (hb hby d8_7) (by decide) rfl rfl (fun hc7_1 => ?_) (fun hc7_1 => absurd hc7_1 (by decide))
  refine Go.iload (q := 46) hx (hb hby d8_44) rfl rfl ?_
  refine Go.retI hx hret hlk (hb hby d8_46) (by decide) (by decide) ?_
  exact ⟨rfl, ((Keep.refl h0 [b]).wr W31 (Or.inl (by simp))), V32⟩
theorem d7_0 : decode jdk_52_method_16_code 0 = .ok (.iload_n 2, 1) := by decide +kernel
theorem d7_1 : decode jdk_52_method_16_code 1 = .ok (.newarray .byte, 2) := by decide +kernel
theorem d7_3 : decode jdk_52_method_16_code 3 = .ok (.astore_n 3, 1) := by decide +kernel
theorem d7_4 : decode jdk_52_method_16_code 4 = .ok (.aload_n 0, 1) := by decide +kernel
theorem d7_5 : decode jdk_52_method_16_code 5 = .ok (.iload_n 1, 1) := by decide +kernel
theorem d7_6 : decode jdk_52_method_16_code 6 = .ok (.aload_n 3, 1) := by decide +kernel
theorem d7_7 : decode jdk_52_method_16_code 7 = .ok (.iconst 0, 1) := by decide +kernel
theorem d7_8 : decode jdk_52_method_16_code 8 = .ok (.iload_n 2, 1) := by decide +kernel
theorem d7_9 : decode jdk_52_method_16_code 9 = .ok (.invokestatic 115, 3) := by decide +kernel
theorem d7_12 : decode jdk_52_method_16_code 12 = .ok (.istore 4, 2) := by decide +kernel
theorem d7_14 : decode jdk_52_method_16_code 14 = .ok (.iload 4, 2) := by decide +kernel
theorem d7_16 : decode jdk_52_method_16_code 16 = .ok (.iload_n 2, 1) := by decide +kernel
theorem d7_17 : decode jdk_52_method_16_code 17 = .ok (.if_icmp .eq 40, 3) := by decide +kernel
theorem d7_20 : decode jdk_52_method_16_code 20 = .ok (.aload_n 0, 1) := by decide +kernel
theorem d7_21 : decode jdk_52_method_16_code 21 = .ok (.iload_n 1, 1) := by decide +kernel
theorem d7_22 : decode jdk_52_method_16_code 22 = .ok (.iload_n 2, 1) := by decide +kernel
theorem d7_23 : decode jdk_52_method_16_code 23 = .ok (.invokestatic 119, 3) := by decide +kernel
theorem d7_26 : decode jdk_52_method_16_code 26 = .ok (.astore 5, 2) := by decide +kernel
theorem d7_28 : decode jdk_52_method_16_code 28 = .ok (.aload 5, 2) := by decide +kernel
theorem d7_30 : decode jdk_52_method_16_code 30 = .ok (.iload 4, 2) := by decide +kernel
theorem d7_32 : decode jdk_52_method_16_code 32 = .ok (.invokestatic 71, 3) := by decide +kernel
theorem d7_35 : decode jdk_52_method_16_code 35 = .ok (.sipush 255, 3) := by decide +kernel
theorem d7_38 : decode jdk_52_method_16_code 38 = .ok (.if_icmp .gt 16, 3) := by decide +kernel
theorem d7_41 : decode jdk_52_method_16_code 41 = .ok (.aload 5, 2) := by decide +kernel
theorem d7_43 : decode jdk_52_method_16_code 43 = .ok (.iconst 0, 1) := by decide +kernel
theorem d7_44 : decode jdk_52_method_16_code 44 = .ok (.aload_n 3, 1) := by decide +kernel
theorem d7_45 : decode jdk_52_method_16_code 45 = .ok (.iconst 0, 1) := by decide +kernel
theorem d7_46 : decode jdk_52_method_16_code 46 = .ok (.iload_n 2, 1) := by decide +kernel
theorem d7_47 : decode jdk_52_method_16_code 47 = .ok (.invokestatic 123, 3) := by decide +kernel
theorem d7_50 : decode jdk_52_method_16_code 50 = .ok (.iload_n 2, 1) := by decide +kernel
theorem d7_51 : decode jdk_52_method_16_code 51 = .ok (.if_icmp .eq 6, 3) := by decide +kernel
theorem d7_54 : decode jdk_52_method_16_code 54 = .ok (.aload 5, 2) := by decide +kernel
theorem d7_56 : decode jdk_52_method_16_code 56 = .ok (.areturn, 1) := by decide +kernel
theorem d7_57 : decode jdk_52_method_16_code 57 = .ok (.aload_n 3, 1) := by decide +kernel
theorem d7_58 : decode jdk_52_method_16_code 58 = .ok (.areturn, 1) := by decide +kernel
theorem pl_4 : plainFor (⟨"java/lang/StringUTF16", "compress", "([CII)[B"⟩ : MethodName) = true := plainFor_of_name (by first | (simp [plainName, overriddenIn]; done) | decide +kernel)
theorem pd_4 : parseMethodDescriptor "([CI[BII)I" = some ⟨[(.array .char), .int, (.array .byte), .int, .int], some .int⟩ := by decide +kernel
theorem pd_5 : parseMethodDescriptor "([BI)C" = some ⟨[(.array .byte), .int], some .char⟩ := by decide +kernel
theorem rmD1 (l : Launch) (Z : State) (a0 : Array Value) (hw : ∀ d ∈ tables_1, d.before a0 Z = true) (hel : EW Z a0 consts_1) (a : Addr) (ka : ClassId) (c0 : Int32) (h0 : Heap) (n0 : Nat) (Z0 : n0 ≤ h0.size) (A : Arv Z h0 a ka .char (1 : Int32) [.int c0] (.int (0 : Int32))) (hp0 : ¬ (255 : Int32) < c0) :
    Met l Z consts_1 [] (⟨"java/lang/StringUTF16", "compress", "([CII)[B"⟩ : MethodName) jdk_52_method_16_code 6 (Option.some (FieldType.array FieldType.byte)) [] ({ frames := 1, cells := 1, slots := 1, locals := 18 } : Room) #[(.ref a), (.int (0 : Int32)), (.int (1 : Int32))] h0 n0 (fun v h => ∃ b kb, v = some (.ref b) ∧ h0.size ≤ b ∧ Keep h0 h [] ∧ Arv Z h b kb .byte (1 : Int32) [(.int (nar .byte c0.toInt8.toInt32))] (.int (0 : Int32))) := by
  refine Met.of (Ls0 := #[.val (.ref a), .val (.int (0 : Int32)), .val (.int (1 : Int32)), .unset, .unset, .unset]) pl_4 (by first | (simp [argsToLocals, Value.category]; done) | rfl) hel ?_
  intro p e s m below meth c hx hby hml hret hlk hown hnm hZ
  refine Go.iloadN (q := 1) hx (hb hby d7_0) rfl rfl ?_
  refine Go.newP (q := 3) (cap := 1) hx hZ (tw hw 21 rfl) (by decide) (by decide) (hb hby d7_1) rfl (by decide) (ce' := 1) (sl' := 1) rfl rfl (by decide) (by decide) (fun h33 a34 k35 g36 E37 A38 => ?_)
  have ne39 : a ≠ a34 := by rw [g36]; exact Nat.ne_of_lt (A).lt
  have gz40 : n0 ≤ a34 := by rw [g36]; exact Z0
  have gk41 : h0.size ≤ a34 := by rw [g36]; exact (Keep.refl h0 []).1
  have V42 : Arv Z h33 a34 k35 .byte (1 : Int32) [(.int (0 : Int32))] (.int (0 : Int32)) := A38.pad (pad_rep [] (.int (0 : Int32)) 1)
  refine Go.astoreN (q := 4) (l' := #[.val (.ref a), .val (.int (0 : Int32)), .val (.int (1 : Int32)), .val (.ref a34), .unset, .unset]) hx (hb hby d7_3) (by rfl) rfl rfl ?_
  refine Go.aloadN (q := 5) hx (hb hby d7_4) rfl (by rfl) rfl ?_
  refine Go.iloadN (q := 6) hx (hb hby d7_5) rfl rfl ?_
  refine Go.aloadN (q := 7) hx (hb hby d7_6) rfl (by rfl) rfl ?_
  refine Go.iconst (q := 8) (z := (0 : Int32)) hx (hb hby d7_7) rfl rfl ?_
  refine Go.iloadN (q := 9) hx (hb hby d7_8) rfl rfl ?_
  refine Go.callS (q := 12) hx hZ (argsL := [(.ref a), (.int (0 : Int32)), (.ref a34), (.int (0 : Int32)), (.int (1 : Int32))]) (rest := []) hown (tw hw 47 rfl) (tw hw 48 rfl) (tw hw 45 rfl) (tw hw 49 rfl) (by decide) (rmC1 l Z a0 hw hel a a34 ka k35 c0 h33 n0 (Nat.le_trans Z0 E37.1) (A.ext E37) V42 gz40 ne39 hp0) (by simp) (by rw [hml]; rfl) pd_4 rfl rfl (hb hby d7_9) rfl (by decide) (ble rfl) (ce' := 1) (sl' := 1) rfl rfl (by decide) (by decide) (fun v43 h44 hQ45 => ?_)
  obtain ⟨rfl, K46, V47⟩ := hQ45
  show Go _ _ _ _ _ _ _ _ _ _ _ _ _ _ _ _ _ _ _ _ 1 1 12 #[.val (.ref a), .val (.int (0 : Int32)), .val (.int (1 : Int32)), .val (.ref a34), .unset, .unset] [(.int (1 : Int32))]
  refine Go.istore (q := 14) (l' := #[.val (.ref a), .val (.int (0 : Int32)), .val (.int (1 : Int32)), .val (.ref a34), .val (.int (1 : Int32)), .unset]) hx (hb hby d7_12) rfl rfl ?_
  refine Go.iload (q := 16) hx (hb hby d7_14) rfl rfl ?_
  refine Go.iloadN (q := 17) hx (hb hby d7_16) rfl rfl ?_
  refine Go.icmp_eq (q := 20) (t := 57) hx (hb hby d7_17) (by decide) rfl rfl (fun hc17 => ?_) (fun hc17 => absurd hc17 (by decide))
  refine Go.aloadN (q := 58) hx (hb hby d7_57) rfl (by rfl) rfl ?_
  refine Go.retA hx hret rfl (by rfl) hlk (hb hby d7_58) (by decide) (by decide) ?_
  exact ⟨a34, _, rfl, gk41, (Keep.trans ((Keep.refl h0 []).ext E37) K46 (allS (Or.inr gk41) all0)), V47⟩
theorem rmS1 (l : Launch) (Z : State) (a0 : Array Value) (hw : ∀ d ∈ tables_1, d.before a0 Z = true) (hel : EW Z a0 consts_1) (sa a : Addr) (ka : ClassId) (cst : Int32) (c0 : Int32) (h0 : Heap) (n0 : Nat) (Z0 : n0 ≤ h0.size) (gs : n0 ≤ sa) (nas : a ≠ sa) (E : Exa Z h0 sa "java/lang/String") (F1 : Fld Z h0 sa "java/lang/String" "value" "[B" .null) (F2 : Fld Z h0 sa "java/lang/String" "coder" "B" (.int (0 : Int32))) (A : Arv Z h0 a ka .char (1 : Int32) [.int c0] (.int (0 : Int32))) (hp0 : ¬ (255 : Int32) < c0) (X0 : Old Z n0 h0) (SC : Sta Z Z.heap "java/lang/String" "COMPACT_STRINGS" "Z" (.int cst)) (hcs : ¬ cst = (0 : Int32)) :
    Met l Z consts_1 [sa] (⟨"java/lang/String", "<init>", "([CIILjava/lang/Void;)V"⟩ : MethodName) jdk_42_method_149_code 6 (Option.none : Option FieldType) [] ({ frames := 2, cells := 1, slots := 1, locals := 35 } : Room) #[(.ref sa), (.ref a), (.int (0 : Int32)), (.int (1 : Int32)), .null] h0 n0 (fun v h => v = none ∧ Keep h0 h [sa] ∧ ∃ b kb, h0.size ≤ b ∧ Fld Z h sa "java/lang/String" "value" "[B" (.ref b) ∧ Fld Z h sa "java/lang/String" "coder" "B" (.int (0 : Int32)) ∧ Arv Z h b kb .byte (1 : Int32) [(.int (nar .byte c0.toInt8.toInt32))] (.int (0 : Int32))) := by
  refine Met.of (Ls0 := #[.val (.ref sa), .val (.ref a), .val (.int (0 : Int32)), .val (.int (1 : Int32)), .val .null, .unset]) pl_1 (by first | (simp [argsToLocals, Value.category]; done) | rfl) hel ?_
  have hSA : ∀ d ∈ Bundle.stringAtoms, d.before a0 Z = true := fun d hd => hw d ((by decide +kernel : ∀ d ∈ Bundle.stringAtoms, d ∈ tables_1) d hd)
  intro p e s m below meth c hx hby hml hret hlk hown hnm hZ
  refine Go.aloadN (q := 1) hx (hb hby d2_0) rfl (by rfl) rfl ?_
  refine Go.initO (q := 4) hx hZ hown (tw hw 17 rfl) (tw hw 18 rfl) (tw hw 19 rfl) (by rw [hml]; rfl) (hb hby d2_1) rfl (by decide) (ble rfl) ?_
  refine Go.iloadN (q := 5) hx (hb hby d2_4) rfl rfl ?_
  refine Go.if_ne (q := 8) (t := 27) hx (hb hby d2_5) (by decide) rfl rfl (fun hc5 => ?_) (fun hc5 => absurd hc5 (by decide))
  refine Go.getS (q := 30) hx hZ hown (host := "") (Or.inl (tw hw 42 rfl)) Via.refl (Sta.ext X0.2 SC) (hb hby d2_27) rfl ?_
  refine Go.if_eq (q := 33) (t := 58) hx (hb hby d2_30) (by decide) rfl rfl (fun hc30 => absurd hc30 hcs) (fun hc30 => ?_)
  refine Go.aloadN (q := 34) hx (hb hby d2_33) rfl (by rfl) rfl ?_
  refine Go.iloadN (q := 35) hx (hb hby d2_34) rfl rfl ?_
  refine Go.iloadN (q := 36) hx (hb hby d2_35) rfl rfl ?_
  refine Go.callS (q := 39) hx hZ (argsL := [(.ref a), (.int (0 : Int32)), (.int (1 : Int32))]) (rest := []) hown (tw hw 43 rfl) (tw hw 44 rfl) (tw hw 45 rfl) (tw hw 46 rfl) (by decide) (rmD1 l Z a0 hw hel a ka c0 h0 n0 Z0 A hp0) (fun _ hx => nomatch hx) (by rw [hml]; rfl) pd_1 rfl rfl (hb hby d2_36) rfl (by decide) (ble rfl) (ce' := 1) (sl' := 1) rfl rfl (by decide) (by decide) (fun v48 h49 hQ50 => ?_)
  have lt56 := (E).lt
  obtain ⟨b51, k52, rfl, g53, K54, V55⟩ := hQ50
  have ne57 : sa ≠ b51 := Nat.ne_of_lt (Nat.lt_of_lt_of_le lt56 g53)
  show Go _ _ _ _ _ _ _ _ _ _ _ _ _ _ _ _ _ _ _ _ 1 1 39 #[.val (.ref sa), .val (.ref a), .val (.int (0 : Int32)), .val (.int (1 : Int32)), .val .null, .unset] [(.ref b51)]
  refine Go.astore (q := 41) (l' := #[.val (.ref sa), .val (.ref a), .val (.int (0 : Int32)), .val (.int (1 : Int32)), .val .null, .val (.ref b51)]) hx (hb hby d2_39) (by rfl) rfl rfl ?_
  refine Go.aloadN (q := 42) hx (hb hby d2_41) rfl (by rfl) rfl ?_
  refine Go.aload (q := 44) hx (hb hby d2_42) rfl (by rfl) rfl ?_
  refine Go.iloadN (q := 45) hx (hb hby d2_44) rfl rfl ?_
  refine Go.callS (q := 48) hx hZ (argsL := [(.ref b51), (.int (1 : Int32))]) (rest := [(.ref sa)]) hown (tw hw 50 rfl) (tw hw 51 rfl) (tw hw 45 rfl) (tw hw 52 rfl) (by decide) (rmK l Z a0 hw hel b51 k52 (1 : Int32) _ h49 n0 (Nat.le_trans Z0 K54.1) V55) (fun _ hx => nomatch hx) (by rw [hml]; rfl) pd_2 rfl rfl (hb hby d2_45) rfl (by decide) (ble rfl) (ce' := 1) (sl' := 1) rfl rfl (by decide) (by decide) (fun v58 h59 hQ60 => ?_)
  obtain ⟨rfl, rfl⟩ := hQ60
  show Go _ _ _ _ _ _ _ _ _ _ _ _ _ _ _ _ _ _ _ _ 1 1 48 #[.val (.ref sa), .val (.ref a), .val (.int (0 : Int32)), .val (.int (1 : Int32)), .val .null, .val (.ref b51)] [(.int (0 : Int32)), (.ref sa)]
  refine Go.putF (q := 51) hx hZ hown (host := "") (Or.inl (tw hw 27 rfl)) Via.refl (F2.keep K54 nin0) (E.keep K54) (Or.inr ⟨(tw hw 23 rfl), rfl, hnm⟩) (tw hw 7 rfl) (ty := .byte) (by decide) rfl rfl gs (by simp) (hb hby d2_48) rfl (fun h61 W62 => ?_)
  refine Go.aloadN (q := 52) hx (hb hby d2_51) rfl (by rfl) rfl ?_
  refine Go.aload (q := 54) hx (hb hby d2_52) rfl (by rfl) rfl ?_
  refine Go.putF (q := 57) hx hZ hown (host := "") (Or.inl (tw hw 26 rfl)) Via.refl (Fld.other W62 (F1.keep K54 nin0) (Or.inr (slot_ne (C := "java/lang/String") (Or.inr (tw hw 22 rfl)) (Or.inr (tw hw 23 rfl)) (by decide) (by decide : _ = some (.array .byte)) (by decide : _ = some .byte)))) (Exa.wr W62 (E.keep K54)) (Or.inr ⟨(tw hw 22 rfl), rfl, hnm⟩) (tw hw 7 rfl) (ty := (.array .byte)) (by decide) rfl rfl gs (by simp) (hb hby d2_54) rfl (fun h63 W64 => ?_)
  refine Go.ret0 hx hret hlk (hb hby d2_57) (by decide) (by decide) ?_
  exact ⟨rfl, (((Keep.trans (Keep.refl h0 [sa]) K54 all0).wr W62 (Or.inl (by simp))).wr W64 (Or.inl (by simp))), b51, k52, g53, (Fld.same W64 (Fld.other W62 (F1.keep K54 nin0) (Or.inr (slot_ne (C := "java/lang/String") (Or.inr (tw hw 22 rfl)) (Or.inr (tw hw 23 rfl)) (by decide) (by decide : _ = some (.array .byte)) (by decide : _ = some .byte))))), (Fld.other W64 (Fld.same W62 (F2.keep K54 nin0)) (Or.inr (slot_ne (C := "java/lang/String") (Or.inr (tw hw 23 rfl)) (Or.inr (tw hw 22 rfl)) (by decide) (by decide : _ = some .byte) (by decide : _ = some (.array .byte))))), ((V55.other W62 ne57.symm).other W64 ne57.symm)⟩
theorem rmI1 (l : Launch) (Z : State) (a0 : Array Value) (hw : ∀ d ∈ tables_1, d.before a0 Z = true) (hel : EW Z a0 consts_1) (sa a : Addr) (ka : ClassId) (cst : Int32) (c0 : Int32) (h0 : Heap) (n0 : Nat) (Z0 : n0 ≤ h0.size) (gs : n0 ≤ sa) (nas : a ≠ sa) (E : Exa Z h0 sa "java/lang/String") (F1 : Fld Z h0 sa "java/lang/String" "value" "[B" .null) (F2 : Fld Z h0 sa "java/lang/String" "coder" "B" (.int (0 : Int32))) (A : Arv Z h0 a ka .char (1 : Int32) [.int c0] (.int (0 : Int32))) (hp0 : ¬ (255 : Int32) < c0) (X0 : Old Z n0 h0) (SC : Sta Z Z.heap "java/lang/String" "COMPACT_STRINGS" "Z" (.int cst)) (hcs : ¬ cst = (0 : Int32)) :
    Met l Z consts_1 [sa] (⟨"java/lang/String", "<init>", "([C)V"⟩ : MethodName) jdk_42_method_3_code 2 (Option.none : Option FieldType) [] ({ frames := 3, cells := 1, slots := 1, locals := 52 } : Room) #[(.ref sa), (.ref a)] h0 n0 (fun v h => v = none ∧ Keep h0 h [sa] ∧ ∃ b kb, h0.size ≤ b ∧ Fld Z h sa "java/lang/String" "value" "[B" (.ref b) ∧ Fld Z h sa "java/lang/String" "coder" "B" (.int (0 : Int32)) ∧ Arv Z h b kb .byte (1 : Int32) [(.int (nar .byte c0.toInt8.toInt32))] (.int (0 : Int32))) := by
  refine Met.of (Ls0 := #[.val (.ref sa), .val (.ref a)]) pl_2 (by first | (simp [argsToLocals, Value.category]; done) | rfl) hel ?_
  intro p e s m below meth c hx hby hml hret hlk hown hnm hZ
  refine Go.aloadN (q := 1) hx (hb hby d1_0) rfl (by rfl) rfl ?_
  refine Go.aloadN (q := 2) hx (hb hby d1_1) rfl (by rfl) rfl ?_
  refine Go.iconst (q := 3) (z := (0 : Int32)) hx (hb hby d1_2) rfl rfl ?_
  refine Go.aloadN (q := 4) hx (hb hby d1_3) rfl (by rfl) rfl ?_
  refine Go.alen (q := 5) hx hZ A (hb hby d1_4) rfl ?_
  refine Go.aconstNull (q := 6) hx (hb hby d1_5) rfl ?_
  refine Go.callI (q := 9) hx hZ (a := sa) (argsL := [(.ref a), (.int (0 : Int32)), (.int (1 : Int32)), .null]) (rest := []) hown rfl (tw hw 13 rfl) (tw hw 14 rfl) (tw hw 8 rfl) (tw hw 16 rfl) (by decide) (rmS1 l Z a0 hw hel sa a ka cst c0 h0 n0 Z0 gs nas E F1 F2 A hp0 X0 SC hcs) (by simp) (by rw [hml]; rfl) pd_3 rfl rfl (hb hby d1_6) rfl (by decide) (ble rfl) (ce' := 1) (sl' := 1) rfl rfl (by decide) (by decide) (fun v65 h66 hQ67 => ?_)
  obtain ⟨rfl, K68, Y69⟩ := hQ67
  show Go _ _ _ _ _ _ _ _ _ _ _ _ _ _ _ _ _ _ _ _ 1 1 9 #[.val (.ref sa), .val (.ref a)] []
  refine Go.ret0 hx hret hlk (hb hby d1_9) (by decide) (by decide) ?_
  exact ⟨rfl, (Keep.trans (Keep.refl h0 [sa]) K68 (allS (Or.inl (by simp)) all0)), Y69⟩
theorem rmC2 (l : Launch) (Z : State) (a0 : Array Value) (hw : ∀ d ∈ tables_1, d.before a0 Z = true) (hel : EW Z a0 consts_1) (a b : Addr) (ka kb : ClassId) (c0 c1 : Int32) (h0 : Heap) (n0 : Nat) (Z0 : n0 ≤ h0.size) (A : Arv Z h0 a ka .char (2 : Int32) [.int c0, .int c1] (.int (0 : Int32))) (B : Arv Z h0 b kb .byte (2 : Int32) [(.int (0 : Int32)), (.int (0 : Int32))] (.int (0 : Int32))) (gb : n0 ≤ b) (nab : a ≠ b) (hp0 : ¬ (255 : Int32) < c0) (hp1 : ¬ (255 : Int32) < c1) :
    Met l Z consts_1 [b] (⟨"java/lang/StringUTF16", "compress", "([CI[BII)I"⟩ : MethodName) jdk_52_method_21_code 7 (Option.some FieldType.int) [] ({ frames := 0, cells := 0, slots := 0, locals := 0 } : Room) #[(.ref a), (.int (0 : Int32)), (.ref b), (.int (0 : Int32)), (.int (2 : Int32))] h0 n0 (fun v h => v = some (.int (2 : Int32)) ∧ Keep h0 h [b] ∧ Arv Z h b kb .byte (2 : Int32) [(.int (nar .byte c0.toInt8.toInt32)), (.int (nar .byte c1.toInt8.toInt32))] (.int (0 : Int32))) := by
  refine Met.of (Ls0 := #[.val (.ref a), .val (.int (0 : Int32)), .val (.ref b), .val (.int (0 : Int32)), .val (.int (2 : Int32)), .unset, .unset]) pl_3 (by first | (simp [argsToLocals, Value.category]; done) | rfl) hel ?_
  intro p e s m below meth c hx hby hml hret hlk hown hnm hZ
  refine Go.iconst (q := 1) (z := (0 : Int32)) hx (hb hby d8_0) rfl rfl ?_
  refine Go.istore (q := 3) (l' := #[.val (.ref a), .val (.int (0 : Int32)), .val (.ref b), .val (.int (0 : Int32)), .val (.int (2 : Int32)), .val (.int (0 : Int32)), .unset]) hx (hb hby d8_1) rfl rfl ?_
  refine Go.iload (q := 5) hx (hb hby d8_3) rfl rfl ?_
  refine Go.iload (q := 7) hx (hb hby d8_5) rfl rfl ?_
  refine Go.icmp_ge (q := 10) (t := 44) hx (hb hby d8_7) (by decide) rfl rfl (fun hc7 => absurd hc7 (by decide)) (fun hc7 => ?_)
  refine Go.aloadN (q := 11) hx (hb hby d8_10) rfl (by rfl) rfl ?_
  refine Go.iloadN (q := 12) hx (hb hby d8_11) rfl rfl ?_
  refine Go.caload (q := 13) (v := (.int c0)) hx hZ A ⟨by decide, by decide⟩ rfl (hb hby d8_12) rfl ?_
  refine Go.istore (q := 15) (l' := #[.val (.ref a), .val (.int (0 : Int32)), .val (.ref b), .val (.int (0 : Int32)), .val (.int (2 : Int32)), .val (.int (0 : Int32)), .val (.int c0)]) hx (hb hby d8_13) rfl rfl ?_
  refine Go.iload (q := 17) hx (hb hby d8_15) rfl rfl ?_
  refine Go.sipush (q := 20) (z := (255 : Int32)) hx (hb hby d8_17) rfl rfl ?_
  refine Go.icmp_le (q := 23) (t := 26) hx (hb hby d8_20) (by decide) rfl rfl (fun hc20 => ?_) (fun hc20 => absurd hc20 hp0)
  refine Go.aloadN (q := 27) hx (hb hby d8_26) rfl (by rfl) rfl ?_
  refine Go.iloadN (q := 28) hx (hb hby d8_27) rfl rfl ?_
  refine Go.iload (q := 30) hx (hb hby d8_28) rfl rfl ?_
  refine Go.i2b (q := 31) hx (hb hby d8_30) rfl ?_
  refine Go.bastore (q := 32) hx hZ B ⟨by decide, by decide⟩ 0 rfl (ble rfl) gb (by simp) (hb hby d8_31) rfl (fun h70 W71 V72 => ?_)
  refine Go.iinc (q := 35) (l' := #[.val (.ref a), .val (.int ((0 : Int32) + (1 : Int32))), .val (.ref b), .val (.int (0 : Int32)), .val (.int (2 : Int32)), .val (.int (0 : Int32)), .val (.int c0)]) hx (hb hby d8_32) rfl rfl rfl ?_
  refine Go.iinc (q := 38) (l' := #[.val (.ref a), .val (.int ((0 : Int32) + (1 : Int32))), .val (.ref b), .val (.int ((0 : Int32) + (1 : Int32))), .val (.int (2 : Int32)), .val (.int (0 : Int32)), .val (.int c0)]) hx (hb hby d8_35) rfl rfl rfl ?_
  refine Go.iinc (q := 41) (l' := #[.val (.ref a), .val (.int ((0 : Int32) + (1 : Int32))), .val (.ref b), .val (.int ((0 : Int32) + (1 : Int32))), .val (.int (2 : Int32)), .val (.int ((0 : Int32) + (1 : Int32))), .val (.int c0)]) hx (hb hby d8_38) rfl rfl rfl ?_
  refine Go.goto (q := 3) hx (hb hby d8_41) (by decide) rfl ?_
  refine Go.iload (q := 5) hx (hb hby d8_3) rfl rfl ?_
  refine Go.iload (q := 7) hx (hb hby d8_5) rfl rfl ?_
  refine Go.icmp_ge (q := 10) (t := 44) hx (hb hby d8_7) (by decide) rfl rfl (fun hc7_1 => absurd hc7_1 (by decide)) (fun hc7_1 => ?_)
  refine Go.aloadN (q := 11) hx (hb hby d8_10) rfl (by rfl) rfl ?_
  refine Go.iloadN (q := 12) hx (hb hby d8_11) rfl rfl ?_
  refine Go.caload (q := 13) (v := (.int c1)) hx hZ (A.other W71 nab) ⟨by decide, by decide⟩ rfl (hb hby d8_12) rfl ?_
  refine Go.istore (q := 15) (l' := #[.val (.ref a), .val (.int ((0 : Int32) + (1 : Int32))), .val (.ref b), .val (.int ((0 : Int32) + (1 : Int32))), .val (.int (2 : Int32)), .val (.int ((0 : Int32) + (1 : Int32))), .val (.int c1)]) hx (hb hby d8_13) rfl rfl ?_
  refine Go.iload (q := 17) hx (hb hby d8_15) rfl rfl ?_
  refine Go.sipush (q := 20) (z := (255 : Int32)) hx (hb hby d8_17) rfl rfl ?_
  refine Go.icmp_le (q := 23) (t := 26) hx (hb hby d8_20) (by decide) rfl rfl (fun hc20_1 => ?_) (fun hc20_1 => absurd hc20_1 hp1)
  refine Go.aloadN (q := 27) hx (hb hby d8_26) rfl (by rfl) rfl ?_
  refine Go.iloadN (q := 28) hx (hb hby d8_27) rfl rfl ?_
  refine Go.iload (q := 30) hx (hb hby d8_28) rfl rfl ?_
  refine Go.i2b (q := 31) hx (hb hby d8_30) rfl ?_
  refine Go.bastore (q := 32) hx hZ V72 ⟨by decide, by decide⟩ 1 rfl (ble rfl) gb (by simp) (hb hby d8_31) rfl (fun h73 W74 V75 => ?_)
  refine Go.iinc (q := 35) (l' := #[.val (.ref a), .val (.int (((0 : Int32) + (1 : Int32)) + (1 : Int32))), .val (.ref b), .val (.int ((0 : Int32) + (1 : Int32))), .val (.int (2 : Int32)), .val (.int ((0 : Int32) + (1 : Int32))), .val (.int c1)]) hx (hb hby d8_32) rfl rfl rfl ?_
  refine Go.iinc (q := 38) (l' := #[.val (.ref a), .val (.int (((0 : Int32) + (1 : Int32)) + (1 : Int32))), .val (.ref b), .val (.int (((0 : Int32) + (1 : Int32)) + (1 : Int32))), .val (.int (2 : Int32)), .val (.int ((0 : Int32) + (1 : Int32))), .val (.int c1)]) hx (hb hby d8_35) rfl rfl rfl ?_
  refine Go.iinc (q := 41) (l' := #[.val (.ref a), .val (.int (((0 : Int32) + (1 : Int32)) + (1 : Int32))), .val (.ref b), .val (.int (((0 : Int32) + (1 : Int32)) + (1 : Int32))), .val (.int (2 : Int32)), .val (.int (((0 : Int32) + (1 : Int32)) + (1 : Int32))), .val (.int c1)]) hx (hb hby d8_38) rfl rfl rfl ?_
  refine Go.goto (q := 3) hx (hb hby d8_41) (by decide) rfl ?_
  refine Go.iload (q := 5) hx (hb hby d8_3) rfl rfl ?_
  refine Go.iload (q := 7) hx (hb hby d8_5) rfl rfl ?_
  refine Go.icmp_ge (q := 10) (t := 44) hx (hb hby d8_7) (by decide) rfl rfl (fun hc7_2 => ?_) (fun hc7_2 => absurd hc7_2 (by decide))
  refine Go.iload (q := 46) hx (hb hby d8_44) rfl rfl ?_
  refine Go.retI hx hret hlk (hb hby d8_46) (by decide) (by decide) ?_
  exact ⟨rfl, (((Keep.refl h0 [b]).wr W71 (Or.inl (by simp))).wr W74 (Or.inl (by simp))), V75⟩
theorem rmD2 (l : Launch) (Z : State) (a0 : Array Value) (hw : ∀ d ∈ tables_1, d.before a0 Z = true) (hel : EW Z a0 consts_1) (a : Addr) (ka : ClassId) (c0 c1 : Int32) (h0 : Heap) (n0 : Nat) (Z0 : n0 ≤ h0.size) (A : Arv Z h0 a ka .char (2 : Int32) [.int c0, .int c1] (.int (0 : Int32))) (hp0 : ¬ (255 : Int32) < c0) (hp1 : ¬ (255 : Int32) < c1) :
    Met l Z consts_1 [] (⟨"java/lang/StringUTF16", "compress", "([CII)[B"⟩ : MethodName) jdk_52_method_16_code 6 (Option.some (FieldType.array FieldType.byte)) [] ({ frames := 1, cells := 1, slots := 2, locals := 18 } : Room) #[(.ref a), (.int (0 : Int32)), (.int (2 : Int32))] h0 n0 (fun v h => ∃ b kb, v = some (.ref b) ∧ h0.size ≤ b ∧ Keep h0 h [] ∧ Arv Z h b kb .byte (2 : Int32) [(.int (nar .byte c0.toInt8.toInt32)), (.int (nar .byte c1.toInt8.toInt32))] (.int (0 : Int32))) := by
  refine Met.of (Ls0 := #[.val (.ref a), .val (.int (0 : Int32)), .val (.int (2 : Int32)), .unset, .unset, .unset]) pl_4 (by first | (simp [argsToLocals, Value.category]; done) | rfl) hel ?_
  intro p e s m below meth c hx hby hml hret hlk hown hnm hZ
  refine Go.iloadN (q := 1) hx (hb hby d7_0) rfl rfl ?_
  refine Go.newP (q := 3) (cap := 2) hx hZ (tw hw 21 rfl) (by decide) (by decide) (hb hby d7_1) rfl (by decide) (ce' := 1) (sl' := 2) rfl rfl (by decide) (by decide) (fun h76 a77 k78 g79 E80 A81 => ?_)
  have ne82 : a ≠ a77 := by rw [g79]; exact Nat.ne_of_lt (A).lt
  have gz83 : n0 ≤ a77 := by rw [g79]; exact Z0
  have gk84 : h0.size ≤ a77 := by rw [g79]; exact (Keep.refl h0 []).1
  have V85 : Arv Z h76 a77 k78 .byte (2 : Int32) [(.int (0 : Int32)), (.int (0 : Int32))] (.int (0 : Int32)) := A81.pad (pad_rep [] (.int (0 : Int32)) 2)
  refine Go.astoreN (q := 4) (l' := #[.val (.ref a), .val (.int (0 : Int32)), .val (.int (2 : Int32)), .val (.ref a77), .unset, .unset]) hx (hb hby d7_3) (by rfl) rfl rfl ?_
  refine Go.aloadN (q := 5) hx (hb hby d7_4) rfl (by rfl) rfl ?_
  refine Go.iloadN (q := 6) hx (hb hby d7_5) rfl rfl ?_
  refine Go.aloadN (q := 7) hx (hb hby d7_6) rfl (by rfl) rfl ?_
  refine Go.iconst (q := 8) (z := (0 : Int32)) hx (hb hby d7_7) rfl rfl ?_
  refine Go.iloadN (q := 9) hx (hb hby d7_8) rfl rfl ?_
  refine Go.callS (q := 12) hx hZ (argsL := [(.ref a), (.int (0 : Int32)), (.ref a77), (.int (0 : Int32)), (.int (2 : Int32))]) (rest := []) hown (tw hw 47 rfl) (tw hw 48 rfl) (tw hw 45 rfl) (tw hw 49 rfl) (by decide) (rmC2 l Z a0 hw hel a a77 ka k78 c0 c1 h76 n0 (Nat.le_trans Z0 E80.1) (A.ext E80) V85 gz83 ne82 hp0 hp1) (by simp) (by rw [hml]; rfl) pd_4 rfl rfl (hb hby d7_9) rfl (by decide) (ble rfl) (ce' := 1) (sl' := 2) rfl rfl (by decide) (by decide) (fun v86 h87 hQ88 => ?_)
  obtain ⟨rfl, K89, V90⟩ := hQ88
  show Go _ _ _ _ _ _ _ _ _ _ _ _ _ _ _ _ _ _ _ _ 1 2 12 #[.val (.ref a), .val (.int (0 : Int32)), .val (.int (2 : Int32)), .val (.ref a77), .unset, .unset] [(.int (2 : Int32))]
  refine Go.istore (q := 14) (l' := #[.val (.ref a), .val (.int (0 : Int32)), .val (.int (2 : Int32)), .val (.ref a77), .val (.int (2 : Int32)), .unset]) hx (hb hby d7_12) rfl rfl ?_
  refine Go.iload (q := 16) hx (hb hby d7_14) rfl rfl ?_
  refine Go.iloadN (q := 17) hx (hb hby d7_16) rfl rfl ?_
  refine Go.icmp_eq (q := 20) (t := 57) hx (hb hby d7_17) (by decide) rfl rfl (fun hc17 => ?_) (fun hc17 => absurd hc17 (by decide))
  refine Go.aloadN (q := 58) hx (hb hby d7_57) rfl (by rfl) rfl ?_
  refine Go.retA hx hret rfl (by rfl) hlk (hb hby d7_58) (by decide) (by decide) ?_
  exact ⟨a77, _, rfl, gk84, (Keep.trans ((Keep.refl h0 []).ext E80) K89 (allS (Or.inr gk84) all0)), V90⟩
theorem rmS2 (l : Launch) (Z : State) (a0 : Array Value) (hw : ∀ d ∈ tables_1, d.before a0 Z = true) (hel : EW Z a0 consts_1) (sa a : Addr) (ka : ClassId) (cst : Int32) (c0 c1 : Int32) (h0 : Heap) (n0 : Nat) (Z0 : n0 ≤ h0.size) (gs : n0 ≤ sa) (nas : a ≠ sa) (E : Exa Z h0 sa "java/lang/String") (F1 : Fld Z h0 sa "java/lang/String" "value" "[B" .null) (F2 : Fld Z h0 sa "java/lang/String" "coder" "B" (.int (0 : Int32))) (A : Arv Z h0 a ka .char (2 : Int32) [.int c0, .int c1] (.int (0 : Int32))) (hp0 : ¬ (255 : Int32) < c0) (hp1 : ¬ (255 : Int32) < c1) (X0 : Old Z n0 h0) (SC : Sta Z Z.heap "java/lang/String" "COMPACT_STRINGS" "Z" (.int cst)) (hcs : ¬ cst = (0 : Int32)) :
    Met l Z consts_1 [sa] (⟨"java/lang/String", "<init>", "([CIILjava/lang/Void;)V"⟩ : MethodName) jdk_42_method_149_code 6 (Option.none : Option FieldType) [] ({ frames := 2, cells := 1, slots := 2, locals := 35 } : Room) #[(.ref sa), (.ref a), (.int (0 : Int32)), (.int (2 : Int32)), .null] h0 n0 (fun v h => v = none ∧ Keep h0 h [sa] ∧ ∃ b kb, h0.size ≤ b ∧ Fld Z h sa "java/lang/String" "value" "[B" (.ref b) ∧ Fld Z h sa "java/lang/String" "coder" "B" (.int (0 : Int32)) ∧ Arv Z h b kb .byte (2 : Int32) [(.int (nar .byte c0.toInt8.toInt32)), (.int (nar .byte c1.toInt8.toInt32))] (.int (0 : Int32))) := by
  refine Met.of (Ls0 := #[.val (.ref sa), .val (.ref a), .val (.int (0 : Int32)), .val (.int (2 : Int32)), .val .null, .unset]) pl_1 (by first | (simp [argsToLocals, Value.category]; done) | rfl) hel ?_
  have hSA : ∀ d ∈ Bundle.stringAtoms, d.before a0 Z = true := fun d hd => hw d ((by decide +kernel : ∀ d ∈ Bundle.stringAtoms, d ∈ tables_1) d hd)
  intro p e s m below meth c hx hby hml hret hlk hown hnm hZ
  refine Go.aloadN (q := 1) hx (hb hby d2_0) rfl (by rfl) rfl ?_
  refine Go.initO (q := 4) hx hZ hown (tw hw 17 rfl) (tw hw 18 rfl) (tw hw 19 rfl) (by rw [hml]; rfl) (hb hby d2_1) rfl (by decide) (ble rfl) ?_
  refine Go.iloadN (q := 5) hx (hb hby d2_4) rfl rfl ?_
  refine Go.if_ne (q := 8) (t := 27) hx (hb hby d2_5) (by decide) rfl rfl (fun hc5 => ?_) (fun hc5 => absurd hc5 (by decide))
  refine Go.getS (q := 30) hx hZ hown (host := "") (Or.inl (tw hw 42 rfl)) Via.refl (Sta.ext X0.2 SC) (hb hby d2_27) rfl ?_
  refine Go.if_eq (q := 33) (t := 58) hx (hb hby d2_30) (by decide) rfl rfl (fun hc30 => absurd hc30 hcs) (fun hc30 => ?_)
  refine Go.aloadN (q := 34) hx (hb hby d2_33) rfl (by rfl) rfl ?_
  refine Go.iloadN (q := 35) hx (hb hby d2_34) rfl rfl ?_
  refine Go.iloadN (q := 36) hx (hb hby d2_35) rfl rfl ?_
  refine Go.callS (q := 39) hx hZ (argsL := [(.ref a), (.int (0 : Int32)), (.int (2 : Int32))]) (rest := []) hown (tw hw 43 rfl) (tw hw 44 rfl) (tw hw 45 rfl) (tw hw 46 rfl) (by decide) (rmD2 l Z a0 hw hel a ka c0 c1 h0 n0 Z0 A hp0 hp1) (fun _ hx => nomatch hx) (by rw [hml]; rfl) pd_1 rfl rfl (hb hby d2_36) rfl (by decide) (ble rfl) (ce' := 1) (sl' := 2) rfl rfl (by decide) (by decide) (fun v91 h92 hQ93 => ?_)
  have lt99 := (E).lt
  obtain ⟨b94, k95, rfl, g96, K97, V98⟩ := hQ93
  have ne100 : sa ≠ b94 := Nat.ne_of_lt (Nat.lt_of_lt_of_le lt99 g96)
  show Go _ _ _ _ _ _ _ _ _ _ _ _ _ _ _ _ _ _ _ _ 1 2 39 #[.val (.ref sa), .val (.ref a), .val (.int (0 : Int32)), .val (.int (2 : Int32)), .val .null, .unset] [(.ref b94)]
  refine Go.astore (q := 41) (l' := #[.val (.ref sa), .val (.ref a), .val (.int (0 : Int32)), .val (.int (2 : Int32)), .val .null, .val (.ref b94)]) hx (hb hby d2_39) (by rfl) rfl rfl ?_
  refine Go.aloadN (q := 42) hx (hb hby d2_41) rfl (by rfl) rfl ?_
  refine Go.aload (q := 44) hx (hb hby d2_42) rfl (by rfl) rfl ?_
  refine Go.iloadN (q := 45) hx (hb hby d2_44) rfl rfl ?_
  refine Go.callS (q := 48) hx hZ (argsL := [(.ref b94), (.int (2 : Int32))]) (rest := [(.ref sa)]) hown (tw hw 50 rfl) (tw hw 51 rfl) (tw hw 45 rfl) (tw hw 52 rfl) (by decide) (rmK l Z a0 hw hel b94 k95 (2 : Int32) _ h92 n0 (Nat.le_trans Z0 K97.1) V98) (fun _ hx => nomatch hx) (by rw [hml]; rfl) pd_2 rfl rfl (hb hby d2_45) rfl (by decide) (ble rfl) (ce' := 1) (sl' := 2) rfl rfl (by decide) (by decide) (fun v101 h102 hQ103 => ?_)
  obtain ⟨rfl, rfl⟩ := hQ103
  show Go _ _ _ _ _ _ _ _ _ _ _ _ _ _ _ _ _ _ _ _ 1 2 48 #[.val (.ref sa), .val (.ref a), .val (.int (0 : Int32)), .val (.int (2 : Int32)), .val .null, .val (.ref b94)] [(.int (0 : Int32)), (.ref sa)]
  refine Go.putF (q := 51) hx hZ hown (host := "") (Or.inl (tw hw 27 rfl)) Via.refl (F2.keep K97 nin0) (E.keep K97) (Or.inr ⟨(tw hw 23 rfl), rfl, hnm⟩) (tw hw 7 rfl) (ty := .byte) (by decide) rfl rfl gs (by simp) (hb hby d2_48) rfl (fun h104 W105 => ?_)
  refine Go.aloadN (q := 52) hx (hb hby d2_51) rfl (by rfl) rfl ?_
  refine Go.aload (q := 54) hx (hb hby d2_52) rfl (by rfl) rfl ?_
  refine Go.putF (q := 57) hx hZ hown (host := "") (Or.inl (tw hw 26 rfl)) Via.refl (Fld.other W105 (F1.keep K97 nin0) (Or.inr (slot_ne (C := "java/lang/String") (Or.inr (tw hw 22 rfl)) (Or.inr (tw hw 23 rfl)) (by decide) (by decide : _ = some (.array .byte)) (by decide : _ = some .byte)))) (Exa.wr W105 (E.keep K97)) (Or.inr ⟨(tw hw 22 rfl), rfl, hnm⟩) (tw hw 7 rfl) (ty := (.array .byte)) (by decide) rfl rfl gs (by simp) (hb hby d2_54) rfl (fun h106 W107 => ?_)
  refine Go.ret0 hx hret hlk (hb hby d2_57) (by decide) (by decide) ?_
  exact ⟨rfl, (((Keep.trans (Keep.refl h0 [sa]) K97 all0).wr W105 (Or.inl (by simp))).wr W107 (Or.inl (by simp))), b94, k95, g96, (Fld.same W107 (Fld.other W105 (F1.keep K97 nin0) (Or.inr (slot_ne (C := "java/lang/String") (Or.inr (tw hw 22 rfl)) (Or.inr (tw hw 23 rfl)) (by decide) (by decide : _ = some (.array .byte)) (by decide : _ = some .byte))))), (Fld.other W107 (Fld.same W105 (F2.keep K97 nin0)) (Or.inr (slot_ne (C := "java/lang/String") (Or.inr (tw hw 23 rfl)) (Or.inr (tw hw 22 rfl)) (by decide) (by decide : _ = some .byte) (by decide : _ = some (.array .byte))))), ((V98.other W105 ne100.symm).other W107 ne100.symm)⟩
theorem rmI2 (l : Launch) (Z : State) (a0 : Array Value) (hw : ∀ d ∈ tables_1, d.before a0 Z = true) (hel : EW Z a0 consts_1) (sa a : Addr) (ka : ClassId) (cst : Int32) (c0 c1 : Int32) (h0 : Heap) (n0 : Nat) (Z0 : n0 ≤ h0.size) (gs : n0 ≤ sa) (nas : a ≠ sa) (E : Exa Z h0 sa "java/lang/String") (F1 : Fld Z h0 sa "java/lang/String" "value" "[B" .null) (F2 : Fld Z h0 sa "java/lang/String" "coder" "B" (.int (0 : Int32))) (A : Arv Z h0 a ka .char (2 : Int32) [.int c0, .int c1] (.int (0 : Int32))) (hp0 : ¬ (255 : Int32) < c0) (hp1 : ¬ (255 : Int32) < c1) (X0 : Old Z n0 h0) (SC : Sta Z Z.heap "java/lang/String" "COMPACT_STRINGS" "Z" (.int cst)) (hcs : ¬ cst = (0 : Int32)) :
    Met l Z consts_1 [sa] (⟨"java/lang/String", "<init>", "([C)V"⟩ : MethodName) jdk_42_method_3_code 2 (Option.none : Option FieldType) [] ({ frames := 3, cells := 1, slots := 2, locals := 52 } : Room) #[(.ref sa), (.ref a)] h0 n0 (fun v h => v = none ∧ Keep h0 h [sa] ∧ ∃ b kb, h0.size ≤ b ∧ Fld Z h sa "java/lang/String" "value" "[B" (.ref b) ∧ Fld Z h sa "java/lang/String" "coder" "B" (.int (0 : Int32)) ∧ Arv Z h b kb .byte (2 : Int32) [(.int (nar .byte c0.toInt8.toInt32)), (.int (nar .byte c1.toInt8.toInt32))] (.int (0 : Int32))) := by
  refine Met.of (Ls0 := #[.val (.ref sa), .val (.ref a)]) pl_2 (by first | (simp [argsToLocals, Value.category]; done) | rfl) hel ?_
  intro p e s m below meth c hx hby hml hret hlk hown hnm hZ
  refine Go.aloadN (q := 1) hx (hb hby d1_0) rfl (by rfl) rfl ?_
  refine Go.aloadN (q := 2) hx (hb hby d1_1) rfl (by rfl) rfl ?_
  refine Go.iconst (q := 3) (z := (0 : Int32)) hx (hb hby d1_2) rfl rfl ?_
  refine Go.aloadN (q := 4) hx (hb hby d1_3) rfl (by rfl) rfl ?_
  refine Go.alen (q := 5) hx hZ A (hb hby d1_4) rfl ?_
  refine Go.aconstNull (q := 6) hx (hb hby d1_5) rfl ?_
  refine Go.callI (q := 9) hx hZ (a := sa) (argsL := [(.ref a), (.int (0 : Int32)), (.int (2 : Int32)), .null]) (rest := []) hown rfl (tw hw 13 rfl) (tw hw 14 rfl) (tw hw 8 rfl) (tw hw 16 rfl) (by decide) (rmS2 l Z a0 hw hel sa a ka cst c0 c1 h0 n0 Z0 gs nas E F1 F2 A hp0 hp1 X0 SC hcs) (by simp) (by rw [hml]; rfl) pd_3 rfl rfl (hb hby d1_6) rfl (by decide) (ble rfl) (ce' := 1) (sl' := 2) rfl rfl (by decide) (by decide) (fun v108 h109 hQ110 => ?_)
  obtain ⟨rfl, K111, Y112⟩ := hQ110
  show Go _ _ _ _ _ _ _ _ _ _ _ _ _ _ _ _ _ _ _ _ 1 2 9 #[.val (.ref sa), .val (.ref a)] []
  refine Go.ret0 hx hret hlk (hb hby d1_9) (by decide) (by decide) ?_
  exact ⟨rfl, (Keep.trans (Keep.refl h0 [sa]) K111 (allS (Or.inl (by simp)) all0)), Y112⟩
theorem rmC3 (l : Launch) (Z : State) (a0 : Array Value) (hw : ∀ d ∈ tables_1, d.before a0 Z = true) (hel : EW Z a0 consts_1) (a b : Addr) (ka kb : ClassId) (c0 c1 c2 : Int32) (h0 : Heap) (n0 : Nat) (Z0 : n0 ≤ h0.size) (A : Arv Z h0 a ka .char (3 : Int32) [.int c0, .int c1, .int c2] (.int (0 : Int32))) (B : Arv Z h0 b kb .byte (3 : Int32) [(.int (0 : Int32)), (.int (0 : Int32)), (.int (0 : Int32))] (.int (0 : Int32))) (gb : n0 ≤ b) (nab : a ≠ b) (hp0 : ¬ (255 : Int32) < c0) (hp1 : ¬ (255 : Int32) < c1) (hp2 : ¬ (255 : Int32) < c2) :
    Met l Z consts_1 [b] (⟨"java/lang/StringUTF16", "compress", "([CI[BII)I"⟩ : MethodName) jdk_52_method_21_code 7 (Option.some FieldType.int) [] ({ frames := 0, cells := 0, slots := 0, locals := 0 } : Room) #[(.ref a), (.int (0 : Int32)), (.ref b), (.int (0 : Int32)), (.int (3 : Int32))] h0 n0 (fun v h => v = some (.int (3 : Int32)) ∧ Keep h0 h [b] ∧ Arv Z h b kb .byte (3 : Int32) [(.int (nar .byte c0.toInt8.toInt32)), (.int (nar .byte c1.toInt8.toInt32)), (.int (nar .byte c2.toInt8.toInt32))] (.int (0 : Int32))) := by
  refine Met.of (Ls0 := #[.val (.ref a), .val (.int (0 : Int32)), .val (.ref b), .val (.int (0 : Int32)), .val (.int (3 : Int32)), .unset, .unset]) pl_3 (by first | (simp [argsToLocals, Value.category]; done) | rfl) hel ?_
  intro p e s m below meth c hx hby hml hret hlk hown hnm hZ
  refine Go.iconst (q := 1) (z := (0 : Int32)) hx (hb hby d8_0) rfl rfl ?_
  refine Go.istore (q := 3) (l' := #[.val (.ref a), .val (.int (0 : Int32)), .val (.ref b), .val (.int (0 : Int32)), .val (.int (3 : Int32)), .val (.int (0 : Int32)), .unset]) hx (hb hby d8_1) rfl rfl ?_
  refine Go.iload (q := 5) hx (hb hby d8_3) rfl rfl ?_
  refine Go.iload (q := 7) hx (hb hby d8_5) rfl rfl ?_
  refine Go.icmp_ge (q := 10) (t := 44) hx (hb hby d8_7) (by decide) rfl rfl (fun hc7 => absurd hc7 (by decide)) (fun hc7 => ?_)
  refine Go.aloadN (q := 11) hx (hb hby d8_10) rfl (by rfl) rfl ?_
  refine Go.iloadN (q := 12) hx (hb hby d8_11) rfl rfl ?_
  refine Go.caload (q := 13) (v := (.int c0)) hx hZ A ⟨by decide, by decide⟩ rfl (hb hby d8_12) rfl ?_
  refine Go.istore (q := 15) (l' := #[.val (.ref a), .val (.int (0 : Int32)), .val (.ref b), .val (.int (0 : Int32)), .val (.int (3 : Int32)), .val (.int (0 : Int32)), .val (.int c0)]) hx (hb hby d8_13) rfl rfl ?_
  refine Go.iload (q := 17) hx (hb hby d8_15) rfl rfl ?_
  refine Go.sipush (q := 20) (z := (255 : Int32)) hx (hb hby d8_17) rfl rfl ?_
  refine Go.icmp_le (q := 23) (t := 26) hx (hb hby d8_20) (by decide) rfl rfl (fun hc20 => ?_) (fun hc20 => absurd hc20 hp0)
  refine Go.aloadN (q := 27) hx (hb hby d8_26) rfl (by rfl) rfl ?_
  refine Go.iloadN (q := 28) hx (hb hby d8_27) rfl rfl ?_
  refine Go.iload (q := 30) hx (hb hby d8_28) rfl rfl ?_
  refine Go.i2b (q := 31) hx (hb hby d8_30) rfl ?_
  refine Go.bastore (q := 32) hx hZ B ⟨by decide, by decide⟩ 0 rfl (ble rfl) gb (by simp) (hb hby d8_31) rfl (fun h113 W114 V115 => ?_)
  refine Go.iinc (q := 35) (l' := #[.val (.ref a), .val (.int ((0 : Int32) + (1 : Int32))), .val (.ref b), .val (.int (0 : Int32)), .val (.int (3 : Int32)), .val (.int (0 : Int32)), .val (.int c0)]) hx (hb hby d8_32) rfl rfl rfl ?_
  refine Go.iinc (q := 38) (l' := #[.val (.ref a), .val (.int ((0 : Int32) + (1 : Int32))), .val (.ref b), .val (.int ((0 : Int32) + (1 : Int32))), .val (.int (3 : Int32)), .val (.int (0 : Int32)), .val (.int c0)]) hx (hb hby d8_35) rfl rfl rfl ?_
  refine Go.iinc (q := 41) (l' := #[.val (.ref a), .val (.int ((0 : Int32) + (1 : Int32))), .val (.ref b), .val (.int ((0 : Int32) + (1 : Int32))), .val (.int (3 : Int32)), .val (.int ((0 : Int32) + (1 : Int32))), .val (.int c0)]) hx (hb hby d8_38) rfl rfl rfl ?_
  refine Go.goto (q := 3) hx (hb hby d8_41) (by decide) rfl ?_
  refine Go.iload (q := 5) hx (hb hby d8_3) rfl rfl ?_
  refine Go.iload (q := 7) hx (hb hby d8_5) rfl rfl ?_
  refine Go.icmp_ge (q := 10) (t := 44) hx (hb hby d8_7) (by decide) rfl rfl (fun hc7_1 => absurd hc7_1 (by decide)) (fun hc7_1 => ?_)
  refine Go.aloadN (q := 11) hx (hb hby d8_10) rfl (by rfl) rfl ?_
  refine Go.iloadN (q := 12) hx (hb hby d8_11) rfl rfl ?_
  refine Go.caload (q := 13) (v := (.int c1)) hx hZ (A.other W114 nab) ⟨by decide, by decide⟩ rfl (hb hby d8_12) rfl ?_
  refine Go.istore (q := 15) (l' := #[.val (.ref a), .val (.int ((0 : Int32) + (1 : Int32))), .val (.ref b), .val (.int ((0 : Int32) + (1 : Int32))), .val (.int (3 : Int32)), .val (.int ((0 : Int32) + (1 : Int32))), .val (.int c1)]) hx (hb hby d8_13) rfl rfl ?_
  refine Go.iload (q := 17) hx (hb hby d8_15) rfl rfl ?_
  refine Go.sipush (q := 20) (z := (255 : Int32)) hx (hb hby d8_17) rfl rfl ?_
  refine Go.icmp_le (q := 23) (t := 26) hx (hb hby d8_20) (by decide) rfl rfl (fun hc20_1 => ?_) (fun hc20_1 => absurd hc20_1 hp1)
  refine Go.aloadN (q := 27) hx (hb hby d8_26) rfl (by rfl) rfl ?_
  refine Go.iloadN (q := 28) hx (hb hby d8_27) rfl rfl ?_
  refine Go.iload (q := 30) hx (hb hby d8_28) rfl rfl ?_
  refine Go.i2b (q := 31) hx (hb hby d8_30) rfl ?_
  refine Go.bastore (q := 32) hx hZ V115 ⟨by decide, by decide⟩ 1 rfl (ble rfl) gb (by simp) (hb hby d8_31) rfl (fun h116 W117 V118 => ?_)
  refine Go.iinc (q := 35) (l' := #[.val (.ref a), .val (.int (((0 : Int32) + (1 : Int32)) + (1 : Int32))), .val (.ref b), .val (.int ((0 : Int32) + (1 : Int32))), .val (.int (3 : Int32)), .val (.int ((0 : Int32) + (1 : Int32))), .val (.int c1)]) hx (hb hby d8_32) rfl rfl rfl ?_
  refine Go.iinc (q := 38) (l' := #[.val (.ref a), .val (.int (((0 : Int32) + (1 : Int32)) + (1 : Int32))), .val (.ref b), .val (.int (((0 : Int32) + (1 : Int32)) + (1 : Int32))), .val (.int (3 : Int32)), .val (.int ((0 : Int32) + (1 : Int32))), .val (.int c1)]) hx (hb hby d8_35) rfl rfl rfl ?_
  refine Go.iinc (q := 41) (l' := #[.val (.ref a), .val (.int (((0 : Int32) + (1 : Int32)) + (1 : Int32))), .val (.ref b), .val (.int (((0 : Int32) + (1 : Int32)) + (1 : Int32))), .val (.int (3 : Int32)), .val (.int (((0 : Int32) + (1 : Int32)) + (1 : Int32))), .val (.int c1)]) hx (hb hby d8_38) rfl rfl rfl ?_
  refine Go.goto (q := 3) hx (hb hby d8_41) (by decide) rfl ?_
  refine Go.iload (q := 5) hx (hb hby d8_3) rfl rfl ?_
  refine Go.iload (q := 7) hx (hb hby d8_5) rfl rfl ?_
  refine Go.icmp_ge (q := 10) (t := 44) hx (hb hby d8_7) (by decide) rfl rfl (fun hc7_2 => absurd hc7_2 (by decide)) (fun hc7_2 => ?_)
  refine Go.aloadN (q := 11) hx (hb hby d8_10) rfl (by rfl) rfl ?_
  refine Go.iloadN (q := 12) hx (hb hby d8_11) rfl rfl ?_
  refine Go.caload (q := 13) (v := (.int c2)) hx hZ ((A.other W114 nab).other W117 nab) ⟨by decide, by decide⟩ rfl (hb hby d8_12) rfl ?_
  refine Go.istore (q := 15) (l' := #[.val (.ref a), .val (.int (((0 : Int32) + (1 : Int32)) + (1 : Int32))), .val (.ref b), .val (.int (((0 : Int32) + (1 : Int32)) + (1 : Int32))), .val (.int (3 : Int32)), .val (.int (((0 : Int32) + (1 : Int32)) + (1 : Int32))), .val (.int c2)]) hx (hb hby d8_13) rfl rfl ?_
  refine Go.iload (q := 17) hx (hb hby d8_15) rfl rfl ?_
  refine Go.sipush (q := 20) (z := (255 : Int32)) hx (hb hby d8_17) rfl rfl ?_
  refine Go.icmp_le (q := 23) (t := 26) hx (hb hby d8_20) (by decide) rfl rfl (fun hc20_2 => ?_) (fun hc20_2 => absurd hc20_2 hp2)
  refine Go.aloadN (q := 27) hx (hb hby d8_26) rfl (by rfl) rfl ?_
  refine Go.iloadN (q := 28) hx (hb hby d8_27) rfl rfl ?_
  refine Go.iload (q := 30) hx (hb hby d8_28) rfl rfl ?_
  refine Go.i2b (q := 31) hx (hb hby d8_30) rfl ?_
  refine Go.bastore (q := 32) hx hZ V118 ⟨by decide, by decide⟩ 2 rfl (ble rfl) gb (by simp) (hb hby d8_31) rfl (fun h119 W120 V121 => ?_)
  refine Go.iinc (q := 35) (l' := #[.val (.ref a), .val (.int ((((0 : Int32) + (1 : Int32)) + (1 : Int32)) + (1 : Int32))), .val (.ref b), .val (.int (((0 : Int32) + (1 : Int32)) + (1 : Int32))), .val (.int (3 : Int32)), .val (.int (((0 : Int32) + (1 : Int32)) + (1 : Int32))), .val (.int c2)]) hx (hb hby d8_32) rfl rfl rfl ?_
  refine Go.iinc (q := 38) (l' := #[.val (.ref a), .val (.int ((((0 : Int32) + (1 : Int32)) + (1 : Int32)) + (1 : Int32))), .val (.ref b), .val (.int ((((0 : Int32) + (1 : Int32)) + (1 : Int32)) + (1 : Int32))), .val (.int (3 : Int32)), .val (.int (((0 : Int32) + (1 : Int32)) + (1 : Int32))), .val (.int c2)]) hx (hb hby d8_35) rfl rfl rfl ?_
  refine Go.iinc (q := 41) (l' := #[.val (.ref a), .val (.int ((((0 : Int32) + (1 : Int32)) + (1 : Int32)) + (1 : Int32))), .val (.ref b), .val (.int ((((0 : Int32) + (1 : Int32)) + (1 : Int32)) + (1 : Int32))), .val (.int (3 : Int32)), .val (.int ((((0 : Int32) + (1 : Int32)) + (1 : Int32)) + (1 : Int32))), .val (.int c2)]) hx (hb hby d8_38) rfl rfl rfl ?_
  refine Go.goto (q := 3) hx (hb hby d8_41) (by decide) rfl ?_
  refine Go.iload (q := 5) hx (hb hby d8_3) rfl rfl ?_
  refine Go.iload (q := 7) hx (hb hby d8_5) rfl rfl ?_
  refine Go.icmp_ge (q := 10) (t := 44) hx (hb hby d8_7) (by decide) rfl rfl (fun hc7_3 => ?_) (fun hc7_3 => absurd hc7_3 (by decide))
  refine Go.iload (q := 46) hx (hb hby d8_44) rfl rfl ?_
  refine Go.retI hx hret hlk (hb hby d8_46) (by decide) (by decide) ?_
  exact ⟨rfl, ((((Keep.refl h0 [b]).wr W114 (Or.inl (by simp))).wr W117 (Or.inl (by simp))).wr W120 (Or.inl (by simp))), V121⟩
theorem rmD3 (l : Launch) (Z : State) (a0 : Array Value) (hw : ∀ d ∈ tables_1, d.before a0 Z = true) (hel : EW Z a0 consts_1) (a : Addr) (ka : ClassId) (c0 c1 c2 : Int32) (h0 : Heap) (n0 : Nat) (Z0 : n0 ≤ h0.size) (A : Arv Z h0 a ka .char (3 : Int32) [.int c0, .int c1, .int c2] (.int (0 : Int32))) (hp0 : ¬ (255 : Int32) < c0) (hp1 : ¬ (255 : Int32) < c1) (hp2 : ¬ (255 : Int32) < c2) :
    Met l Z consts_1 [] (⟨"java/lang/StringUTF16", "compress", "([CII)[B"⟩ : MethodName) jdk_52_method_16_code 6 (Option.some (FieldType.array FieldType.byte)) [] ({ frames := 1, cells := 1, slots := 3, locals := 18 } : Room) #[(.ref a), (.int (0 : Int32)), (.int (3 : Int32))] h0 n0 (fun v h => ∃ b kb, v = some (.ref b) ∧ h0.size ≤ b ∧ Keep h0 h [] ∧ Arv Z h b kb .byte (3 : Int32) [(.int (nar .byte c0.toInt8.toInt32)), (.int (nar .byte c1.toInt8.toInt32)), (.int (nar .byte c2.toInt8.toInt32))] (.int (0 : Int32))) := by
  refine Met.of (Ls0 := #[.val (.ref a), .val (.int (0 : Int32)), .val (.int (3 : Int32)), .unset, .unset, .unset]) pl_4 (by first | (simp [argsToLocals, Value.category]; done) | rfl) hel ?_
  intro p e s m below meth c hx hby hml hret hlk hown hnm hZ
  refine Go.iloadN (q := 1) hx (hb hby d7_0) rfl rfl ?_
  refine Go.newP (q := 3) (cap := 3) hx hZ (tw hw 21 rfl) (by decide) (by decide) (hb hby d7_1) rfl (by decide) (ce' := 1) (sl' := 3) rfl rfl (by decide) (by decide) (fun h122 a123 k124 g125 E126 A127 => ?_)
  have ne128 : a ≠ a123 := by rw [g125]; exact Nat.ne_of_lt (A).lt
  have gz129 : n0 ≤ a123 := by rw [g125]; exact Z0
  have gk130 : h0.size ≤ a123 := by rw [g125]; exact (Keep.refl h0 []).1
  have V131 : Arv Z h122 a123 k124 .byte (3 : Int32) [(.int (0 : Int32)), (.int (0 : Int32)), (.int (0 : Int32))] (.int (0 : Int32)) := A127.pad (pad_rep [] (.int (0 : Int32)) 3)
  refine Go.astoreN (q := 4) (l' := #[.val (.ref a), .val (.int (0 : Int32)), .val (.int (3 : Int32)), .val (.ref a123), .unset, .unset]) hx (hb hby d7_3) (by rfl) rfl rfl ?_
  refine Go.aloadN (q := 5) hx (hb hby d7_4) rfl (by rfl) rfl ?_
  refine Go.iloadN (q := 6) hx (hb hby d7_5) rfl rfl ?_
  refine Go.aloadN (q := 7) hx (hb hby d7_6) rfl (by rfl) rfl ?_
  refine Go.iconst (q := 8) (z := (0 : Int32)) hx (hb hby d7_7) rfl rfl ?_
  refine Go.iloadN (q := 9) hx (hb hby d7_8) rfl rfl ?_
  refine Go.callS (q := 12) hx hZ (argsL := [(.ref a), (.int (0 : Int32)), (.ref a123), (.int (0 : Int32)), (.int (3 : Int32))]) (rest := []) hown (tw hw 47 rfl) (tw hw 48 rfl) (tw hw 45 rfl) (tw hw 49 rfl) (by decide) (rmC3 l Z a0 hw hel a a123 ka k124 c0 c1 c2 h122 n0 (Nat.le_trans Z0 E126.1) (A.ext E126) V131 gz129 ne128 hp0 hp1 hp2) (by simp) (by rw [hml]; rfl) pd_4 rfl rfl (hb hby d7_9) rfl (by decide) (ble rfl) (ce' := 1) (sl' := 3) rfl rfl (by decide) (by decide) (fun v132 h133 hQ134 => ?_)
  obtain ⟨rfl, K135, V136⟩ := hQ134
  show Go _ _ _ _ _ _ _ _ _ _ _ _ _ _ _ _ _ _ _ _ 1 3 12 #[.val (.ref a), .val (.int (0 : Int32)), .val (.int (3 : Int32)), .val (.ref a123), .unset, .unset] [(.int (3 : Int32))]
  refine Go.istore (q := 14) (l' := #[.val (.ref a), .val (.int (0 : Int32)), .val (.int (3 : Int32)), .val (.ref a123), .val (.int (3 : Int32)), .unset]) hx (hb hby d7_12) rfl rfl ?_
  refine Go.iload (q := 16) hx (hb hby d7_14) rfl rfl ?_
  refine Go.iloadN (q := 17) hx (hb hby d7_16) rfl rfl ?_
  refine Go.icmp_eq (q := 20) (t := 57) hx (hb hby d7_17) (by decide) rfl rfl (fun hc17 => ?_) (fun hc17 => absurd hc17 (by decide))
  refine Go.aloadN (q := 58) hx (hb hby d7_57) rfl (by rfl) rfl ?_
  refine Go.retA hx hret rfl (by rfl) hlk (hb hby d7_58) (by decide) (by decide) ?_
  exact ⟨a123, _, rfl, gk130, (Keep.trans ((Keep.refl h0 []).ext E126) K135 (allS (Or.inr gk130) all0)), V136⟩
theorem rmS3 (l : Launch) (Z : State) (a0 : Array Value) (hw : ∀ d ∈ tables_1, d.before a0 Z = true) (hel : EW Z a0 consts_1) (sa a : Addr) (ka : ClassId) (cst : Int32) (c0 c1 c2 : Int32) (h0 : Heap) (n0 : Nat) (Z0 : n0 ≤ h0.size) (gs : n0 ≤ sa) (nas : a ≠ sa) (E : Exa Z h0 sa "java/lang/String") (F1 : Fld Z h0 sa "java/lang/String" "value" "[B" .null) (F2 : Fld Z h0 sa "java/lang/String" "coder" "B" (.int (0 : Int32))) (A : Arv Z h0 a ka .char (3 : Int32) [.int c0, .int c1, .int c2] (.int (0 : Int32))) (hp0 : ¬ (255 : Int32) < c0) (hp1 : ¬ (255 : Int32) < c1) (hp2 : ¬ (255 : Int32) < c2) (X0 : Old Z n0 h0) (SC : Sta Z Z.heap "java/lang/String" "COMPACT_STRINGS" "Z" (.int cst)) (hcs : ¬ cst = (0 : Int32)) :
    Met l Z consts_1 [sa] (⟨"java/lang/String", "<init>", "([CIILjava/lang/Void;)V"⟩ : MethodName) jdk_42_method_149_code 6 (Option.none : Option FieldType) [] ({ frames := 2, cells := 1, slots := 3, locals := 35 } : Room) #[(.ref sa), (.ref a), (.int (0 : Int32)), (.int (3 : Int32)), .null] h0 n0 (fun v h => v = none ∧ Keep h0 h [sa] ∧ ∃ b kb, h0.size ≤ b ∧ Fld Z h sa "java/lang/String" "value" "[B" (.ref b) ∧ Fld Z h sa "java/lang/String" "coder" "B" (.int (0 : Int32)) ∧ Arv Z h b kb .byte (3 : Int32) [(.int (nar .byte c0.toInt8.toInt32)), (.int (nar .byte c1.toInt8.toInt32)), (.int (nar .byte c2.toInt8.toInt32))] (.int (0 : Int32))) := by
  refine Met.of (Ls0 := #[.val (.ref sa), .val (.ref a), .val (.int (0 : Int32)), .val (.int (3 : Int32)), .val .null, .unset]) pl_1 (by first | (simp [argsToLocals, Value.category]; done) | rfl) hel ?_
  have hSA : ∀ d ∈ Bundle.stringAtoms, d.before a0 Z = true := fun d hd => hw d ((by decide +kernel : ∀ d ∈ Bundle.stringAtoms, d ∈ tables_1) d hd)
  intro p e s m below meth c hx hby hml hret hlk hown hnm hZ
  refine Go.aloadN (q := 1) hx (hb hby d2_0) rfl (by rfl) rfl ?_
  refine Go.initO (q := 4) hx hZ hown (tw hw 17 rfl) (tw hw 18 rfl) (tw hw 19 rfl) (by rw [hml]; rfl) (hb hby d2_1) rfl (by decide) (ble rfl) ?_
  refine Go.iloadN (q := 5) hx (hb hby d2_4) rfl rfl ?_
  refine Go.if_ne (q := 8) (t := 27) hx (hb hby d2_5) (by decide) rfl rfl (fun hc5 => ?_) (fun hc5 => absurd hc5 (by decide))
  refine Go.getS (q := 30) hx hZ hown (host := "") (Or.inl (tw hw 42 rfl)) Via.refl (Sta.ext X0.2 SC) (hb hby d2_27) rfl ?_
  refine Go.if_eq (q := 33) (t := 58) hx (hb hby d2_30) (by decide) rfl rfl (fun hc30 => absurd hc30 hcs) (fun hc30 => ?_)
  refine Go.aloadN (q := 34) hx (hb hby d2_33) rfl (by rfl) rfl ?_
  refine Go.iloadN (q := 35) hx (hb hby d2_34) rfl rfl ?_
  refine Go.iloadN (q := 36) hx (hb hby d2_35) rfl rfl ?_
  refine Go.callS (q := 39) hx hZ (argsL := [(.ref a), (.int (0 : Int32)), (.int (3 : Int32))]) (rest := []) hown (tw hw 43 rfl) (tw hw 44 rfl) (tw hw 45 rfl) (tw hw 46 rfl) (by decide) (rmD3 l Z a0 hw hel a ka c0 c1 c2 h0 n0 Z0 A hp0 hp1 hp2) (fun _ hx => nomatch hx) (by rw [hml]; rfl) pd_1 rfl rfl (hb hby d2_36) rfl (by decide) (ble rfl) (ce' := 1) (sl' := 3) rfl rfl (by decide) (by decide) (fun v137 h138 hQ139 => ?_)
  have lt145 := (E).lt
  obtain ⟨b140, k141, rfl, g142, K143, V144⟩ := hQ139
  have ne146 : sa ≠ b140 := Nat.ne_of_lt (Nat.lt_of_lt_of_le lt145 g142)
  show Go _ _ _ _ _ _ _ _ _ _ _ _ _ _ _ _ _ _ _ _ 1 3 39 #[.val (.ref sa), .val (.ref a), .val (.int (0 : Int32)), .val (.int (3 : Int32)), .val .null, .unset] [(.ref b140)]
  refine Go.astore (q := 41) (l' := #[.val (.ref sa), .val (.ref a), .val (.int (0 : Int32)), .val (.int (3 : Int32)), .val .null, .val (.ref b140)]) hx (hb hby d2_39) (by rfl) rfl rfl ?_
  refine Go.aloadN (q := 42) hx (hb hby d2_41) rfl (by rfl) rfl ?_
  refine Go.aload (q := 44) hx (hb hby d2_42) rfl (by rfl) rfl ?_
  refine Go.iloadN (q := 45) hx (hb hby d2_44) rfl rfl ?_
  refine Go.callS (q := 48) hx hZ (argsL := [(.ref b140), (.int (3 : Int32))]) (rest := [(.ref sa)]) hown (tw hw 50 rfl) (tw hw 51 rfl) (tw hw 45 rfl) (tw hw 52 rfl) (by decide) (rmK l Z a0 hw hel b140 k141 (3 : Int32) _ h138 n0 (Nat.le_trans Z0 K143.1) V144) (fun _ hx => nomatch hx) (by rw [hml]; rfl) pd_2 rfl rfl (hb hby d2_45) rfl (by decide) (ble rfl) (ce' := 1) (sl' := 3) rfl rfl (by decide) (by decide) (fun v147 h148 hQ149 => ?_)
  obtain ⟨rfl, rfl⟩ := hQ149
  show Go _ _ _ _ _ _ _ _ _ _ _ _ _ _ _ _ _ _ _ _ 1 3 48 #[.val (.ref sa), .val (.ref a), .val (.int (0 : Int32)), .val (.int (3 : Int32)), .val .null, .val (.ref b140)] [(.int (0 : Int32)), (.ref sa)]
  refine Go.putF (q := 51) hx hZ hown (host := "") (Or.inl (tw hw 27 rfl)) Via.refl (F2.keep K143 nin0) (E.keep K143) (Or.inr ⟨(tw hw 23 rfl), rfl, hnm⟩) (tw hw 7 rfl) (ty := .byte) (by decide) rfl rfl gs (by simp) (hb hby d2_48) rfl (fun h150 W151 => ?_)
  refine Go.aloadN (q := 52) hx (hb hby d2_51) rfl (by rfl) rfl ?_
  refine Go.aload (q := 54) hx (hb hby d2_52) rfl (by rfl) rfl ?_
  refine Go.putF (q := 57) hx hZ hown (host := "") (Or.inl (tw hw 26 rfl)) Via.refl (Fld.other W151 (F1.keep K143 nin0) (Or.inr (slot_ne (C := "java/lang/String") (Or.inr (tw hw 22 rfl)) (Or.inr (tw hw 23 rfl)) (by decide) (by decide : _ = some (.array .byte)) (by decide : _ = some .byte)))) (Exa.wr W151 (E.keep K143)) (Or.inr ⟨(tw hw 22 rfl), rfl, hnm⟩) (tw hw 7 rfl) (ty := (.array .byte)) (by decide) rfl rfl gs (by simp) (hb hby d2_54) rfl (fun h152 W153 => ?_)
  refine Go.ret0 hx hret hlk (hb hby d2_57) (by decide) (by decide) ?_
  exact ⟨rfl, (((Keep.trans (Keep.refl h0 [sa]) K143 all0).wr W151 (Or.inl (by simp))).wr W153 (Or.inl (by simp))), b140, k141, g142, (Fld.same W153 (Fld.other W151 (F1.keep K143 nin0) (Or.inr (slot_ne (C := "java/lang/String") (Or.inr (tw hw 22 rfl)) (Or.inr (tw hw 23 rfl)) (by decide) (by decide : _ = some (.array .byte)) (by decide : _ = some .byte))))), (Fld.other W153 (Fld.same W151 (F2.keep K143 nin0)) (Or.inr (slot_ne (C := "java/lang/String") (Or.inr (tw hw 23 rfl)) (Or.inr (tw hw 22 rfl)) (by decide) (by decide : _ = some .byte) (by decide : _ = some (.array .byte))))), ((V144.other W151 ne146.symm).other W153 ne146.symm)⟩
theorem rmI3 (l : Launch) (Z : State) (a0 : Array Value) (hw : ∀ d ∈ tables_1, d.before a0 Z = true) (hel : EW Z a0 consts_1) (sa a : Addr) (ka : ClassId) (cst : Int32) (c0 c1 c2 : Int32) (h0 : Heap) (n0 : Nat) (Z0 : n0 ≤ h0.size) (gs : n0 ≤ sa) (nas : a ≠ sa) (E : Exa Z h0 sa "java/lang/String") (F1 : Fld Z h0 sa "java/lang/String" "value" "[B" .null) (F2 : Fld Z h0 sa "java/lang/String" "coder" "B" (.int (0 : Int32))) (A : Arv Z h0 a ka .char (3 : Int32) [.int c0, .int c1, .int c2] (.int (0 : Int32))) (hp0 : ¬ (255 : Int32) < c0) (hp1 : ¬ (255 : Int32) < c1) (hp2 : ¬ (255 : Int32) < c2) (X0 : Old Z n0 h0) (SC : Sta Z Z.heap "java/lang/String" "COMPACT_STRINGS" "Z" (.int cst)) (hcs : ¬ cst = (0 : Int32)) :
    Met l Z consts_1 [sa] (⟨"java/lang/String", "<init>", "([C)V"⟩ : MethodName) jdk_42_method_3_code 2 (Option.none : Option FieldType) [] ({ frames := 3, cells := 1, slots := 3, locals := 52 } : Room) #[(.ref sa), (.ref a)] h0 n0 (fun v h => v = none ∧ Keep h0 h [sa] ∧ ∃ b kb, h0.size ≤ b ∧ Fld Z h sa "java/lang/String" "value" "[B" (.ref b) ∧ Fld Z h sa "java/lang/String" "coder" "B" (.int (0 : Int32)) ∧ Arv Z h b kb .byte (3 : Int32) [(.int (nar .byte c0.toInt8.toInt32)), (.int (nar .byte c1.toInt8.toInt32)), (.int (nar .byte c2.toInt8.toInt32))] (.int (0 : Int32))) := by
  refine Met.of (Ls0 := #[.val (.ref sa), .val (.ref a)]) pl_2 (by first | (simp [argsToLocals, Value.category]; done) | rfl) hel ?_
  intro p e s m below meth c hx hby hml hret hlk hown hnm hZ
  refine Go.aloadN (q := 1) hx (hb hby d1_0) rfl (by rfl) rfl ?_
  refine Go.aloadN (q := 2) hx (hb hby d1_1) rfl (by rfl) rfl ?_
  refine Go.iconst (q := 3) (z := (0 : Int32)) hx (hb hby d1_2) rfl rfl ?_
  refine Go.aloadN (q := 4) hx (hb hby d1_3) rfl (by rfl) rfl ?_
  refine Go.alen (q := 5) hx hZ A (hb hby d1_4) rfl ?_
  refine Go.aconstNull (q := 6) hx (hb hby d1_5) rfl ?_
  refine Go.callI (q := 9) hx hZ (a := sa) (argsL := [(.ref a), (.int (0 : Int32)), (.int (3 : Int32)), .null]) (rest := []) hown rfl (tw hw 13 rfl) (tw hw 14 rfl) (tw hw 8 rfl) (tw hw 16 rfl) (by decide) (rmS3 l Z a0 hw hel sa a ka cst c0 c1 c2 h0 n0 Z0 gs nas E F1 F2 A hp0 hp1 hp2 X0 SC hcs) (by simp) (by rw [hml]; rfl) pd_3 rfl rfl (hb hby d1_6) rfl (by decide) (ble rfl) (ce' := 1) (sl' := 3) rfl rfl (by decide) (by decide) (fun v154 h155 hQ156 => ?_)
  obtain ⟨rfl, K157, Y158⟩ := hQ156
  show Go _ _ _ _ _ _ _ _ _ _ _ _ _ _ _ _ _ _ _ _ 1 3 9 #[.val (.ref sa), .val (.ref a)] []
  refine Go.ret0 hx hret hlk (hb hby d1_9) (by decide) (by decide) ?_
  exact ⟨rfl, (Keep.trans (Keep.refl h0 [sa]) K157 (allS (Or.inl (by simp)) all0)), Y158⟩
theorem rmC4 (l : Launch) (Z : State) (a0 : Array Value) (hw : ∀ d ∈ tables_1, d.before a0 Z = true) (hel : EW Z a0 consts_1) (a b : Addr) (ka kb : ClassId) (c0 c1 c2 c3 : Int32) (h0 : Heap) (n0 : Nat) (Z0 : n0 ≤ h0.size) (A : Arv Z h0 a ka .char (4 : Int32) [.int c0, .int c1, .int c2, .int c3] (.int (0 : Int32))) (B : Arv Z h0 b kb .byte (4 : Int32) [(.int (0 : Int32)), (.int (0 : Int32)), (.int (0 : Int32)), (.int (0 : Int32))] (.int (0 : Int32))) (gb : n0 ≤ b) (nab : a ≠ b) (hp0 : ¬ (255 : Int32) < c0) (hp1 : ¬ (255 : Int32) < c1) (hp2 : ¬ (255 : Int32) < c2) (hp3 : ¬ (255 : Int32) < c3) :
    Met l Z consts_1 [b] (⟨"java/lang/StringUTF16", "compress", "([CI[BII)I"⟩ : MethodName) jdk_52_method_21_code 7 (Option.some FieldType.int) [] ({ frames := 0, cells := 0, slots := 0, locals := 0 } : Room) #[(.ref a), (.int (0 : Int32)), (.ref b), (.int (0 : Int32)), (.int (4 : Int32))] h0 n0 (fun v h => v = some (.int (4 : Int32)) ∧ Keep h0 h [b] ∧ Arv Z h b kb .byte (4 : Int32) [(.int (nar .byte c0.toInt8.toInt32)), (.int (nar .byte c1.toInt8.toInt32)), (.int (nar .byte c2.toInt8.toInt32)), (.int (nar .byte c3.toInt8.toInt32))] (.int (0 : Int32))) := by
  refine Met.of (Ls0 := #[.val (.ref a), .val (.int (0 : Int32)), .val (.ref b), .val (.int (0 : Int32)), .val (.int (4 : Int32)), .unset, .unset]) pl_3 (by first | (simp [argsToLocals, Value.category]; done) | rfl) hel ?_
  intro p e s m below meth c hx hby hml hret hlk hown hnm hZ
  refine Go.iconst (q := 1) (z := (0 : Int32)) hx (hb hby d8_0) rfl rfl ?_
  refine Go.istore (q := 3) (l' := #[.val (.ref a), .val (.int (0 : Int32)), .val (.ref b), .val (.int (0 : Int32)), .val (.int (4 : Int32)), .val (.int (0 : Int32)), .unset]) hx (hb hby d8_1) rfl rfl ?_
  refine Go.iload (q := 5) hx (hb hby d8_3) rfl rfl ?_
  refine Go.iload (q := 7) hx (hb hby d8_5) rfl rfl ?_
  refine Go.icmp_ge (q := 10) (t := 44) hx (hb hby d8_7) (by decide) rfl rfl (fun hc7 => absurd hc7 (by decide)) (fun hc7 => ?_)
  refine Go.aloadN (q := 11) hx (hb hby d8_10) rfl (by rfl) rfl ?_
  refine Go.iloadN (q := 12) hx (hb hby d8_11) rfl rfl ?_
  refine Go.caload (q := 13) (v := (.int c0)) hx hZ A ⟨by decide, by decide⟩ rfl (hb hby d8_12) rfl ?_
  refine Go.istore (q := 15) (l' := #[.val (.ref a), .val (.int (0 : Int32)), .val (.ref b), .val (.int (0 : Int32)), .val (.int (4 : Int32)), .val (.int (0 : Int32)), .val (.int c0)]) hx (hb hby d8_13) rfl rfl ?_
  refine Go.iload (q := 17) hx (hb hby d8_15) rfl rfl ?_
  refine Go.sipush (q := 20) (z := (255 : Int32)) hx (hb hby d8_17) rfl rfl ?_
  refine Go.icmp_le (q := 23) (t := 26) hx (hb hby d8_20) (by decide) rfl rfl (fun hc20 => ?_) (fun hc20 => absurd hc20 hp0)
  refine Go.aloadN (q := 27) hx (hb hby d8_26) rfl (by rfl) rfl ?_
  refine Go.iloadN (q := 28) hx (hb hby d8_27) rfl rfl ?_
  refine Go.iload (q := 30) hx (hb hby d8_28) rfl rfl ?_
  refine Go.i2b (q := 31) hx (hb hby d8_30) rfl ?_
  refine Go.bastore (q := 32) hx hZ B ⟨by decide, by decide⟩ 0 rfl (ble rfl) gb (by simp) (hb hby d8_31) rfl (fun h159 W160 V161 => ?_)
  refine Go.iinc (q := 35) (l' := #[.val (.ref a), .val (.int ((0 : Int32) + (1 : Int32))), .val (.ref b), .val (.int (0 : Int32)), .val (.int (4 : Int32)), .val (.int (0 : Int32)), .val (.int c0)]) hx (hb hby d8_32) rfl rfl rfl ?_
  refine Go.iinc (q := 38) (l' := #[.val (.ref a), .val (.int ((0 : Int32) + (1 : Int32))), .val (.ref b), .val (.int ((0 : Int32) + (1 : Int32))), .val (.int (4 : Int32)), .val (.int (0 : Int32)), .val (.int c0)]) hx (hb hby d8_35) rfl rfl rfl ?_
  refine Go.iinc (q := 41) (l' := #[.val (.ref a), .val (.int ((0 : Int32) + (1 : Int32))), .val (.ref b), .val (.int ((0 : Int32) + (1 : Int32))), .val (.int (4 : Int32)), .val (.int ((0 : Int32) + (1 : Int32))), .val (.int c0)]) hx (hb hby d8_38) rfl rfl rfl ?_
  refine Go.goto (q := 3) hx (hb hby d8_41) (by decide) rfl ?_
  refine Go.iload (q := 5) hx (hb hby d8_3) rfl rfl ?_
  refine Go.iload (q := 7) hx (hb hby d8_5) rfl rfl ?_
  refine Go.icmp_ge (q := 10) (t := 44) hx (hb hby d8_7) (by decide) rfl rfl (fun hc7_1 => absurd hc7_1 (by decide)) (fun hc7_1 => ?_)
  refine Go.aloadN (q := 11) hx (hb hby d8_10) rfl (by rfl) rfl ?_
  refine Go.iloadN (q := 12) hx (hb hby d8_11) rfl rfl ?_
  refine Go.caload (q := 13) (v := (.int c1)) hx hZ (A.other W160 nab) ⟨by decide, by decide⟩ rfl (hb hby d8_12) rfl ?_
  refine Go.istore (q := 15) (l' := #[.val (.ref a), .val (.int ((0 : Int32) + (1 : Int32))), .val (.ref b), .val (.int ((0 : Int32) + (1 : Int32))), .val (.int (4 : Int32)), .val (.int ((0 : Int32) + (1 : Int32))), .val (.int c1)]) hx (hb hby d8_13) rfl rfl ?_
  refine Go.iload (q := 17) hx (hb hby d8_15) rfl rfl ?_
  refine Go.sipush (q := 20) (z := (255 : Int32)) hx (hb hby d8_17) rfl rfl ?_
  refine Go.icmp_le (q := 23) (t := 26) hx (hb hby d8_20) (by decide) rfl rfl (fun hc20_1 => ?_) (fun hc20_1 => absurd hc20_1 hp1)
  refine Go.aloadN (q := 27) hx (hb hby d8_26) rfl (by rfl) rfl ?_
  refine Go.iloadN (q := 28) hx (hb hby d8_27) rfl rfl ?_
  refine Go.iload (q := 30) hx (hb hby d8_28) rfl rfl ?_
  refine Go.i2b (q := 31) hx (hb hby d8_30) rfl ?_
  refine Go.bastore (q := 32) hx hZ V161 ⟨by decide, by decide⟩ 1 rfl (ble rfl) gb (by simp) (hb hby d8_31) rfl (fun h162 W163 V164 => ?_)
  refine Go.iinc (q := 35) (l' := #[.val (.ref a), .val (.int (((0 : Int32) + (1 : Int32)) + (1 : Int32))), .val (.ref b), .val (.int ((0 : Int32) + (1 : Int32))), .val (.int (4 : Int32)), .val (.int ((0 : Int32) + (1 : Int32))), .val (.int c1)]) hx (hb hby d8_32) rfl rfl rfl ?_
  refine Go.iinc (q := 38) (l' := #[.val (.ref a), .val (.int (((0 : Int32) + (1 : Int32)) + (1 : Int32))), .val (.ref b), .val (.int (((0 : Int32) + (1 : Int32)) + (1 : Int32))), .val (.int (4 : Int32)), .val (.int ((0 : Int32) + (1 : Int32))), .val (.int c1)]) hx (hb hby d8_35) rfl rfl rfl ?_
  refine Go.iinc (q := 41) (l' := #[.val (.ref a), .val (.int (((0 : Int32) + (1 : Int32)) + (1 : Int32))), .val (.ref b), .val (.int (((0 : Int32) + (1 : Int32)) + (1 : Int32))), .val (.int (4 : Int32)), .val (.int (((0 : Int32) + (1 : Int32)) + (1 : Int32))), .val (.int c1)]) hx (hb hby d8_38) rfl rfl rfl ?_
  refine Go.goto (q := 3) hx (hb hby d8_41) (by decide) rfl ?_
  refine Go.iload (q := 5) hx (hb hby d8_3) rfl rfl ?_
  refine Go.iload (q := 7) hx (hb hby d8_5) rfl rfl ?_
  refine Go.icmp_ge (q := 10) (t := 44) hx (hb hby d8_7) (by decide) rfl rfl (fun hc7_2 => absurd hc7_2 (by decide)) (fun hc7_2 => ?_)
  refine Go.aloadN (q := 11) hx (hb hby d8_10) rfl (by rfl) rfl ?_
  refine Go.iloadN (q := 12) hx (hb hby d8_11) rfl rfl ?_
  refine Go.caload (q := 13) (v := (.int c2)) hx hZ ((A.other W160 nab).other W163 nab) ⟨by decide, by decide⟩ rfl (hb hby d8_12) rfl ?_
  refine Go.istore (q := 15) (l' := #[.val (.ref a), .val (.int (((0 : Int32) + (1 : Int32)) + (1 : Int32))), .val (.ref b), .val (.int (((0 : Int32) + (1 : Int32)) + (1 : Int32))), .val (.int (4 : Int32)), .val (.int (((0 : Int32) + (1 : Int32)) + (1 : Int32))), .val (.int c2)]) hx (hb hby d8_13) rfl rfl ?_
  refine Go.iload (q := 17) hx (hb hby d8_15) rfl rfl ?_
  refine Go.sipush (q := 20) (z := (255 : Int32)) hx (hb hby d8_17) rfl rfl ?_
  refine Go.icmp_le (q := 23) (t := 26) hx (hb hby d8_20) (by decide) rfl rfl (fun hc20_2 => ?_) (fun hc20_2 => absurd hc20_2 hp2)
  refine Go.aloadN (q := 27) hx (hb hby d8_26) rfl (by rfl) rfl ?_
  refine Go.iloadN (q := 28) hx (hb hby d8_27) rfl rfl ?_
  refine Go.iload (q := 30) hx (hb hby d8_28) rfl rfl ?_
  refine Go.i2b (q := 31) hx (hb hby d8_30) rfl ?_
  refine Go.bastore (q := 32) hx hZ V164 ⟨by decide, by decide⟩ 2 rfl (ble rfl) gb (by simp) (hb hby d8_31) rfl (fun h165 W166 V167 => ?_)
  refine Go.iinc (q := 35) (l' := #[.val (.ref a), .val (.int ((((0 : Int32) + (1 : Int32)) + (1 : Int32)) + (1 : Int32))), .val (.ref b), .val (.int (((0 : Int32) + (1 : Int32)) + (1 : Int32))), .val (.int (4 : Int32)), .val (.int (((0 : Int32) + (1 : Int32)) + (1 : Int32))), .val (.int c2)]) hx (hb hby d8_32) rfl rfl rfl ?_
  refine Go.iinc (q := 38) (l' := #[.val (.ref a), .val (.int ((((0 : Int32) + (1 : Int32)) + (1 : Int32)) + (1 : Int32))), .val (.ref b), .val (.int ((((0 : Int32) + (1 : Int32)) + (1 : Int32)) + (1 : Int32))), .val (.int (4 : Int32)), .val (.int (((0 : Int32) + (1 : Int32)) + (1 : Int32))), .val (.int c2)]) hx (hb hby d8_35) rfl rfl rfl ?_
  refine Go.iinc (q := 41) (l' := #[.val (.ref a), .val (.int ((((0 : Int32) + (1 : Int32)) + (1 : Int32)) + (1 : Int32))), .val (.ref b), .val (.int ((((0 : Int32) + (1 : Int32)) + (1 : Int32)) + (1 : Int32))), .val (.int (4 : Int32)), .val (.int ((((0 : Int32) + (1 : Int32)) + (1 : Int32)) + (1 : Int32))), .val (.int c2)]) hx (hb hby d8_38) rfl rfl rfl ?_
  refine Go.goto (q := 3) hx (hb hby d8_41) (by decide) rfl ?_
  refine Go.iload (q := 5) hx (hb hby d8_3) rfl rfl ?_
  refine Go.iload (q := 7) hx (hb hby d8_5) rfl rfl ?_
  refine Go.icmp_ge (q := 10) (t := 44) hx (hb hby d8_7) (by decide) rfl rfl (fun hc7_3 => absurd hc7_3 (by decide)) (fun hc7_3 => ?_)
  refine Go.aloadN (q := 11) hx (hb hby d8_10) rfl (by rfl) rfl ?_
  refine Go.iloadN (q := 12) hx (hb hby d8_11) rfl rfl ?_
  refine Go.caload (q := 13) (v := (.int c3)) hx hZ (((A.other W160 nab).other W163 nab).other W166 nab) ⟨by decide, by decide⟩ rfl (hb hby d8_12) rfl ?_
  refine Go.istore (q := 15) (l' := #[.val (.ref a), .val (.int ((((0 : Int32) + (1 : Int32)) + (1 : Int32)) + (1 : Int32))), .val (.ref b), .val (.int ((((0 : Int32) + (1 : Int32)) + (1 : Int32)) + (1 : Int32))), .val (.int (4 : Int32)), .val (.int ((((0 : Int32) + (1 : Int32)) + (1 : Int32)) + (1 : Int32))), .val (.int c3)]) hx (hb hby d8_13) rfl rfl ?_
  refine Go.iload (q := 17) hx (hb hby d8_15) rfl rfl ?_
  refine Go.sipush (q := 20) (z := (255 : Int32)) hx (hb hby d8_17) rfl rfl ?_
  refine Go.icmp_le (q := 23) (t := 26) hx (hb hby d8_20) (by decide) rfl rfl (fun hc20_3 => ?_) (fun hc20_3 => absurd hc20_3 hp3)
  refine Go.aloadN (q := 27) hx (hb hby d8_26) rfl (by rfl) rfl ?_
  refine Go.iloadN (q := 28) hx (hb hby d8_27) rfl rfl ?_
  refine Go.iload (q := 30) hx (hb hby d8_28) rfl rfl ?_
  refine Go.i2b (q := 31) hx (hb hby d8_30) rfl ?_
  refine Go.bastore (q := 32) hx hZ V167 ⟨by decide, by decide⟩ 3 rfl (ble rfl) gb (by simp) (hb hby d8_31) rfl (fun h168 W169 V170 => ?_)
  refine Go.iinc (q := 35) (l' := #[.val (.ref a), .val (.int (((((0 : Int32) + (1 : Int32)) + (1 : Int32)) + (1 : Int32)) + (1 : Int32))), .val (.ref b), .val (.int ((((0 : Int32) + (1 : Int32)) + (1 : Int32)) + (1 : Int32))), .val (.int (4 : Int32)), .val (.int ((((0 : Int32) + (1 : Int32)) + (1 : Int32)) + (1 : Int32))), .val (.int c3)]) hx (hb hby d8_32) rfl rfl rfl ?_
  refine Go.iinc (q := 38) (l' := #[.val (.ref a), .val (.int (((((0 : Int32) + (1 : Int32)) + (1 : Int32)) + (1 : Int32)) + (1 : Int32))), .val (.ref b), .val (.int (((((0 : Int32) + (1 : Int32)) + (1 : Int32)) + (1 : Int32)) + (1 : Int32))), .val (.int (4 : Int32)), .val (.int ((((0 : Int32) + (1 : Int32)) + (1 : Int32)) + (1 : Int32))), .val (.int c3)]) hx (hb hby d8_35) rfl rfl rfl ?_
  refine Go.iinc (q := 41) (l' := #[.val (.ref a), .val (.int (((((0 : Int32) + (1 : Int32)) + (1 : Int32)) + (1 : Int32)) + (1 : Int32))), .val (.ref b), .val (.int (((((0 : Int32) + (1 : Int32)) + (1 : Int32)) + (1 : Int32)) + (1 : Int32))), .val (.int (4 : Int32)), .val (.int (((((0 : Int32) + (1 : Int32)) + (1 : Int32)) + (1 : Int32)) + (1 : Int32))), .val (.int c3)]) hx (hb hby d8_38) rfl rfl rfl ?_
  refine Go.goto (q := 3) hx (hb hby d8_41) (by decide) rfl ?_
  refine Go.iload (q := 5) hx (hb hby d8_3) rfl rfl ?_
  refine Go.iload (q := 7) hx (hb hby d8_5) rfl rfl ?_
  refine Go.icmp_ge (q := 10) (t := 44) hx (hb hby d8_7) (by decide) rfl rfl (fun hc7_4 => ?_) (fun hc7_4 => absurd hc7_4 (by decide))
  refine Go.iload (q := 46) hx (hb hby d8_44) rfl rfl ?_
  refine Go.retI hx hret hlk (hb hby d8_46) (by decide) (by decide) ?_
  exact ⟨rfl, (((((Keep.refl h0 [b]).wr W160 (Or.inl (by simp))).wr W163 (Or.inl (by simp))).wr W166 (Or.inl (by simp))).wr W169 (Or.inl (by simp))), V170⟩
theorem rmD4 (l : Launch) (Z : State) (a0 : Array Value) (hw : ∀ d ∈ tables_1, d.before a0 Z = true) (hel : EW Z a0 consts_1) (a : Addr) (ka : ClassId) (c0 c1 c2 c3 : Int32) (h0 : Heap) (n0 : Nat) (Z0 : n0 ≤ h0.size) (A : Arv Z h0 a ka .char (4 : Int32) [.int c0, .int c1, .int c2, .int c3] (.int (0 : Int32))) (hp0 : ¬ (255 : Int32) < c0) (hp1 : ¬ (255 : Int32) < c1) (hp2 : ¬ (255 : Int32) < c2) (hp3 : ¬ (255 : Int32) < c3) :
    Met l Z consts_1 [] (⟨"java/lang/StringUTF16", "compress", "([CII)[B"⟩ : MethodName) jdk_52_method_16_code 6 (Option.some (FieldType.array FieldType.byte)) [] ({ frames := 1, cells := 1, slots := 4, locals := 18 } : Room) #[(.ref a), (.int (0 : Int32)), (.int (4 : Int32))] h0 n0 (fun v h => ∃ b kb, v = some (.ref b) ∧ h0.size ≤ b ∧ Keep h0 h [] ∧ Arv Z h b kb .byte (4 : Int32) [(.int (nar .byte c0.toInt8.toInt32)), (.int (nar .byte c1.toInt8.toInt32)), (.int (nar .byte c2.toInt8.toInt32)), (.int (nar .byte c3.toInt8.toInt32))] (.int (0 : Int32))) := by
  refine Met.of (Ls0 := #[.val (.ref a), .val (.int (0 : Int32)), .val (.int (4 : Int32)), .unset, .unset, .unset]) pl_4 (by first | (simp [argsToLocals, Value.category]; done) | rfl) hel ?_
  intro p e s m below meth c hx hby hml hret hlk hown hnm hZ
  refine Go.iloadN (q := 1) hx (hb hby d7_0) rfl rfl ?_
  refine Go.newP (q := 3) (cap := 4) hx hZ (tw hw 21 rfl) (by decide) (by decide) (hb hby d7_1) rfl (by decide) (ce' := 1) (sl' := 4) rfl rfl (by decide) (by decide) (fun h171 a172 k173 g174 E175 A176 => ?_)
  have ne177 : a ≠ a172 := by rw [g174]; exact Nat.ne_of_lt (A).lt
  have gz178 : n0 ≤ a172 := by rw [g174]; exact Z0
  have gk179 : h0.size ≤ a172 := by rw [g174]; exact (Keep.refl h0 []).1
  have V180 : Arv Z h171 a172 k173 .byte (4 : Int32) [(.int (0 : Int32)), (.int (0 : Int32)), (.int (0 : Int32)), (.int (0 : Int32))] (.int (0 : Int32)) := A176.pad (pad_rep [] (.int (0 : Int32)) 4)
  refine Go.astoreN (q := 4) (l' := #[.val (.ref a), .val (.int (0 : Int32)), .val (.int (4 : Int32)), .val (.ref a172), .unset, .unset]) hx (hb hby d7_3) (by rfl) rfl rfl ?_
  refine Go.aloadN (q := 5) hx (hb hby d7_4) rfl (by rfl) rfl ?_
  refine Go.iloadN (q := 6) hx (hb hby d7_5) rfl rfl ?_
  refine Go.aloadN (q := 7) hx (hb hby d7_6) rfl (by rfl) rfl ?_
  refine Go.iconst (q := 8) (z := (0 : Int32)) hx (hb hby d7_7) rfl rfl ?_
  refine Go.iloadN (q := 9) hx (hb hby d7_8) rfl rfl ?_
  refine Go.callS (q := 12) hx hZ (argsL := [(.ref a), (.int (0 : Int32)), (.ref a172), (.int (0 : Int32)), (.int (4 : Int32))]) (rest := []) hown (tw hw 47 rfl) (tw hw 48 rfl) (tw hw 45 rfl) (tw hw 49 rfl) (by decide) (rmC4 l Z a0 hw hel a a172 ka k173 c0 c1 c2 c3 h171 n0 (Nat.le_trans Z0 E175.1) (A.ext E175) V180 gz178 ne177 hp0 hp1 hp2 hp3) (by simp) (by rw [hml]; rfl) pd_4 rfl rfl (hb hby d7_9) rfl (by decide) (ble rfl) (ce' := 1) (sl' := 4) rfl rfl (by decide) (by decide) (fun v181 h182 hQ183 => ?_)
  obtain ⟨rfl, K184, V185⟩ := hQ183
  show Go _ _ _ _ _ _ _ _ _ _ _ _ _ _ _ _ _ _ _ _ 1 4 12 #[.val (.ref a), .val (.int (0 : Int32)), .val (.int (4 : Int32)), .val (.ref a172), .unset, .unset] [(.int (4 : Int32))]
  refine Go.istore (q := 14) (l' := #[.val (.ref a), .val (.int (0 : Int32)), .val (.int (4 : Int32)), .val (.ref a172), .val (.int (4 : Int32)), .unset]) hx (hb hby d7_12) rfl rfl ?_
  refine Go.iload (q := 16) hx (hb hby d7_14) rfl rfl ?_
  refine Go.iloadN (q := 17) hx (hb hby d7_16) rfl rfl ?_
  refine Go.icmp_eq (q := 20) (t := 57) hx (hb hby d7_17) (by decide) rfl rfl (fun hc17 => ?_) (fun hc17 => absurd hc17 (by decide))
  refine Go.aloadN (q := 58) hx (hb hby d7_57) rfl (by rfl) rfl ?_
  refine Go.retA hx hret rfl (by rfl) hlk (hb hby d7_58) (by decide) (by decide) ?_
  exact ⟨a172, _, rfl, gk179, (Keep.trans ((Keep.refl h0 []).ext E175) K184 (allS (Or.inr gk179) all0)), V185⟩
theorem rmS4 (l : Launch) (Z : State) (a0 : Array Value) (hw : ∀ d ∈ tables_1, d.before a0 Z = true) (hel : EW Z a0 consts_1) (sa a : Addr) (ka : ClassId) (cst : Int32) (c0 c1 c2 c3 : Int32) (h0 : Heap) (n0 : Nat) (Z0 : n0 ≤ h0.size) (gs : n0 ≤ sa) (nas : a ≠ sa) (E : Exa Z h0 sa "java/lang/String") (F1 : Fld Z h0 sa "java/lang/String" "value" "[B" .null) (F2 : Fld Z h0 sa "java/lang/String" "coder" "B" (.int (0 : Int32))) (A : Arv Z h0 a ka .char (4 : Int32) [.int c0, .int c1, .int c2, .int c3] (.int (0 : Int32))) (hp0 : ¬ (255 : Int32) < c0) (hp1 : ¬ (255 : Int32) < c1) (hp2 : ¬ (255 : Int32) < c2) (hp3 : ¬ (255 : Int32) < c3) (X0 : Old Z n0 h0) (SC : Sta Z Z.heap "java/lang/String" "COMPACT_STRINGS" "Z" (.int cst)) (hcs : ¬ cst = (0 : Int32)) :
    Met l Z consts_1 [sa] (⟨"java/lang/String", "<init>", "([CIILjava/lang/Void;)V"⟩ : MethodName) jdk_42_method_149_code 6 (Option.none : Option FieldType) [] ({ frames := 2, cells := 1, slots := 4, locals := 35 } : Room) #[(.ref sa), (.ref a), (.int (0 : Int32)), (.int (4 : Int32)), .null] h0 n0 (fun v h => v = none ∧ Keep h0 h [sa] ∧ ∃ b kb, h0.size ≤ b ∧ Fld Z h sa "java/lang/String" "value" "[B" (.ref b) ∧ Fld Z h sa "java/lang/String" "coder" "B" (.int (0 : Int32)) ∧ Arv Z h b kb .byte (4 : Int32) [(.int (nar .byte c0.toInt8.toInt32)), (.int (nar .byte c1.toInt8.toInt32)), (.int (nar .byte c2.toInt8.toInt32)), (.int (nar .byte c3.toInt8.toInt32))] (.int (0 : Int32))) := by
  refine Met.of (Ls0 := #[.val (.ref sa), .val (.ref a), .val (.int (0 : Int32)), .val (.int (4 : Int32)), .val .null, .unset]) pl_1 (by first | (simp [argsToLocals, Value.category]; done) | rfl) hel ?_
  have hSA : ∀ d ∈ Bundle.stringAtoms, d.before a0 Z = true := fun d hd => hw d ((by decide +kernel : ∀ d ∈ Bundle.stringAtoms, d ∈ tables_1) d hd)
  intro p e s m below meth c hx hby hml hret hlk hown hnm hZ
  refine Go.aloadN (q := 1) hx (hb hby d2_0) rfl (by rfl) rfl ?_
  refine Go.initO (q := 4) hx hZ hown (tw hw 17 rfl) (tw hw 18 rfl) (tw hw 19 rfl) (by rw [hml]; rfl) (hb hby d2_1) rfl (by decide) (ble rfl) ?_
  refine Go.iloadN (q := 5) hx (hb hby d2_4) rfl rfl ?_
  refine Go.if_ne (q := 8) (t := 27) hx (hb hby d2_5) (by decide) rfl rfl (fun hc5 => ?_) (fun hc5 => absurd hc5 (by decide))
  refine Go.getS (q := 30) hx hZ hown (host := "") (Or.inl (tw hw 42 rfl)) Via.refl (Sta.ext X0.2 SC) (hb hby d2_27) rfl ?_
  refine Go.if_eq (q := 33) (t := 58) hx (hb hby d2_30) (by decide) rfl rfl (fun hc30 => absurd hc30 hcs) (fun hc30 => ?_)
  refine Go.aloadN (q := 34) hx (hb hby d2_33) rfl (by rfl) rfl ?_
  refine Go.iloadN (q := 35) hx (hb hby d2_34) rfl rfl ?_
  refine Go.iloadN (q := 36) hx (hb hby d2_35) rfl rfl ?_
  refine Go.callS (q := 39) hx hZ (argsL := [(.ref a), (.int (0 : Int32)), (.int (4 : Int32))]) (rest := []) hown (tw hw 43 rfl) (tw hw 44 rfl) (tw hw 45 rfl) (tw hw 46 rfl) (by decide) (rmD4 l Z a0 hw hel a ka c0 c1 c2 c3 h0 n0 Z0 A hp0 hp1 hp2 hp3) (fun _ hx => nomatch hx) (by rw [hml]; rfl) pd_1 rfl rfl (hb hby d2_36) rfl (by decide) (ble rfl) (ce' := 1) (sl' := 4) rfl rfl (by decide) (by decide) (fun v186 h187 hQ188 => ?_)
  have lt194 := (E).lt
  obtain ⟨b189, k190, rfl, g191, K192, V193⟩ := hQ188
  have ne195 : sa ≠ b189 := Nat.ne_of_lt (Nat.lt_of_lt_of_le lt194 g191)
  show Go _ _ _ _ _ _ _ _ _ _ _ _ _ _ _ _ _ _ _ _ 1 4 39 #[.val (.ref sa), .val (.ref a), .val (.int (0 : Int32)), .val (.int (4 : Int32)), .val .null, .unset] [(.ref b189)]
  refine Go.astore (q := 41) (l' := #[.val (.ref sa), .val (.ref a), .val (.int (0 : Int32)), .val (.int (4 : Int32)), .val .null, .val (.ref b189)]) hx (hb hby d2_39) (by rfl) rfl rfl ?_
  refine Go.aloadN (q := 42) hx (hb hby d2_41) rfl (by rfl) rfl ?_
  refine Go.aload (q := 44) hx (hb hby d2_42) rfl (by rfl) rfl ?_
  refine Go.iloadN (q := 45) hx (hb hby d2_44) rfl rfl ?_
  refine Go.callS (q := 48) hx hZ (argsL := [(.ref b189), (.int (4 : Int32))]) (rest := [(.ref sa)]) hown (tw hw 50 rfl) (tw hw 51 rfl) (tw hw 45 rfl) (tw hw 52 rfl) (by decide) (rmK l Z a0 hw hel b189 k190 (4 : Int32) _ h187 n0 (Nat.le_trans Z0 K192.1) V193) (fun _ hx => nomatch hx) (by rw [hml]; rfl) pd_2 rfl rfl (hb hby d2_45) rfl (by decide) (ble rfl) (ce' := 1) (sl' := 4) rfl rfl (by decide) (by decide) (fun v196 h197 hQ198 => ?_)
  obtain ⟨rfl, rfl⟩ := hQ198
  show Go _ _ _ _ _ _ _ _ _ _ _ _ _ _ _ _ _ _ _ _ 1 4 48 #[.val (.ref sa), .val (.ref a), .val (.int (0 : Int32)), .val (.int (4 : Int32)), .val .null, .val (.ref b189)] [(.int (0 : Int32)), (.ref sa)]
  refine Go.putF (q := 51) hx hZ hown (host := "") (Or.inl (tw hw 27 rfl)) Via.refl (F2.keep K192 nin0) (E.keep K192) (Or.inr ⟨(tw hw 23 rfl), rfl, hnm⟩) (tw hw 7 rfl) (ty := .byte) (by decide) rfl rfl gs (by simp) (hb hby d2_48) rfl (fun h199 W200 => ?_)
  refine Go.aloadN (q := 52) hx (hb hby d2_51) rfl (by rfl) rfl ?_
  refine Go.aload (q := 54) hx (hb hby d2_52) rfl (by rfl) rfl ?_
  refine Go.putF (q := 57) hx hZ hown (host := "") (Or.inl (tw hw 26 rfl)) Via.refl (Fld.other W200 (F1.keep K192 nin0) (Or.inr (slot_ne (C := "java/lang/String") (Or.inr (tw hw 22 rfl)) (Or.inr (tw hw 23 rfl)) (by decide) (by decide : _ = some (.array .byte)) (by decide : _ = some .byte)))) (Exa.wr W200 (E.keep K192)) (Or.inr ⟨(tw hw 22 rfl), rfl, hnm⟩) (tw hw 7 rfl) (ty := (.array .byte)) (by decide) rfl rfl gs (by simp) (hb hby d2_54) rfl (fun h201 W202 => ?_)
  refine Go.ret0 hx hret hlk (hb hby d2_57) (by decide) (by decide) ?_
  exact ⟨rfl, (((Keep.trans (Keep.refl h0 [sa]) K192 all0).wr W200 (Or.inl (by simp))).wr W202 (Or.inl (by simp))), b189, k190, g191, (Fld.same W202 (Fld.other W200 (F1.keep K192 nin0) (Or.inr (slot_ne (C := "java/lang/String") (Or.inr (tw hw 22 rfl)) (Or.inr (tw hw 23 rfl)) (by decide) (by decide : _ = some (.array .byte)) (by decide : _ = some .byte))))), (Fld.other W202 (Fld.same W200 (F2.keep K192 nin0)) (Or.inr (slot_ne (C := "java/lang/String") (Or.inr (tw hw 23 rfl)) (Or.inr (tw hw 22 rfl)) (by decide) (by decide : _ = some .byte) (by decide : _ = some (.array .byte))))), ((V193.other W200 ne195.symm).other W202 ne195.symm)⟩
theorem rmI4 (l : Launch) (Z : State) (a0 : Array Value) (hw : ∀ d ∈ tables_1, d.before a0 Z = true) (hel : EW Z a0 consts_1) (sa a : Addr) (ka : ClassId) (cst : Int32) (c0 c1 c2 c3 : Int32) (h0 : Heap) (n0 : Nat) (Z0 : n0 ≤ h0.size) (gs : n0 ≤ sa) (nas : a ≠ sa) (E : Exa Z h0 sa "java/lang/String") (F1 : Fld Z h0 sa "java/lang/String" "value" "[B" .null) (F2 : Fld Z h0 sa "java/lang/String" "coder" "B" (.int (0 : Int32))) (A : Arv Z h0 a ka .char (4 : Int32) [.int c0, .int c1, .int c2, .int c3] (.int (0 : Int32))) (hp0 : ¬ (255 : Int32) < c0) (hp1 : ¬ (255 : Int32) < c1) (hp2 : ¬ (255 : Int32) < c2) (hp3 : ¬ (255 : Int32) < c3) (X0 : Old Z n0 h0) (SC : Sta Z Z.heap "java/lang/String" "COMPACT_STRINGS" "Z" (.int cst)) (hcs : ¬ cst = (0 : Int32)) :
    Met l Z consts_1 [sa] (⟨"java/lang/String", "<init>", "([C)V"⟩ : MethodName) jdk_42_method_3_code 2 (Option.none : Option FieldType) [] ({ frames := 3, cells := 1, slots := 4, locals := 52 } : Room) #[(.ref sa), (.ref a)] h0 n0 (fun v h => v = none ∧ Keep h0 h [sa] ∧ ∃ b kb, h0.size ≤ b ∧ Fld Z h sa "java/lang/String" "value" "[B" (.ref b) ∧ Fld Z h sa "java/lang/String" "coder" "B" (.int (0 : Int32)) ∧ Arv Z h b kb .byte (4 : Int32) [(.int (nar .byte c0.toInt8.toInt32)), (.int (nar .byte c1.toInt8.toInt32)), (.int (nar .byte c2.toInt8.toInt32)), (.int (nar .byte c3.toInt8.toInt32))] (.int (0 : Int32))) := by
  refine Met.of (Ls0 := #[.val (.ref sa), .val (.ref a)]) pl_2 (by first | (simp [argsToLocals, Value.category]; done) | rfl) hel ?_
  intro p e s m below meth c hx hby hml hret hlk hown hnm hZ
  refine Go.aloadN (q := 1) hx (hb hby d1_0) rfl (by rfl) rfl ?_
  refine Go.aloadN (q := 2) hx (hb hby d1_1) rfl (by rfl) rfl ?_
  refine Go.iconst (q := 3) (z := (0 : Int32)) hx (hb hby d1_2) rfl rfl ?_
  refine Go.aloadN (q := 4) hx (hb hby d1_3) rfl (by rfl) rfl ?_
  refine Go.alen (q := 5) hx hZ A (hb hby d1_4) rfl ?_
  refine Go.aconstNull (q := 6) hx (hb hby d1_5) rfl ?_
  refine Go.callI (q := 9) hx hZ (a := sa) (argsL := [(.ref a), (.int (0 : Int32)), (.int (4 : Int32)), .null]) (rest := []) hown rfl (tw hw 13 rfl) (tw hw 14 rfl) (tw hw 8 rfl) (tw hw 16 rfl) (by decide) (rmS4 l Z a0 hw hel sa a ka cst c0 c1 c2 c3 h0 n0 Z0 gs nas E F1 F2 A hp0 hp1 hp2 hp3 X0 SC hcs) (by simp) (by rw [hml]; rfl) pd_3 rfl rfl (hb hby d1_6) rfl (by decide) (ble rfl) (ce' := 1) (sl' := 4) rfl rfl (by decide) (by decide) (fun v203 h204 hQ205 => ?_)
  obtain ⟨rfl, K206, Y207⟩ := hQ205
  show Go _ _ _ _ _ _ _ _ _ _ _ _ _ _ _ _ _ _ _ _ 1 4 9 #[.val (.ref sa), .val (.ref a)] []
  refine Go.ret0 hx hret hlk (hb hby d1_9) (by decide) (by decide) ?_
  exact ⟨rfl, (Keep.trans (Keep.refl h0 [sa]) K206 (allS (Or.inl (by simp)) all0)), Y207⟩
theorem d17_0 : decode jdk_52_method_3_code 0 = .ok (.iload_n 0, 1) := by decide +kernel
theorem d17_1 : decode jdk_52_method_3_code 1 = .ok (.ifCond .ge 11, 3) := by decide +kernel
theorem d17_4 : decode jdk_52_method_3_code 4 = .ok (.new 17, 3) := by decide +kernel
theorem d17_7 : decode jdk_52_method_3_code 7 = .ok (.dup, 1) := by decide +kernel
theorem d17_8 : decode jdk_52_method_3_code 8 = .ok (.invokespecial 19, 3) := by decide +kernel
theorem d17_11 : decode jdk_52_method_3_code 11 = .ok (.athrow, 1) := by decide +kernel
theorem d17_12 : decode jdk_52_method_3_code 12 = .ok (.iload_n 0, 1) := by decide +kernel
theorem d17_13 : decode jdk_52_method_3_code 13 = .ok (.ldc 20, 2) := by decide +kernel
theorem d17_15 : decode jdk_52_method_3_code 15 = .ok (.if_icmp .lt 40, 3) := by decide +kernel
theorem d17_18 : decode jdk_52_method_3_code 18 = .ok (.new 21, 3) := by decide +kernel
theorem d17_21 : decode jdk_52_method_3_code 21 = .ok (.dup, 1) := by decide +kernel
theorem d17_22 : decode jdk_52_method_3_code 22 = .ok (.new 23, 3) := by decide +kernel
theorem d17_25 : decode jdk_52_method_3_code 25 = .ok (.dup, 1) := by decide +kernel
theorem d17_26 : decode jdk_52_method_3_code 26 = .ok (.invokespecial 25, 3) := by decide +kernel
theorem d17_29 : decode jdk_52_method_3_code 29 = .ok (.ldc 26, 2) := by decide +kernel
theorem d17_31 : decode jdk_52_method_3_code 31 = .ok (.invokevirtual 28, 3) := by decide +kernel
theorem d17_34 : decode jdk_52_method_3_code 34 = .ok (.iload_n 0, 1) := by decide +kernel
theorem d17_35 : decode jdk_52_method_3_code 35 = .ok (.invokevirtual 32, 3) := by decide +kernel
theorem d17_38 : decode jdk_52_method_3_code 38 = .ok (.ldc 35, 2) := by decide +kernel
theorem d17_40 : decode jdk_52_method_3_code 40 = .ok (.invokevirtual 28, 3) := by decide +kernel
theorem d17_43 : decode jdk_52_method_3_code 43 = .ok (.ldc 20, 2) := by decide +kernel
theorem d17_45 : decode jdk_52_method_3_code 45 = .ok (.invokevirtual 32, 3) := by decide +kernel
theorem d17_48 : decode jdk_52_method_3_code 48 = .ok (.invokevirtual 37, 3) := by decide +kernel
theorem d17_51 : decode jdk_52_method_3_code 51 = .ok (.invokespecial 41, 3) := by decide +kernel
theorem d17_54 : decode jdk_52_method_3_code 54 = .ok (.athrow, 1) := by decide +kernel
theorem d17_55 : decode jdk_52_method_3_code 55 = .ok (.iload_n 0, 1) := by decide +kernel
theorem d17_56 : decode jdk_52_method_3_code 56 = .ok (.iconst 1, 1) := by decide +kernel
theorem d17_57 : decode jdk_52_method_3_code 57 = .ok (.ishl, 1) := by decide +kernel
theorem d17_58 : decode jdk_52_method_3_code 58 = .ok (.ireturn, 1) := by decide +kernel
theorem pl_5 : plainFor (⟨"java/lang/StringUTF16", "newBytesLength", "(I)I"⟩ : MethodName) = true := plainFor_of_name (by first | (simp [plainName, overriddenIn]; done) | decide +kernel)
theorem rmNL1 (l : Launch) (Z : State) (a0 : Array Value) (hw : ∀ d ∈ tables_1, d.before a0 Z = true) (hel : EW Z a0 consts_1)  (h0 : Heap) (n0 : Nat) (Z0 : n0 ≤ h0.size)  :
    Met l Z consts_1 [] (⟨"java/lang/StringUTF16", "newBytesLength", "(I)I"⟩ : MethodName) jdk_52_method_3_code 1 (Option.some FieldType.int) [] ({ frames := 0, cells := 0, slots := 0, locals := 0 } : Room) #[(.int (1 : Int32))] h0 n0 (fun v h => v = some (.int (2 : Int32)) ∧ h0 = h) := by
  refine Met.of (Ls0 := #[.val (.int (1 : Int32))]) pl_5 (by first | (simp [argsToLocals, Value.category]; done) | rfl) hel ?_
  have hSA : ∀ d ∈ Bundle.stringAtoms, d.before a0 Z = true := fun d hd => hw d ((by decide +kernel : ∀ d ∈ Bundle.stringAtoms, d ∈ tables_1) d hd)
  intro p e s m below meth c hx hby hml hret hlk hown hnm hZ
  refine Go.iloadN (q := 1) hx (hb hby d17_0) rfl rfl ?_
  refine Go.if_ge (q := 4) (t := 12) hx (hb hby d17_1) (by decide) rfl rfl (fun hc1 => ?_) (fun hc1 => absurd hc1 (by decide))
  refine Go.iloadN (q := 13) hx (hb hby d17_12) rfl rfl ?_
  refine Go.ldcInt (q := 15) hx hZ hown (tw hw 84 rfl) (hb hby d17_13) rfl ?_
  refine Go.icmp_lt (q := 18) (t := 55) hx (hb hby d17_15) (by decide) rfl rfl (fun hc15 => ?_) (fun hc15 => absurd hc15 (by decide))
  refine Go.iloadN (q := 56) hx (hb hby d17_55) rfl rfl ?_
  refine Go.iconst (q := 57) (z := (1 : Int32)) hx (hb hby d17_56) rfl rfl ?_
  refine Go.ishl (q := 58) hx (hb hby d17_57) rfl ?_
  rw [show (1 : Int32) <<< ((1 : Int32) &&& 31) = (2 : Int32) from by decide]
  refine Go.retI hx hret hlk (hb hby d17_58) (by decide) (by decide) ?_
  exact ⟨rfl, rfl⟩
theorem d16_0 : decode jdk_52_method_2_code 0 = .ok (.iload_n 0, 1) := by decide +kernel
theorem d16_1 : decode jdk_52_method_2_code 1 = .ok (.invokestatic 11, 3) := by decide +kernel
theorem d16_4 : decode jdk_52_method_2_code 4 = .ok (.newarray .byte, 2) := by decide +kernel
theorem d16_6 : decode jdk_52_method_2_code 6 = .ok (.areturn, 1) := by decide +kernel
theorem pl_6 : plainFor (⟨"java/lang/StringUTF16", "newBytesFor", "(I)[B"⟩ : MethodName) = true := plainFor_of_name (by first | (simp [plainName, overriddenIn]; done) | decide +kernel)
theorem pd_6 : parseMethodDescriptor "(I)I" = some ⟨[.int], some .int⟩ := by decide +kernel
theorem rmNB1 (l : Launch) (Z : State) (a0 : Array Value) (hw : ∀ d ∈ tables_1, d.before a0 Z = true) (hel : EW Z a0 consts_1)  (h0 : Heap) (n0 : Nat) (Z0 : n0 ≤ h0.size)  :
    Met l Z consts_1 [] (⟨"java/lang/StringUTF16", "newBytesFor", "(I)[B"⟩ : MethodName) jdk_52_method_2_code 1 (Option.some (FieldType.array FieldType.byte)) [] ({ frames := 1, cells := 1, slots := 2, locals := 18 } : Room) #[(.int (1 : Int32))] h0 n0 (fun v h => ∃ b kb, v = some (.ref b) ∧ h0.size ≤ b ∧ Keep h0 h [] ∧ Arv Z h b kb .byte (2 : Int32) [(.int (0 : Int32)), (.int (0 : Int32))] (.int (0 : Int32))) := by
  refine Met.of (Ls0 := #[.val (.int (1 : Int32))]) pl_6 (by first | (simp [argsToLocals, Value.category]; done) | rfl) hel ?_
  intro p e s m below meth c hx hby hml hret hlk hown hnm hZ
  refine Go.iloadN (q := 1) hx (hb hby d16_0) rfl rfl ?_
  refine Go.callS (q := 4) hx hZ (argsL := [(.int (1 : Int32))]) (rest := []) hown (tw hw 81 rfl) (tw hw 82 rfl) (tw hw 45 rfl) (tw hw 83 rfl) (by decide) (rmNL1 l Z a0 hw hel h0 n0 Z0) (fun _ hx => nomatch hx) (by rw [hml]; rfl) pd_6 rfl rfl (hb hby d16_1) rfl (by decide) (ble rfl) (ce' := 0) (sl' := 0) rfl rfl (by decide) (by decide) (fun v208 h209 hQ210 => ?_)
  obtain ⟨rfl, rfl⟩ := hQ210
  show Go _ _ _ _ _ _ _ _ _ _ _ _ _ _ _ _ _ _ _ _ 0 0 4 #[.val (.int (1 : Int32))] [(.int (2 : Int32))]
  refine Go.newP (q := 6) (cap := 2) hx hZ (tw hw 21 rfl) (by decide) (by decide) (hb hby d16_4) rfl (by decide) (ce' := 1) (sl' := 2) rfl rfl (by decide) (by decide) (fun h211 a212 k213 g214 E215 A216 => ?_)
  have gz217 : n0 ≤ a212 := by rw [g214]; exact Z0
  have gk218 : h0.size ≤ a212 := by rw [g214]; exact (Keep.refl h0 []).1
  have V219 : Arv Z h211 a212 k213 .byte (2 : Int32) [(.int (0 : Int32)), (.int (0 : Int32))] (.int (0 : Int32)) := A216.pad (pad_rep [] (.int (0 : Int32)) 2)
  refine Go.retA hx hret rfl (by rfl) hlk (hb hby d16_6) (by decide) (by decide) ?_
  exact ⟨a212, _, rfl, gk218, ((Keep.refl h0 []).ext E215), V219⟩
theorem d18_0 : decode jdk_52_method_4_code 0 = .ok (.getstatic 44, 3) := by decide +kernel
theorem d18_3 : decode jdk_52_method_4_code 3 = .ok (.ifCond .ne 25, 3) := by decide +kernel
theorem d18_6 : decode jdk_52_method_4_code 6 = .ok (.iload_n 1, 1) := by decide +kernel
theorem d18_7 : decode jdk_52_method_4_code 7 = .ok (.ifCond .lt 11, 3) := by decide +kernel
theorem d18_10 : decode jdk_52_method_4_code 10 = .ok (.iload_n 1, 1) := by decide +kernel
theorem d18_11 : decode jdk_52_method_4_code 11 = .ok (.aload_n 0, 1) := by decide +kernel
theorem d18_12 : decode jdk_52_method_4_code 12 = .ok (.invokestatic 48, 3) := by decide +kernel
theorem d18_15 : decode jdk_52_method_4_code 15 = .ok (.if_icmp .lt 13, 3) := by decide +kernel
theorem d18_18 : decode jdk_52_method_4_code 18 = .ok (.new 52, 3) := by decide +kernel
theorem d18_21 : decode jdk_52_method_4_code 21 = .ok (.dup, 1) := by decide +kernel
theorem d18_22 : decode jdk_52_method_4_code 22 = .ok (.ldc 54, 2) := by decide +kernel
theorem d18_24 : decode jdk_52_method_4_code 24 = .ok (.invokespecial 56, 3) := by decide +kernel
theorem d18_27 : decode jdk_52_method_4_code 27 = .ok (.athrow, 1) := by decide +kernel
theorem d18_28 : decode jdk_52_method_4_code 28 = .ok (.iload_n 1, 1) := by decide +kernel
theorem d18_29 : decode jdk_52_method_4_code 29 = .ok (.iconst 1, 1) := by decide +kernel
theorem d18_30 : decode jdk_52_method_4_code 30 = .ok (.ishl, 1) := by decide +kernel
theorem d18_31 : decode jdk_52_method_4_code 31 = .ok (.istore_n 1, 1) := by decide +kernel
theorem d18_32 : decode jdk_52_method_4_code 32 = .ok (.aload_n 0, 1) := by decide +kernel
theorem d18_33 : decode jdk_52_method_4_code 33 = .ok (.iload_n 1, 1) := by decide +kernel
theorem d18_34 : decode jdk_52_method_4_code 34 = .ok (.iinc 1 1, 3) := by decide +kernel
theorem d18_37 : decode jdk_52_method_4_code 37 = .ok (.iload_n 2, 1) := by decide +kernel
theorem d18_38 : decode jdk_52_method_4_code 38 = .ok (.getstatic 59, 3) := by decide +kernel
theorem d18_41 : decode jdk_52_method_4_code 41 = .ok (.ishr, 1) := by decide +kernel
theorem d18_42 : decode jdk_52_method_4_code 42 = .ok (.i2b, 1) := by decide +kernel
theorem d18_43 : decode jdk_52_method_4_code 43 = .ok (.bastore, 1) := by decide +kernel
theorem d18_44 : decode jdk_52_method_4_code 44 = .ok (.aload_n 0, 1) := by decide +kernel
theorem d18_45 : decode jdk_52_method_4_code 45 = .ok (.iload_n 1, 1) := by decide +kernel
theorem d18_46 : decode jdk_52_method_4_code 46 = .ok (.iload_n 2, 1) := by decide +kernel
theorem d18_47 : decode jdk_52_method_4_code 47 = .ok (.getstatic 63, 3) := by decide +kernel
theorem d18_50 : decode jdk_52_method_4_code 50 = .ok (.ishr, 1) := by decide +kernel
theorem d18_51 : decode jdk_52_method_4_code 51 = .ok (.i2b, 1) := by decide +kernel
theorem d18_52 : decode jdk_52_method_4_code 52 = .ok (.bastore, 1) := by decide +kernel
theorem d18_53 : decode jdk_52_method_4_code 53 = .ok (.return_, 1) := by decide +kernel
theorem pl_7 : plainFor (⟨"java/lang/StringUTF16", "putChar", "([BII)V"⟩ : MethodName) = true := plainFor_of_name (by first | (simp [plainName, overriddenIn]; done) | decide +kernel)
theorem pd_7 : parseMethodDescriptor "([B)I" = some ⟨[(.array .byte)], some .int⟩ := by decide +kernel
theorem rmP1_0 (l : Launch) (Z : State) (a0 : Array Value) (hw : ∀ d ∈ tables_1, d.before a0 Z = true) (hel : EW Z a0 consts_1) (b : Addr) (kb : ClassId) (x d0 d1 : Int32) (h0 : Heap) (n0 : Nat) (Z0 : n0 ≤ h0.size) (B : Arv Z h0 b kb .byte (2 : Int32) [(.int d0), (.int d1)] (.int (0 : Int32))) (gb : n0 ≤ b) (X0 : Old Z n0 h0) (AD : Sta Z Z.heap "java/lang/StringUTF16" "$assertionsDisabled" "Z" (.int (1 : Int32))) (HB : Sta Z Z.heap "java/lang/StringUTF16" "HI_BYTE_SHIFT" "I" (.int (0 : Int32))) (LB : Sta Z Z.heap "java/lang/StringUTF16" "LO_BYTE_SHIFT" "I" (.int (8 : Int32))) :
    Met l Z consts_1 [b] (⟨"java/lang/StringUTF16", "putChar", "([BII)V"⟩ : MethodName) jdk_52_method_4_code 3 (Option.none : Option FieldType) [] ({ frames := 0, cells := 0, slots := 0, locals := 0 } : Room) #[(.ref b), (.int (0 : Int32)), (.int x)] h0 n0 (fun v h => v = none ∧ Keep h0 h [b] ∧ Arv Z h b kb .byte (2 : Int32) [(.int (nar .byte (x >>> ((0 : Int32) &&& 31)).toInt8.toInt32)), (.int (nar .byte (x >>> ((8 : Int32) &&& 31)).toInt8.toInt32))] (.int (0 : Int32))) := by
  refine Met.of (Ls0 := #[.val (.ref b), .val (.int (0 : Int32)), .val (.int x)]) pl_7 (by first | (simp [argsToLocals, Value.category]; done) | rfl) hel ?_
  have hSA : ∀ d ∈ Bundle.stringAtoms, d.before a0 Z = true := fun d hd => hw d ((by decide +kernel : ∀ d ∈ Bundle.stringAtoms, d ∈ tables_1) d hd)
  intro p e s m below meth c hx hby hml hret hlk hown hnm hZ
  refine Go.getS (q := 3) hx hZ hown (host := "") (Or.inl (tw hw 88 rfl)) Via.refl (Sta.ext X0.2 AD) (hb hby d18_0) rfl ?_
  refine Go.if_ne (q := 6) (t := 28) hx (hb hby d18_3) (by decide) rfl rfl (fun hc3 => ?_) (fun hc3 => absurd hc3 (by decide))
  refine Go.iloadN (q := 29) hx (hb hby d18_28) rfl rfl ?_
  refine Go.iconst (q := 30) (z := (1 : Int32)) hx (hb hby d18_29) rfl rfl ?_
  refine Go.ishl (q := 31) hx (hb hby d18_30) rfl ?_
  rw [show (0 : Int32) <<< ((1 : Int32) &&& 31) = (0 : Int32) from by decide]
  refine Go.istoreN (q := 32) (l' := #[.val (.ref b), .val (.int (0 : Int32)), .val (.int x)]) hx (hb hby d18_31) rfl rfl ?_
  refine Go.aloadN (q := 33) hx (hb hby d18_32) rfl (by rfl) rfl ?_
  refine Go.iloadN (q := 34) hx (hb hby d18_33) rfl rfl ?_
  refine Go.iinc (q := 37) (l' := #[.val (.ref b), .val (.int ((0 : Int32) + (1 : Int32))), .val (.int x)]) hx (hb hby d18_34) rfl rfl rfl ?_
  refine Go.iloadN (q := 38) hx (hb hby d18_37) rfl rfl ?_
  refine Go.getS (q := 41) hx hZ hown (host := "") (Or.inl (tw hw 89 rfl)) Via.refl (Sta.ext X0.2 HB) (hb hby d18_38) rfl ?_
  refine Go.ishr (q := 42) hx (hb hby d18_41) rfl ?_
  refine Go.i2b (q := 43) hx (hb hby d18_42) rfl ?_
  refine Go.bastore (q := 44) hx hZ B ⟨by decide, by decide⟩ 0 rfl (ble rfl) gb (by simp) (hb hby d18_43) rfl (fun h220 W221 V222 => ?_)
  refine Go.aloadN (q := 45) hx (hb hby d18_44) rfl (by rfl) rfl ?_
  refine Go.iloadN (q := 46) hx (hb hby d18_45) rfl rfl ?_
  refine Go.iloadN (q := 47) hx (hb hby d18_46) rfl rfl ?_
  refine Go.getS (q := 50) hx hZ hown (host := "") (Or.inl (tw hw 90 rfl)) Via.refl (Sta.ext (X0.wr W221 gb).2 LB) (hb hby d18_47) rfl ?_
  refine Go.ishr (q := 51) hx (hb hby d18_50) rfl ?_
  refine Go.i2b (q := 52) hx (hb hby d18_51) rfl ?_
  refine Go.bastore (q := 53) hx hZ V222 ⟨by decide, by decide⟩ 1 rfl (ble rfl) gb (by simp) (hb hby d18_52) rfl (fun h223 W224 V225 => ?_)
  refine Go.ret0 hx hret hlk (hb hby d18_53) (by decide) (by decide) ?_
  exact ⟨rfl, (((Keep.refl h0 [b]).wr W221 (Or.inl (by simp))).wr W224 (Or.inl (by simp))), V225⟩
theorem d19_0 : decode jdk_52_method_5_code 0 = .ok (.getstatic 44, 3) := by decide +kernel
theorem d19_3 : decode jdk_52_method_5_code 3 = .ok (.ifCond .ne 25, 3) := by decide +kernel
theorem d19_6 : decode jdk_52_method_5_code 6 = .ok (.iload_n 1, 1) := by decide +kernel
theorem d19_7 : decode jdk_52_method_5_code 7 = .ok (.ifCond .lt 11, 3) := by decide +kernel
theorem d19_10 : decode jdk_52_method_5_code 10 = .ok (.iload_n 1, 1) := by decide +kernel
theorem d19_11 : decode jdk_52_method_5_code 11 = .ok (.aload_n 0, 1) := by decide +kernel
theorem d19_12 : decode jdk_52_method_5_code 12 = .ok (.invokestatic 48, 3) := by decide +kernel
theorem d19_15 : decode jdk_52_method_5_code 15 = .ok (.if_icmp .lt 13, 3) := by decide +kernel
theorem d19_18 : decode jdk_52_method_5_code 18 = .ok (.new 52, 3) := by decide +kernel
theorem d19_21 : decode jdk_52_method_5_code 21 = .ok (.dup, 1) := by decide +kernel
theorem d19_22 : decode jdk_52_method_5_code 22 = .ok (.ldc 54, 2) := by decide +kernel
theorem d19_24 : decode jdk_52_method_5_code 24 = .ok (.invokespecial 56, 3) := by decide +kernel
theorem d19_27 : decode jdk_52_method_5_code 27 = .ok (.athrow, 1) := by decide +kernel
theorem d19_28 : decode jdk_52_method_5_code 28 = .ok (.iload_n 1, 1) := by decide +kernel
theorem d19_29 : decode jdk_52_method_5_code 29 = .ok (.iconst 1, 1) := by decide +kernel
theorem d19_30 : decode jdk_52_method_5_code 30 = .ok (.ishl, 1) := by decide +kernel
theorem d19_31 : decode jdk_52_method_5_code 31 = .ok (.istore_n 1, 1) := by decide +kernel
theorem d19_32 : decode jdk_52_method_5_code 32 = .ok (.aload_n 0, 1) := by decide +kernel
theorem d19_33 : decode jdk_52_method_5_code 33 = .ok (.iload_n 1, 1) := by decide +kernel
theorem d19_34 : decode jdk_52_method_5_code 34 = .ok (.iinc 1 1, 3) := by decide +kernel
theorem d19_37 : decode jdk_52_method_5_code 37 = .ok (.baload, 1) := by decide +kernel
theorem d19_38 : decode jdk_52_method_5_code 38 = .ok (.sipush 255, 3) := by decide +kernel
theorem d19_41 : decode jdk_52_method_5_code 41 = .ok (.iand, 1) := by decide +kernel
theorem d19_42 : decode jdk_52_method_5_code 42 = .ok (.getstatic 59, 3) := by decide +kernel
theorem d19_45 : decode jdk_52_method_5_code 45 = .ok (.ishl, 1) := by decide +kernel
theorem d19_46 : decode jdk_52_method_5_code 46 = .ok (.aload_n 0, 1) := by decide +kernel
theorem d19_47 : decode jdk_52_method_5_code 47 = .ok (.iload_n 1, 1) := by decide +kernel
theorem d19_48 : decode jdk_52_method_5_code 48 = .ok (.baload, 1) := by decide +kernel
theorem d19_49 : decode jdk_52_method_5_code 49 = .ok (.sipush 255, 3) := by decide +kernel
theorem d19_52 : decode jdk_52_method_5_code 52 = .ok (.iand, 1) := by decide +kernel
theorem d19_53 : decode jdk_52_method_5_code 53 = .ok (.getstatic 63, 3) := by decide +kernel
theorem d19_56 : decode jdk_52_method_5_code 56 = .ok (.ishl, 1) := by decide +kernel
theorem d19_57 : decode jdk_52_method_5_code 57 = .ok (.ior, 1) := by decide +kernel
theorem d19_58 : decode jdk_52_method_5_code 58 = .ok (.i2c, 1) := by decide +kernel
theorem d19_59 : decode jdk_52_method_5_code 59 = .ok (.ireturn, 1) := by decide +kernel
theorem pl_8 : plainFor (⟨"java/lang/StringUTF16", "getChar", "([BI)C"⟩ : MethodName) = true := plainFor_of_name (by first | (simp [plainName, overriddenIn]; done) | decide +kernel)
theorem rmG1_0 (l : Launch) (Z : State) (a0 : Array Value) (hw : ∀ d ∈ tables_1, d.before a0 Z = true) (hel : EW Z a0 consts_1) (b : Addr) (kb : ClassId) (c0 : Int32) (h0 : Heap) (n0 : Nat) (Z0 : n0 ≤ h0.size) (B : Arv Z h0 b kb .byte (2 : Int32) [(.int (nar .byte (c0 >>> ((0 : Int32) &&& 31)).toInt8.toInt32)), (.int (nar .byte (c0 >>> ((8 : Int32) &&& 31)).toInt8.toInt32))] (.int (0 : Int32))) (hq0 : Chr c0) (X0 : Old Z n0 h0) (AD : Sta Z Z.heap "java/lang/StringUTF16" "$assertionsDisabled" "Z" (.int (1 : Int32))) (HB : Sta Z Z.heap "java/lang/StringUTF16" "HI_BYTE_SHIFT" "I" (.int (0 : Int32))) (LB : Sta Z Z.heap "java/lang/StringUTF16" "LO_BYTE_SHIFT" "I" (.int (8 : Int32))) :
    Met l Z consts_1 [] (⟨"java/lang/StringUTF16", "getChar", "([BI)C"⟩ : MethodName) jdk_52_method_5_code 2 (Option.some FieldType.char) [] ({ frames := 0, cells := 0, slots := 0, locals := 0 } : Room) #[(.ref b), (.int (0 : Int32))] h0 n0 (fun v h => v = some (.int c0) ∧ h0 = h) := by
  refine Met.of (Ls0 := #[.val (.ref b), .val (.int (0 : Int32))]) pl_8 (by first | (simp [argsToLocals, Value.category]; done) | rfl) hel ?_
  have hSA : ∀ d ∈ Bundle.stringAtoms, d.before a0 Z = true := fun d hd => hw d ((by decide +kernel : ∀ d ∈ Bundle.stringAtoms, d ∈ tables_1) d hd)
  intro p e s m below meth c hx hby hml hret hlk hown hnm hZ
  refine Go.getS (q := 3) hx hZ hown (host := "") (Or.inl (tw hw 88 rfl)) Via.refl (Sta.ext X0.2 AD) (hb hby d19_0) rfl ?_
  refine Go.if_ne (q := 6) (t := 28) hx (hb hby d19_3) (by decide) rfl rfl (fun hc3 => ?_) (fun hc3 => absurd hc3 (by decide))
  refine Go.iloadN (q := 29) hx (hb hby d19_28) rfl rfl ?_
  refine Go.iconst (q := 30) (z := (1 : Int32)) hx (hb hby d19_29) rfl rfl ?_
  refine Go.ishl (q := 31) hx (hb hby d19_30) rfl ?_
  rw [show (0 : Int32) <<< ((1 : Int32) &&& 31) = (0 : Int32) from by decide]
  refine Go.istoreN (q := 32) (l' := #[.val (.ref b), .val (.int (0 : Int32))]) hx (hb hby d19_31) rfl rfl ?_
  refine Go.aloadN (q := 33) hx (hb hby d19_32) rfl (by rfl) rfl ?_
  refine Go.iloadN (q := 34) hx (hb hby d19_33) rfl rfl ?_
  refine Go.iinc (q := 37) (l' := #[.val (.ref b), .val (.int ((0 : Int32) + (1 : Int32)))]) hx (hb hby d19_34) rfl rfl rfl ?_
  refine Go.baload (q := 38) (v := (.int (nar .byte (c0 >>> ((0 : Int32) &&& 31)).toInt8.toInt32))) hx hZ B ⟨by decide, by decide⟩ rfl (hb hby d19_37) rfl ?_
  refine Go.sipush (q := 41) (z := (255 : Int32)) hx (hb hby d19_38) rfl rfl ?_
  refine Go.iand (q := 42) hx (hb hby d19_41) rfl ?_
  refine Go.getS (q := 45) hx hZ hown (host := "") (Or.inl (tw hw 89 rfl)) Via.refl (Sta.ext X0.2 HB) (hb hby d19_42) rfl ?_
  refine Go.ishl (q := 46) hx (hb hby d19_45) rfl ?_
  refine Go.aloadN (q := 47) hx (hb hby d19_46) rfl (by rfl) rfl ?_
  refine Go.iloadN (q := 48) hx (hb hby d19_47) rfl rfl ?_
  refine Go.baload (q := 49) (v := (.int (nar .byte (c0 >>> ((8 : Int32) &&& 31)).toInt8.toInt32))) hx hZ B ⟨by decide, by decide⟩ rfl (hb hby d19_48) rfl ?_
  refine Go.sipush (q := 52) (z := (255 : Int32)) hx (hb hby d19_49) rfl rfl ?_
  refine Go.iand (q := 53) hx (hb hby d19_52) rfl ?_
  refine Go.getS (q := 56) hx hZ hown (host := "") (Or.inl (tw hw 90 rfl)) Via.refl (Sta.ext X0.2 LB) (hb hby d19_53) rfl ?_
  refine Go.ishl (q := 57) hx (hb hby d19_56) rfl ?_
  refine Go.ior (q := 58) hx (hb hby d19_57) rfl ?_
  refine Go.i2c (q := 59) hx (hb hby d19_58) rfl ?_
  refine Go.retN hx (t := .char) hret (by simp) hlk (hb hby d19_59) (by decide) (by decide) ?_
  exact ⟨congrArg (fun z => some (Value.int z)) (utf_ok hq0), rfl⟩
theorem d15_0 : decode jdk_52_method_14_code 0 = .ok (.iload_n 2, 1) := by decide +kernel
theorem d15_1 : decode jdk_52_method_14_code 1 = .ok (.invokestatic 107, 3) := by decide +kernel
theorem d15_4 : decode jdk_52_method_14_code 4 = .ok (.astore_n 3, 1) := by decide +kernel
theorem d15_5 : decode jdk_52_method_14_code 5 = .ok (.iconst 0, 1) := by decide +kernel
theorem d15_6 : decode jdk_52_method_14_code 6 = .ok (.istore 4, 2) := by decide +kernel
theorem d15_8 : decode jdk_52_method_14_code 8 = .ok (.iload 4, 2) := by decide +kernel
theorem d15_10 : decode jdk_52_method_14_code 10 = .ok (.iload_n 2, 1) := by decide +kernel
theorem d15_11 : decode jdk_52_method_14_code 11 = .ok (.if_icmp .ge 21, 3) := by decide +kernel
theorem d15_14 : decode jdk_52_method_14_code 14 = .ok (.aload_n 3, 1) := by decide +kernel
theorem d15_15 : decode jdk_52_method_14_code 15 = .ok (.iload 4, 2) := by decide +kernel
theorem d15_17 : decode jdk_52_method_14_code 17 = .ok (.aload_n 0, 1) := by decide +kernel
theorem d15_18 : decode jdk_52_method_14_code 18 = .ok (.iload_n 1, 1) := by decide +kernel
theorem d15_19 : decode jdk_52_method_14_code 19 = .ok (.caload, 1) := by decide +kernel
theorem d15_20 : decode jdk_52_method_14_code 20 = .ok (.invokestatic 111, 3) := by decide +kernel
theorem d15_23 : decode jdk_52_method_14_code 23 = .ok (.iinc 1 1, 3) := by decide +kernel
theorem d15_26 : decode jdk_52_method_14_code 26 = .ok (.iinc 4 1, 3) := by decide +kernel
theorem d15_29 : decode jdk_52_method_14_code 29 = .ok (.goto (-21), 3) := by decide +kernel
theorem d15_32 : decode jdk_52_method_14_code 32 = .ok (.aload_n 3, 1) := by decide +kernel
theorem d15_33 : decode jdk_52_method_14_code 33 = .ok (.areturn, 1) := by decide +kernel
theorem pl_9 : plainFor (⟨"java/lang/StringUTF16", "toBytes", "([CII)[B"⟩ : MethodName) = true := plainFor_of_name (by first | (simp [plainName, overriddenIn]; done) | decide +kernel)
theorem pd_8 : parseMethodDescriptor "(I)[B" = some ⟨[.int], some (.array .byte)⟩ := by decide +kernel
theorem pd_9 : parseMethodDescriptor "([BII)V" = some ⟨[(.array .byte), .int, .int], none⟩ := by decide +kernel
theorem rmT1 (l : Launch) (Z : State) (a0 : Array Value) (hw : ∀ d ∈ tables_1, d.before a0 Z = true) (hel : EW Z a0 consts_1) (a : Addr) (ka : ClassId) (c0 : Int32) (h0 : Heap) (n0 : Nat) (Z0 : n0 ≤ h0.size) (A : Arv Z h0 a ka .char (1 : Int32) [.int c0] (.int (0 : Int32))) (X0 : Old Z n0 h0) (AD : Sta Z Z.heap "java/lang/StringUTF16" "$assertionsDisabled" "Z" (.int (1 : Int32))) (HB : Sta Z Z.heap "java/lang/StringUTF16" "HI_BYTE_SHIFT" "I" (.int (0 : Int32))) (LB : Sta Z Z.heap "java/lang/StringUTF16" "LO_BYTE_SHIFT" "I" (.int (8 : Int32))) :
    Met l Z consts_1 [] (⟨"java/lang/StringUTF16", "toBytes", "([CII)[B"⟩ : MethodName) jdk_52_method_14_code 5 (Option.some (FieldType.array FieldType.byte)) [] ({ frames := 2, cells := 1, slots := 2, locals := 36 } : Room) #[(.ref a), (.int (0 : Int32)), (.int (1 : Int32))] h0 n0 (fun v h => ∃ b kb, v = some (.ref b) ∧ h0.size ≤ b ∧ Keep h0 h [] ∧ Arv Z h b kb .byte (2 : Int32) [(.int (nar .byte (c0 >>> ((0 : Int32) &&& 31)).toInt8.toInt32)), (.int (nar .byte (c0 >>> ((8 : Int32) &&& 31)).toInt8.toInt32))] (.int (0 : Int32))) := by
  refine Met.of (Ls0 := #[.val (.ref a), .val (.int (0 : Int32)), .val (.int (1 : Int32)), .unset, .unset]) pl_9 (by first | (simp [argsToLocals, Value.category]; done) | rfl) hel ?_
  intro p e s m below meth c hx hby hml hret hlk hown hnm hZ
  refine Go.iloadN (q := 1) hx (hb hby d15_0) rfl rfl ?_
  refine Go.callS (q := 4) hx hZ (argsL := [(.int (1 : Int32))]) (rest := []) hown (tw hw 78 rfl) (tw hw 79 rfl) (tw hw 45 rfl) (tw hw 80 rfl) (by decide) (rmNB1 l Z a0 hw hel h0 n0 Z0) (fun _ hx => nomatch hx) (by rw [hml]; rfl) pd_8 rfl rfl (hb hby d15_1) rfl (by decide) (ble rfl) (ce' := 1) (sl' := 2) rfl rfl (by decide) (by decide) (fun v226 h227 hQ228 => ?_)
  have lt234 := (A).lt
  obtain ⟨b229, k230, rfl, g231, K232, V233⟩ := hQ228
  have ne235 : a ≠ b229 := Nat.ne_of_lt (Nat.lt_of_lt_of_le lt234 g231)
  have gz236 : n0 ≤ b229 := Nat.le_trans Z0 g231
  refine Go.safe (x := b229) V233.lt (fun vm hzv => safe_len hzv (tw hw 20 rfl) V233 (by decide)) ?_
  show Go _ _ _ _ _ _ _ _ _ _ _ _ _ _ _ _ _ _ _ _ 1 2 4 #[.val (.ref a), .val (.int (0 : Int32)), .val (.int (1 : Int32)), .unset, .unset] [(.ref b229)]
  refine Go.astoreN (q := 5) (l' := #[.val (.ref a), .val (.int (0 : Int32)), .val (.int (1 : Int32)), .val (.ref b229), .unset]) hx (hb hby d15_4) (by rfl) rfl rfl ?_
  refine Go.iconst (q := 6) (z := (0 : Int32)) hx (hb hby d15_5) rfl rfl ?_
  refine Go.istore (q := 8) (l' := #[.val (.ref a), .val (.int (0 : Int32)), .val (.int (1 : Int32)), .val (.ref b229), .val (.int (0 : Int32))]) hx (hb hby d15_6) rfl rfl ?_
  refine Go.iload (q := 10) hx (hb hby d15_8) rfl rfl ?_
  refine Go.iloadN (q := 11) hx (hb hby d15_10) rfl rfl ?_
  refine Go.icmp_ge (q := 14) (t := 32) hx (hb hby d15_11) (by decide) rfl rfl (fun hc11 => absurd hc11 (by decide)) (fun hc11 => ?_)
  refine Go.aloadN (q := 15) hx (hb hby d15_14) rfl (by rfl) rfl ?_
  refine Go.iload (q := 17) hx (hb hby d15_15) rfl rfl ?_
  refine Go.aloadN (q := 18) hx (hb hby d15_17) rfl (by rfl) rfl ?_
  refine Go.iloadN (q := 19) hx (hb hby d15_18) rfl rfl ?_
  refine Go.caload (q := 20) (v := (.int c0)) hx hZ (A.keep K232 nin0) ⟨by decide, by decide⟩ rfl (hb hby d15_19) rfl ?_
  refine Go.callS (q := 23) hx hZ (argsL := [(.ref b229), (.int (0 : Int32)), (.int c0)]) (rest := []) hown (tw hw 85 rfl) (tw hw 86 rfl) (tw hw 45 rfl) (tw hw 87 rfl) (by decide) (rmP1_0 l Z a0 hw hel b229 k230 c0 (0 : Int32) (0 : Int32) h227 n0 (Nat.le_trans Z0 K232.1) V233 gz236 (X0.keep K232 all0) AD HB LB) (by simp) (by rw [hml]; rfl) pd_9 rfl rfl (hb hby d15_20) rfl (by decide) (ble rfl) (ce' := 1) (sl' := 2) rfl rfl (by decide) (by decide) (fun v237 h238 hQ239 => ?_)
  obtain ⟨rfl, K240, V241⟩ := hQ239
  show Go _ _ _ _ _ _ _ _ _ _ _ _ _ _ _ _ _ _ _ _ 1 2 23 #[.val (.ref a), .val (.int (0 : Int32)), .val (.int (1 : Int32)), .val (.ref b229), .val (.int (0 : Int32))] []
  refine Go.iinc (q := 26) (l' := #[.val (.ref a), .val (.int ((0 : Int32) + (1 : Int32))), .val (.int (1 : Int32)), .val (.ref b229), .val (.int (0 : Int32))]) hx (hb hby d15_23) rfl rfl rfl ?_
  refine Go.iinc (q := 29) (l' := #[.val (.ref a), .val (.int ((0 : Int32) + (1 : Int32))), .val (.int (1 : Int32)), .val (.ref b229), .val (.int ((0 : Int32) + (1 : Int32)))]) hx (hb hby d15_26) rfl rfl rfl ?_
  refine Go.goto (q := 8) hx (hb hby d15_29) (by decide) rfl ?_
  rw [show (0 : Int32) + (1 : Int32) = (1 : Int32) from by decide]
  refine Go.iload (q := 10) hx (hb hby d15_8) rfl rfl ?_
  refine Go.iloadN (q := 11) hx (hb hby d15_10) rfl rfl ?_
  refine Go.icmp_ge (q := 14) (t := 32) hx (hb hby d15_11) (by decide) rfl rfl (fun hc11_1 => ?_) (fun hc11_1 => absurd hc11_1 (by decide))
  refine Go.aloadN (q := 33) hx (hb hby d15_32) rfl (by rfl) rfl ?_
  refine Go.retA hx hret rfl (by rfl) hlk (hb hby d15_33) (by decide) (by decide) ?_
  exact ⟨b229, _, rfl, g231, (Keep.trans (Keep.trans (Keep.refl h0 []) K232 all0) K240 (allS (Or.inr g231) all0)), V241⟩
theorem rmCU1_0 (l : Launch) (Z : State) (a0 : Array Value) (hw : ∀ d ∈ tables_1, d.before a0 Z = true) (hel : EW Z a0 consts_1) (a b : Addr) (ka kb : ClassId) (c0 : Int32) (h0 : Heap) (n0 : Nat) (Z0 : n0 ≤ h0.size) (A : Arv Z h0 a ka .char (1 : Int32) [.int c0] (.int (0 : Int32))) (B : Arv Z h0 b kb .byte (1 : Int32) [(.int (0 : Int32))] (.int (0 : Int32))) (gb : n0 ≤ b) (nab : a ≠ b)  (hk : (255 : Int32) < c0) :
    Met l Z consts_1 [b] (⟨"java/lang/StringUTF16", "compress", "([CI[BII)I"⟩ : MethodName) jdk_52_method_21_code 7 (Option.some FieldType.int) [] ({ frames := 0, cells := 0, slots := 0, locals := 0 } : Room) #[(.ref a), (.int (0 : Int32)), (.ref b), (.int (0 : Int32)), (.int (1 : Int32))] h0 n0 (fun v h => v = some (.int (0 : Int32)) ∧ Keep h0 h [b]) := by
  refine Met.of (Ls0 := #[.val (.ref a), .val (.int (0 : Int32)), .val (.ref b), .val (.int (0 : Int32)), .val (.int (1 : Int32)), .unset, .unset]) pl_3 (by first | (simp [argsToLocals, Value.category]; done) | rfl) hel ?_
  intro p e s m below meth c hx hby hml hret hlk hown hnm hZ
  refine Go.iconst (q := 1) (z := (0 : Int32)) hx (hb hby d8_0) rfl rfl ?_
  refine Go.istore (q := 3) (l' := #[.val (.ref a), .val (.int (0 : Int32)), .val (.ref b), .val (.int (0 : Int32)), .val (.int (1 : Int32)), .val (.int (0 : Int32)), .unset]) hx (hb hby d8_1) rfl rfl ?_
  refine Go.iload (q := 5) hx (hb hby d8_3) rfl rfl ?_
  refine Go.iload (q := 7) hx (hb hby d8_5) rfl rfl ?_
  refine Go.icmp_ge (q := 10) (t := 44) hx (hb hby d8_7) (by decide) rfl rfl (fun hc7 => absurd hc7 (by decide)) (fun hc7 => ?_)
  refine Go.aloadN (q := 11) hx (hb hby d8_10) rfl (by rfl) rfl ?_
  refine Go.iloadN (q := 12) hx (hb hby d8_11) rfl rfl ?_
  refine Go.caload (q := 13) (v := (.int c0)) hx hZ A ⟨by decide, by decide⟩ rfl (hb hby d8_12) rfl ?_
  refine Go.istore (q := 15) (l' := #[.val (.ref a), .val (.int (0 : Int32)), .val (.ref b), .val (.int (0 : Int32)), .val (.int (1 : Int32)), .val (.int (0 : Int32)), .val (.int c0)]) hx (hb hby d8_13) rfl rfl ?_
  refine Go.iload (q := 17) hx (hb hby d8_15) rfl rfl ?_
  refine Go.sipush (q := 20) (z := (255 : Int32)) hx (hb hby d8_17) rfl rfl ?_
  refine Go.icmp_le (q := 23) (t := 26) hx (hb hby d8_20) (by decide) rfl rfl (fun hc20 => absurd hk hc20) (fun hc20 => ?_)
  refine Go.iload (q := 25) hx (hb hby d8_23) rfl rfl ?_
  refine Go.retI hx hret hlk (hb hby d8_25) (by decide) (by decide) ?_
  exact ⟨rfl, (Keep.refl h0 [b])⟩
theorem rmDU1_0 (l : Launch) (Z : State) (a0 : Array Value) (hw : ∀ d ∈ tables_1, d.before a0 Z = true) (hel : EW Z a0 consts_1) (a : Addr) (ka : ClassId) (c0 : Int32) (h0 : Heap) (n0 : Nat) (Z0 : n0 ≤ h0.size) (A : Arv Z h0 a ka .char (1 : Int32) [.int c0] (.int (0 : Int32))) (hq0 : Chr c0)  (hk : (255 : Int32) < c0) (X0 : Old Z n0 h0) (AD : Sta Z Z.heap "java/lang/StringUTF16" "$assertionsDisabled" "Z" (.int (1 : Int32))) (HB : Sta Z Z.heap "java/lang/StringUTF16" "HI_BYTE_SHIFT" "I" (.int (0 : Int32))) (LB : Sta Z Z.heap "java/lang/StringUTF16" "LO_BYTE_SHIFT" "I" (.int (8 : Int32))) :
    Met l Z consts_1 [] (⟨"java/lang/StringUTF16", "compress", "([CII)[B"⟩ : MethodName) jdk_52_method_16_code 6 (Option.some (FieldType.array FieldType.byte)) [] ({ frames := 3, cells := 2, slots := 3, locals := 58 } : Room) #[(.ref a), (.int (0 : Int32)), (.int (1 : Int32))] h0 n0 (fun v h => ∃ b kb, v = some (.ref b) ∧ h0.size ≤ b ∧ Keep h0 h [] ∧ Arv Z h b kb .byte (2 : Int32) [(.int (nar .byte (c0 >>> ((0 : Int32) &&& 31)).toInt8.toInt32)), (.int (nar .byte (c0 >>> ((8 : Int32) &&& 31)).toInt8.toInt32))] (.int (0 : Int32))) := by
  refine Met.of (Ls0 := #[.val (.ref a), .val (.int (0 : Int32)), .val (.int (1 : Int32)), .unset, .unset, .unset]) pl_4 (by first | (simp [argsToLocals, Value.category]; done) | rfl) hel ?_
  intro p e s m below meth c hx hby hml hret hlk hown hnm hZ
  refine Go.iloadN (q := 1) hx (hb hby d7_0) rfl rfl ?_
  refine Go.newP (q := 3) (cap := 1) hx hZ (tw hw 21 rfl) (by decide) (by decide) (hb hby d7_1) rfl (by decide) (ce' := 1) (sl' := 1) rfl rfl (by decide) (by decide) (fun h242 a243 k244 g245 E246 A247 => ?_)
  have ne248 : a ≠ a243 := by rw [g245]; exact Nat.ne_of_lt (A).lt
  have gz249 : n0 ≤ a243 := by rw [g245]; exact Z0
  have gk250 : h0.size ≤ a243 := by rw [g245]; exact (Keep.refl h0 []).1
  have V251 : Arv Z h242 a243 k244 .byte (1 : Int32) [(.int (0 : Int32))] (.int (0 : Int32)) := A247.pad (pad_rep [] (.int (0 : Int32)) 1)
  refine Go.astoreN (q := 4) (l' := #[.val (.ref a), .val (.int (0 : Int32)), .val (.int (1 : Int32)), .val (.ref a243), .unset, .unset]) hx (hb hby d7_3) (by rfl) rfl rfl ?_
  refine Go.aloadN (q := 5) hx (hb hby d7_4) rfl (by rfl) rfl ?_
  refine Go.iloadN (q := 6) hx (hb hby d7_5) rfl rfl ?_
  refine Go.aloadN (q := 7) hx (hb hby d7_6) rfl (by rfl) rfl ?_
  refine Go.iconst (q := 8) (z := (0 : Int32)) hx (hb hby d7_7) rfl rfl ?_
  refine Go.iloadN (q := 9) hx (hb hby d7_8) rfl rfl ?_
  refine Go.callS (q := 12) hx hZ (argsL := [(.ref a), (.int (0 : Int32)), (.ref a243), (.int (0 : Int32)), (.int (1 : Int32))]) (rest := []) hown (tw hw 47 rfl) (tw hw 48 rfl) (tw hw 45 rfl) (tw hw 49 rfl) (by decide) (rmCU1_0 l Z a0 hw hel a a243 ka k244 c0 h242 n0 (Nat.le_trans Z0 E246.1) (A.ext E246) V251 gz249 ne248  hk) (by simp) (by rw [hml]; rfl) pd_4 rfl rfl (hb hby d7_9) rfl (by decide) (ble rfl) (ce' := 1) (sl' := 1) rfl rfl (by decide) (by decide) (fun v252 h253 hQ254 => ?_)
  obtain ⟨rfl, K255⟩ := hQ254
  show Go _ _ _ _ _ _ _ _ _ _ _ _ _ _ _ _ _ _ _ _ 1 1 12 #[.val (.ref a), .val (.int (0 : Int32)), .val (.int (1 : Int32)), .val (.ref a243), .unset, .unset] [(.int (0 : Int32))]
  refine Go.istore (q := 14) (l' := #[.val (.ref a), .val (.int (0 : Int32)), .val (.int (1 : Int32)), .val (.ref a243), .val (.int (0 : Int32)), .unset]) hx (hb hby d7_12) rfl rfl ?_
  refine Go.iload (q := 16) hx (hb hby d7_14) rfl rfl ?_
  refine Go.iloadN (q := 17) hx (hb hby d7_16) rfl rfl ?_
  refine Go.icmp_eq (q := 20) (t := 57) hx (hb hby d7_17) (by decide) rfl rfl (fun hc17 => absurd hc17 (by decide)) (fun hc17 => ?_)
  refine Go.aloadN (q := 21) hx (hb hby d7_20) rfl (by rfl) rfl ?_
  refine Go.iloadN (q := 22) hx (hb hby d7_21) rfl rfl ?_
  refine Go.iloadN (q := 23) hx (hb hby d7_22) rfl rfl ?_
  have gk256 := (Keep.trans ((Keep.refl h0 []).ext E246) K255 (allS (Or.inr gk250) all0)).1
  refine Go.callS (q := 26) hx hZ (argsL := [(.ref a), (.int (0 : Int32)), (.int (1 : Int32))]) (rest := []) hown (tw hw 75 rfl) (tw hw 76 rfl) (tw hw 45 rfl) (tw hw 77 rfl) (by decide) (rmT1 l Z a0 hw hel a ka c0 h253 n0 (Nat.le_trans (Nat.le_trans Z0 E246.1) K255.1) ((A.ext E246).keep K255 (ninS ne248 nin0)) ((X0.ext E246).keep K255 (allS gz249 all0)) AD HB LB) (fun _ hx => nomatch hx) (by rw [hml]; rfl) pd_1 rfl rfl (hb hby d7_23) rfl (by decide) (ble rfl) (ce' := 2) (sl' := 3) rfl rfl (by decide) (by decide) (fun v257 h258 hQ259 => ?_)
  obtain ⟨b260, k261, rfl, g262, K263, V264⟩ := hQ259
  show Go _ _ _ _ _ _ _ _ _ _ _ _ _ _ _ _ _ _ _ _ 2 3 26 #[.val (.ref a), .val (.int (0 : Int32)), .val (.int (1 : Int32)), .val (.ref a243), .val (.int (0 : Int32)), .unset] [(.ref b260)]
  refine Go.astore (q := 28) (l' := #[.val (.ref a), .val (.int (0 : Int32)), .val (.int (1 : Int32)), .val (.ref a243), .val (.int (0 : Int32)), .val (.ref b260)]) hx (hb hby d7_26) (by rfl) rfl rfl ?_
  refine Go.aload (q := 30) hx (hb hby d7_28) rfl (by rfl) rfl ?_
  refine Go.iload (q := 32) hx (hb hby d7_30) rfl rfl ?_
  refine Go.callS (q := 35) hx hZ (argsL := [(.ref b260), (.int (0 : Int32))]) (rest := []) hown (tw hw 91 rfl) (tw hw 92 rfl) (tw hw 45 rfl) (tw hw 93 rfl) (by decide) (rmG1_0 l Z a0 hw hel b260 k261 c0 h258 n0 (Nat.le_trans (Nat.le_trans (Nat.le_trans Z0 E246.1) K255.1) K263.1) V264 hq0 (((X0.ext E246).keep K255 (allS gz249 all0)).keep K263 all0) AD HB LB) (fun _ hx => nomatch hx) (by rw [hml]; rfl) pd_5 rfl rfl (hb hby d7_32) rfl (by decide) (ble rfl) (ce' := 2) (sl' := 3) rfl rfl (by decide) (by decide) (fun v265 h266 hQ267 => ?_)
  obtain ⟨rfl, rfl⟩ := hQ267
  show Go _ _ _ _ _ _ _ _ _ _ _ _ _ _ _ _ _ _ _ _ 2 3 35 #[.val (.ref a), .val (.int (0 : Int32)), .val (.int (1 : Int32)), .val (.ref a243), .val (.int (0 : Int32)), .val (.ref b260)] [(.int c0)]
  refine Go.sipush (q := 38) (z := (255 : Int32)) hx (hb hby d7_35) rfl rfl ?_
  refine Go.icmp_gt (q := 41) (t := 54) hx (hb hby d7_38) (by decide) rfl rfl (fun hc38 => ?_) (fun hc38 => absurd hk hc38)
  refine Go.aload (q := 56) hx (hb hby d7_54) rfl (by rfl) rfl ?_
  refine Go.retA hx hret rfl (by rfl) hlk (hb hby d7_56) (by decide) (by decide) ?_
  exact ⟨b260, _, rfl, (Nat.le_trans gk256 g262), (Keep.trans (Keep.trans ((Keep.refl h0 []).ext E246) K255 (allS (Or.inr gk250) all0)) K263 all0), V264⟩
theorem rmDU1 (l : Launch) (Z : State) (a0 : Array Value) (hw : ∀ d ∈ tables_1, d.before a0 Z = true) (hel : EW Z a0 consts_1) (a : Addr) (ka : ClassId) (c0 : Int32) (h0 : Heap) (n0 : Nat) (Z0 : n0 ≤ h0.size) (A : Arv Z h0 a ka .char (1 : Int32) [.int c0] (.int (0 : Int32))) (hq0 : Chr c0) (hU : ((255 : Int32) < c0)) (X0 : Old Z n0 h0) (AD : Sta Z Z.heap "java/lang/StringUTF16" "$assertionsDisabled" "Z" (.int (1 : Int32))) (HB : Sta Z Z.heap "java/lang/StringUTF16" "HI_BYTE_SHIFT" "I" (.int (0 : Int32))) (LB : Sta Z Z.heap "java/lang/StringUTF16" "LO_BYTE_SHIFT" "I" (.int (8 : Int32))) :
    Met l Z consts_1 [] (⟨"java/lang/StringUTF16", "compress", "([CII)[B"⟩ : MethodName) jdk_52_method_16_code 6 (Option.some (FieldType.array FieldType.byte)) [] ({ frames := 3, cells := 2, slots := 3, locals := 58 } : Room) #[(.ref a), (.int (0 : Int32)), (.int (1 : Int32))] h0 n0 (fun v h => ∃ b kb, v = some (.ref b) ∧ h0.size ≤ b ∧ Keep h0 h [] ∧ Arv Z h b kb .byte (2 : Int32) [(.int (nar .byte (c0 >>> ((0 : Int32) &&& 31)).toInt8.toInt32)), (.int (nar .byte (c0 >>> ((8 : Int32) &&& 31)).toInt8.toInt32))] (.int (0 : Int32))) := by
  have hk := hU
  · exact rmDU1_0 l Z a0 hw hel a ka c0 h0 n0 Z0 A hq0  hk X0 AD HB LB
theorem rmKU1 (l : Launch) (Z : State) (a0 : Array Value) (hw : ∀ d ∈ tables_1, d.before a0 Z = true) (hel : EW Z a0 consts_1) (b : Addr) (kb : ClassId) (vs : List Value) (h0 : Heap) (n0 : Nat) (Z0 : n0 ≤ h0.size) (B : Arv Z h0 b kb .byte (2 : Int32) vs (.int (0 : Int32))) :
    Met l Z consts_1 [] (⟨"java/lang/StringUTF16", "coderFromArrayLen", "([BI)B"⟩ : MethodName) jdk_52_method_15_code 2 (Option.some FieldType.byte) [] ({ frames := 0, cells := 0, slots := 0, locals := 0 } : Room) #[(.ref b), (.int (1 : Int32))] h0 n0 (fun v h => v = some (.int (1 : Int32)) ∧ h0 = h) := by
  refine Met.of (Ls0 := #[.val (.ref b), .val (.int (1 : Int32))]) pl_0 (by first | (simp [argsToLocals, Value.category]; done) | rfl) hel ?_
  intro p e s m below meth c hx hby hml hret hlk hown hnm hZ
  refine Go.iloadN (q := 1) hx (hb hby d9_0) rfl rfl ?_
  refine Go.aloadN (q := 2) hx (hb hby d9_1) rfl (by rfl) rfl ?_
  refine Go.alen (q := 3) hx hZ B (hb hby d9_2) rfl ?_
  refine Go.isub (q := 4) hx (hb hby d9_3) rfl ?_
  refine Go.bipush (q := 6) (z := (31 : Int32)) hx (hb hby d9_4) rfl rfl ?_
  refine Go.iushr (q := 7) hx (hb hby d9_6) rfl ?_
  refine Go.i2b (q := 8) hx (hb hby d9_7) rfl ?_
  refine Go.retN hx (t := .byte) hret (by simp) hlk (hb hby d9_8) (by decide) (by decide) ?_
  exact ⟨congrArg (fun z => some (Value.int z)) (by decide), rfl⟩
theorem rmSU1 (l : Launch) (Z : State) (a0 : Array Value) (hw : ∀ d ∈ tables_1, d.before a0 Z = true) (hel : EW Z a0 consts_1) (sa a : Addr) (ka : ClassId) (cst : Int32) (c0 : Int32) (h0 : Heap) (n0 : Nat) (Z0 : n0 ≤ h0.size) (gs : n0 ≤ sa) (nas : a ≠ sa) (E : Exa Z h0 sa "java/lang/String") (F1 : Fld Z h0 sa "java/lang/String" "value" "[B" .null) (F2 : Fld Z h0 sa "java/lang/String" "coder" "B" (.int (0 : Int32))) (A : Arv Z h0 a ka .char (1 : Int32) [.int c0] (.int (0 : Int32))) (hq0 : Chr c0) (hU : ((255 : Int32) < c0)) (X0 : Old Z n0 h0) (SC : Sta Z Z.heap "java/lang/String" "COMPACT_STRINGS" "Z" (.int cst)) (hcs : ¬ cst = (0 : Int32)) (AD : Sta Z Z.heap "java/lang/StringUTF16" "$assertionsDisabled" "Z" (.int (1 : Int32))) (HB : Sta Z Z.heap "java/lang/StringUTF16" "HI_BYTE_SHIFT" "I" (.int (0 : Int32))) (LB : Sta Z Z.heap "java/lang/StringUTF16" "LO_BYTE_SHIFT" "I" (.int (8 : Int32))) :
    Met l Z consts_1 [sa] (⟨"java/lang/String", "<init>", "([CIILjava/lang/Void;)V"⟩ : MethodName) jdk_42_method_149_code 6 (Option.none : Option FieldType) [] ({ frames := 4, cells := 2, slots := 3, locals := 81 } : Room) #[(.ref sa), (.ref a), (.int (0 : Int32)), (.int (1 : Int32)), .null] h0 n0 (fun v h => v = none ∧ Keep h0 h [sa] ∧ ∃ b kb, h0.size ≤ b ∧ Fld Z h sa "java/lang/String" "value" "[B" (.ref b) ∧ Fld Z h sa "java/lang/String" "coder" "B" (.int (1 : Int32)) ∧ Arv Z h b kb .byte (2 : Int32) [(.int (nar .byte (c0 >>> ((0 : Int32) &&& 31)).toInt8.toInt32)), (.int (nar .byte (c0 >>> ((8 : Int32) &&& 31)).toInt8.toInt32))] (.int (0 : Int32))) := by
  refine Met.of (Ls0 := #[.val (.ref sa), .val (.ref a), .val (.int (0 : Int32)), .val (.int (1 : Int32)), .val .null, .unset]) pl_1 (by first | (simp [argsToLocals, Value.category]; done) | rfl) hel ?_
  have hSA : ∀ d ∈ Bundle.stringAtoms, d.before a0 Z = true := fun d hd => hw d ((by decide +kernel : ∀ d ∈ Bundle.stringAtoms, d ∈ tables_1) d hd)
  intro p e s m below meth c hx hby hml hret hlk hown hnm hZ
  refine Go.aloadN (q := 1) hx (hb hby d2_0) rfl (by rfl) rfl ?_
  refine Go.initO (q := 4) hx hZ hown (tw hw 17 rfl) (tw hw 18 rfl) (tw hw 19 rfl) (by rw [hml]; rfl) (hb hby d2_1) rfl (by decide) (ble rfl) ?_
  refine Go.iloadN (q := 5) hx (hb hby d2_4) rfl rfl ?_
  refine Go.if_ne (q := 8) (t := 27) hx (hb hby d2_5) (by decide) rfl rfl (fun hc5 => ?_) (fun hc5 => absurd hc5 (by decide))
  refine Go.getS (q := 30) hx hZ hown (host := "") (Or.inl (tw hw 42 rfl)) Via.refl (Sta.ext X0.2 SC) (hb hby d2_27) rfl ?_
  refine Go.if_eq (q := 33) (t := 58) hx (hb hby d2_30) (by decide) rfl rfl (fun hc30 => absurd hc30 hcs) (fun hc30 => ?_)
  refine Go.aloadN (q := 34) hx (hb hby d2_33) rfl (by rfl) rfl ?_
  refine Go.iloadN (q := 35) hx (hb hby d2_34) rfl rfl ?_
  refine Go.iloadN (q := 36) hx (hb hby d2_35) rfl rfl ?_
  refine Go.callS (q := 39) hx hZ (argsL := [(.ref a), (.int (0 : Int32)), (.int (1 : Int32))]) (rest := []) hown (tw hw 43 rfl) (tw hw 44 rfl) (tw hw 45 rfl) (tw hw 46 rfl) (by decide) (rmDU1 l Z a0 hw hel a ka c0 h0 n0 Z0 A hq0 hU X0 AD HB LB) (fun _ hx => nomatch hx) (by rw [hml]; rfl) pd_1 rfl rfl (hb hby d2_36) rfl (by decide) (ble rfl) (ce' := 2) (sl' := 3) rfl rfl (by decide) (by decide) (fun v268 h269 hQ270 => ?_)
  have lt276 := (E).lt
  obtain ⟨b271, k272, rfl, g273, K274, V275⟩ := hQ270
  have ne277 : sa ≠ b271 := Nat.ne_of_lt (Nat.lt_of_lt_of_le lt276 g273)
  show Go _ _ _ _ _ _ _ _ _ _ _ _ _ _ _ _ _ _ _ _ 2 3 39 #[.val (.ref sa), .val (.ref a), .val (.int (0 : Int32)), .val (.int (1 : Int32)), .val .null, .unset] [(.ref b271)]
  refine Go.astore (q := 41) (l' := #[.val (.ref sa), .val (.ref a), .val (.int (0 : Int32)), .val (.int (1 : Int32)), .val .null, .val (.ref b271)]) hx (hb hby d2_39) (by rfl) rfl rfl ?_
  refine Go.aloadN (q := 42) hx (hb hby d2_41) rfl (by rfl) rfl ?_
  refine Go.aload (q := 44) hx (hb hby d2_42) rfl (by rfl) rfl ?_
  refine Go.iloadN (q := 45) hx (hb hby d2_44) rfl rfl ?_
  refine Go.callS (q := 48) hx hZ (argsL := [(.ref b271), (.int (1 : Int32))]) (rest := [(.ref sa)]) hown (tw hw 50 rfl) (tw hw 51 rfl) (tw hw 45 rfl) (tw hw 52 rfl) (by decide) (rmKU1 l Z a0 hw hel b271 k272 _ h269 n0 (Nat.le_trans Z0 K274.1) V275) (fun _ hx => nomatch hx) (by rw [hml]; rfl) pd_2 rfl rfl (hb hby d2_45) rfl (by decide) (ble rfl) (ce' := 2) (sl' := 3) rfl rfl (by decide) (by decide) (fun v278 h279 hQ280 => ?_)
  obtain ⟨rfl, rfl⟩ := hQ280
  show Go _ _ _ _ _ _ _ _ _ _ _ _ _ _ _ _ _ _ _ _ 2 3 48 #[.val (.ref sa), .val (.ref a), .val (.int (0 : Int32)), .val (.int (1 : Int32)), .val .null, .val (.ref b271)] [(.int (1 : Int32)), (.ref sa)]
  refine Go.putF (q := 51) hx hZ hown (host := "") (Or.inl (tw hw 27 rfl)) Via.refl (F2.keep K274 nin0) (E.keep K274) (Or.inr ⟨(tw hw 23 rfl), rfl, hnm⟩) (tw hw 7 rfl) (ty := .byte) (by decide) rfl rfl gs (by simp) (hb hby d2_48) rfl (fun h281 W282 => ?_)
  refine Go.aloadN (q := 52) hx (hb hby d2_51) rfl (by rfl) rfl ?_
  refine Go.aload (q := 54) hx (hb hby d2_52) rfl (by rfl) rfl ?_
  refine Go.putF (q := 57) hx hZ hown (host := "") (Or.inl (tw hw 26 rfl)) Via.refl (Fld.other W282 (F1.keep K274 nin0) (Or.inr (slot_ne (C := "java/lang/String") (Or.inr (tw hw 22 rfl)) (Or.inr (tw hw 23 rfl)) (by decide) (by decide : _ = some (.array .byte)) (by decide : _ = some .byte)))) (Exa.wr W282 (E.keep K274)) (Or.inr ⟨(tw hw 22 rfl), rfl, hnm⟩) (tw hw 7 rfl) (ty := (.array .byte)) (by decide) rfl rfl gs (by simp) (hb hby d2_54) rfl (fun h283 W284 => ?_)
  refine Go.ret0 hx hret hlk (hb hby d2_57) (by decide) (by decide) ?_
  exact ⟨rfl, (((Keep.trans (Keep.refl h0 [sa]) K274 all0).wr W282 (Or.inl (by simp))).wr W284 (Or.inl (by simp))), b271, k272, g273, (Fld.same W284 (Fld.other W282 (F1.keep K274 nin0) (Or.inr (slot_ne (C := "java/lang/String") (Or.inr (tw hw 22 rfl)) (Or.inr (tw hw 23 rfl)) (by decide) (by decide : _ = some (.array .byte)) (by decide : _ = some .byte))))), (Fld.other W284 (Fld.same W282 (F2.keep K274 nin0)) (Or.inr (slot_ne (C := "java/lang/String") (Or.inr (tw hw 23 rfl)) (Or.inr (tw hw 22 rfl)) (by decide) (by decide : _ = some .byte) (by decide : _ = some (.array .byte))))), ((V275.other W282 ne277.symm).other W284 ne277.symm)⟩
theorem rmIU1 (l : Launch) (Z : State) (a0 : Array Value) (hw : ∀ d ∈ tables_1, d.before a0 Z = true) (hel : EW Z a0 consts_1) (sa a : Addr) (ka : ClassId) (cst : Int32) (c0 : Int32) (h0 : Heap) (n0 : Nat) (Z0 : n0 ≤ h0.size) (gs : n0 ≤ sa) (nas : a ≠ sa) (E : Exa Z h0 sa "java/lang/String") (F1 : Fld Z h0 sa "java/lang/String" "value" "[B" .null) (F2 : Fld Z h0 sa "java/lang/String" "coder" "B" (.int (0 : Int32))) (A : Arv Z h0 a ka .char (1 : Int32) [.int c0] (.int (0 : Int32))) (hq0 : Chr c0) (hU : ((255 : Int32) < c0)) (X0 : Old Z n0 h0) (SC : Sta Z Z.heap "java/lang/String" "COMPACT_STRINGS" "Z" (.int cst)) (hcs : ¬ cst = (0 : Int32)) (AD : Sta Z Z.heap "java/lang/StringUTF16" "$assertionsDisabled" "Z" (.int (1 : Int32))) (HB : Sta Z Z.heap "java/lang/StringUTF16" "HI_BYTE_SHIFT" "I" (.int (0 : Int32))) (LB : Sta Z Z.heap "java/lang/StringUTF16" "LO_BYTE_SHIFT" "I" (.int (8 : Int32))) :
    Met l Z consts_1 [sa] (⟨"java/lang/String", "<init>", "([C)V"⟩ : MethodName) jdk_42_method_3_code 2 (Option.none : Option FieldType) [] ({ frames := 5, cells := 2, slots := 3, locals := 104 } : Room) #[(.ref sa), (.ref a)] h0 n0 (fun v h => v = none ∧ Keep h0 h [sa] ∧ ∃ b kb, h0.size ≤ b ∧ Fld Z h sa "java/lang/String" "value" "[B" (.ref b) ∧ Fld Z h sa "java/lang/String" "coder" "B" (.int (1 : Int32)) ∧ Arv Z h b kb .byte (2 : Int32) [(.int (nar .byte (c0 >>> ((0 : Int32) &&& 31)).toInt8.toInt32)), (.int (nar .byte (c0 >>> ((8 : Int32) &&& 31)).toInt8.toInt32))] (.int (0 : Int32))) := by
  refine Met.of (Ls0 := #[.val (.ref sa), .val (.ref a)]) pl_2 (by first | (simp [argsToLocals, Value.category]; done) | rfl) hel ?_
  intro p e s m below meth c hx hby hml hret hlk hown hnm hZ
  refine Go.aloadN (q := 1) hx (hb hby d1_0) rfl (by rfl) rfl ?_
  refine Go.aloadN (q := 2) hx (hb hby d1_1) rfl (by rfl) rfl ?_
  refine Go.iconst (q := 3) (z := (0 : Int32)) hx (hb hby d1_2) rfl rfl ?_
  refine Go.aloadN (q := 4) hx (hb hby d1_3) rfl (by rfl) rfl ?_
  refine Go.alen (q := 5) hx hZ A (hb hby d1_4) rfl ?_
  refine Go.aconstNull (q := 6) hx (hb hby d1_5) rfl ?_
  refine Go.callI (q := 9) hx hZ (a := sa) (argsL := [(.ref a), (.int (0 : Int32)), (.int (1 : Int32)), .null]) (rest := []) hown rfl (tw hw 13 rfl) (tw hw 14 rfl) (tw hw 8 rfl) (tw hw 16 rfl) (by decide) (rmSU1 l Z a0 hw hel sa a ka cst c0 h0 n0 Z0 gs nas E F1 F2 A hq0 hU X0 SC hcs AD HB LB) (by simp) (by rw [hml]; rfl) pd_3 rfl rfl (hb hby d1_6) rfl (by decide) (ble rfl) (ce' := 2) (sl' := 3) rfl rfl (by decide) (by decide) (fun v285 h286 hQ287 => ?_)
  obtain ⟨rfl, K288, Y289⟩ := hQ287
  show Go _ _ _ _ _ _ _ _ _ _ _ _ _ _ _ _ _ _ _ _ 2 3 9 #[.val (.ref sa), .val (.ref a)] []
  refine Go.ret0 hx hret hlk (hb hby d1_9) (by decide) (by decide) ?_
  exact ⟨rfl, (Keep.trans (Keep.refl h0 [sa]) K288 (allS (Or.inl (by simp)) all0)), Y289⟩
theorem lu1 (c0 : Int32) : (¬ (255 : Int32) < c0) ∨ (((255 : Int32) < c0)) := if h0 : (255 : Int32) < c0 then Or.inr h0 else Or.inl h0
theorem rmNL2 (l : Launch) (Z : State) (a0 : Array Value) (hw : ∀ d ∈ tables_1, d.before a0 Z = true) (hel : EW Z a0 consts_1)  (h0 : Heap) (n0 : Nat) (Z0 : n0 ≤ h0.size)  :
    Met l Z consts_1 [] (⟨"java/lang/StringUTF16", "newBytesLength", "(I)I"⟩ : MethodName) jdk_52_method_3_code 1 (Option.some FieldType.int) [] ({ frames := 0, cells := 0, slots := 0, locals := 0 } : Room) #[(.int (2 : Int32))] h0 n0 (fun v h => v = some (.int (4 : Int32)) ∧ h0 = h) := by
  refine Met.of (Ls0 := #[.val (.int (2 : Int32))]) pl_5 (by first | (simp [argsToLocals, Value.category]; done) | rfl) hel ?_
  have hSA : ∀ d ∈ Bundle.stringAtoms, d.before a0 Z = true := fun d hd => hw d ((by decide +kernel : ∀ d ∈ Bundle.stringAtoms, d ∈ tables_1) d hd)
  intro p e s m below meth c hx hby hml hret hlk hown hnm hZ
  refine Go.iloadN (q := 1) hx (hb hby d17_0) rfl rfl ?_
  refine Go.if_ge (q := 4) (t := 12) hx (hb hby d17_1) (by decide) rfl rfl (fun hc1 => ?_) (fun hc1 => absurd hc1 (by decide))
  refine Go.iloadN (q := 13) hx (hb hby d17_12) rfl rfl ?_
  refine Go.ldcInt (q := 15) hx hZ hown (tw hw 84 rfl) (hb hby d17_13) rfl ?_
  refine Go.icmp_lt (q := 18) (t := 55) hx (hb hby d17_15) (by decide) rfl rfl (fun hc15 => ?_) (fun hc15 => absurd hc15 (by decide))
  refine Go.iloadN (q := 56) hx (hb hby d17_55) rfl rfl ?_
  refine Go.iconst (q := 57) (z := (1 : Int32)) hx (hb hby d17_56) rfl rfl ?_
  refine Go.ishl (q := 58) hx (hb hby d17_57) rfl ?_
  rw [show (2 : Int32) <<< ((1 : Int32) &&& 31) = (4 : Int32) from by decide]
  refine Go.retI hx hret hlk (hb hby d17_58) (by decide) (by decide) ?_
  exact ⟨rfl, rfl⟩
theorem rmNB2 (l : Launch) (Z : State) (a0 : Array Value) (hw : ∀ d ∈ tables_1, d.before a0 Z = true) (hel : EW Z a0 consts_1)  (h0 : Heap) (n0 : Nat) (Z0 : n0 ≤ h0.size)  :
    Met l Z consts_1 [] (⟨"java/lang/StringUTF16", "newBytesFor", "(I)[B"⟩ : MethodName) jdk_52_method_2_code 1 (Option.some (FieldType.array FieldType.byte)) [] ({ frames := 1, cells := 1, slots := 4, locals := 18 } : Room) #[(.int (2 : Int32))] h0 n0 (fun v h => ∃ b kb, v = some (.ref b) ∧ h0.size ≤ b ∧ Keep h0 h [] ∧ Arv Z h b kb .byte (4 : Int32) [(.int (0 : Int32)), (.int (0 : Int32)), (.int (0 : Int32)), (.int (0 : Int32))] (.int (0 : Int32))) := by
  refine Met.of (Ls0 := #[.val (.int (2 : Int32))]) pl_6 (by first | (simp [argsToLocals, Value.category]; done) | rfl) hel ?_
  intro p e s m below meth c hx hby hml hret hlk hown hnm hZ
  refine Go.iloadN (q := 1) hx (hb hby d16_0) rfl rfl ?_
  refine Go.callS (q := 4) hx hZ (argsL := [(.int (2 : Int32))]) (rest := []) hown (tw hw 81 rfl) (tw hw 82 rfl) (tw hw 45 rfl) (tw hw 83 rfl) (by decide) (rmNL2 l Z a0 hw hel h0 n0 Z0) (fun _ hx => nomatch hx) (by rw [hml]; rfl) pd_6 rfl rfl (hb hby d16_1) rfl (by decide) (ble rfl) (ce' := 0) (sl' := 0) rfl rfl (by decide) (by decide) (fun v290 h291 hQ292 => ?_)
  obtain ⟨rfl, rfl⟩ := hQ292
  show Go _ _ _ _ _ _ _ _ _ _ _ _ _ _ _ _ _ _ _ _ 0 0 4 #[.val (.int (2 : Int32))] [(.int (4 : Int32))]
  refine Go.newP (q := 6) (cap := 4) hx hZ (tw hw 21 rfl) (by decide) (by decide) (hb hby d16_4) rfl (by decide) (ce' := 1) (sl' := 4) rfl rfl (by decide) (by decide) (fun h293 a294 k295 g296 E297 A298 => ?_)
  have gz299 : n0 ≤ a294 := by rw [g296]; exact Z0
  have gk300 : h0.size ≤ a294 := by rw [g296]; exact (Keep.refl h0 []).1
  have V301 : Arv Z h293 a294 k295 .byte (4 : Int32) [(.int (0 : Int32)), (.int (0 : Int32)), (.int (0 : Int32)), (.int (0 : Int32))] (.int (0 : Int32)) := A298.pad (pad_rep [] (.int (0 : Int32)) 4)
  refine Go.retA hx hret rfl (by rfl) hlk (hb hby d16_6) (by decide) (by decide) ?_
  exact ⟨a294, _, rfl, gk300, ((Keep.refl h0 []).ext E297), V301⟩
theorem rmP2_0 (l : Launch) (Z : State) (a0 : Array Value) (hw : ∀ d ∈ tables_1, d.before a0 Z = true) (hel : EW Z a0 consts_1) (b : Addr) (kb : ClassId) (x d0 d1 d2 d3 : Int32) (h0 : Heap) (n0 : Nat) (Z0 : n0 ≤ h0.size) (B : Arv Z h0 b kb .byte (4 : Int32) [(.int d0), (.int d1), (.int d2), (.int d3)] (.int (0 : Int32))) (gb : n0 ≤ b) (X0 : Old Z n0 h0) (AD : Sta Z Z.heap "java/lang/StringUTF16" "$assertionsDisabled" "Z" (.int (1 : Int32))) (HB : Sta Z Z.heap "java/lang/StringUTF16" "HI_BYTE_SHIFT" "I" (.int (0 : Int32))) (LB : Sta Z Z.heap "java/lang/StringUTF16" "LO_BYTE_SHIFT" "I" (.int (8 : Int32))) :
    Met l Z consts_1 [b] (⟨"java/lang/StringUTF16", "putChar", "([BII)V"⟩ : MethodName) jdk_52_method_4_code 3 (Option.none : Option FieldType) [] ({ frames := 0, cells := 0, slots := 0, locals := 0 } : Room) #[(.ref b), (.int (0 : Int32)), (.int x)] h0 n0 (fun v h => v = none ∧ Keep h0 h [b] ∧ Arv Z h b kb .byte (4 : Int32) [(.int (nar .byte (x >>> ((0 : Int32) &&& 31)).toInt8.toInt32)), (.int (nar .byte (x >>> ((8 : Int32) &&& 31)).toInt8.toInt32)), (.int d2), (.int d3)] (.int (0 : Int32))) := by
  refine Met.of (Ls0 := #[.val (.ref b), .val (.int (0 : Int32)), .val (.int x)]) pl_7 (by first | (simp [argsToLocals, Value.category]; done) | rfl) hel ?_
  have hSA : ∀ d ∈ Bundle.stringAtoms, d.before a0 Z = true := fun d hd => hw d ((by decide +kernel : ∀ d ∈ Bundle.stringAtoms, d ∈ tables_1) d hd)
  intro p e s m below meth c hx hby hml hret hlk hown hnm hZ
  refine Go.getS (q := 3) hx hZ hown (host := "") (Or.inl (tw hw 88 rfl)) Via.refl (Sta.ext X0.2 AD) (hb hby d18_0) rfl ?_
  refine Go.if_ne (q := 6) (t := 28) hx (hb hby d18_3) (by decide) rfl rfl (fun hc3 => ?_) (fun hc3 => absurd hc3 (by decide))
  refine Go.iloadN (q := 29) hx (hb hby d18_28) rfl rfl ?_
  refine Go.iconst (q := 30) (z := (1 : Int32)) hx (hb hby d18_29) rfl rfl ?_
  refine Go.ishl (q := 31) hx (hb hby d18_30) rfl ?_
  rw [show (0 : Int32) <<< ((1 : Int32) &&& 31) = (0 : Int32) from by decide]
  refine Go.istoreN (q := 32) (l' := #[.val (.ref b), .val (.int (0 : Int32)), .val (.int x)]) hx (hb hby d18_31) rfl rfl ?_
  refine Go.aloadN (q := 33) hx (hb hby d18_32) rfl (by rfl) rfl ?_
  refine Go.iloadN (q := 34) hx (hb hby d18_33) rfl rfl ?_
  refine Go.iinc (q := 37) (l' := #[.val (.ref b), .val (.int ((0 : Int32) + (1 : Int32))), .val (.int x)]) hx (hb hby d18_34) rfl rfl rfl ?_
  refine Go.iloadN (q := 38) hx (hb hby d18_37) rfl rfl ?_
  refine Go.getS (q := 41) hx hZ hown (host := "") (Or.inl (tw hw 89 rfl)) Via.refl (Sta.ext X0.2 HB) (hb hby d18_38) rfl ?_
  refine Go.ishr (q := 42) hx (hb hby d18_41) rfl ?_
  refine Go.i2b (q := 43) hx (hb hby d18_42) rfl ?_
  refine Go.bastore (q := 44) hx hZ B ⟨by decide, by decide⟩ 0 rfl (ble rfl) gb (by simp) (hb hby d18_43) rfl (fun h302 W303 V304 => ?_)
  refine Go.aloadN (q := 45) hx (hb hby d18_44) rfl (by rfl) rfl ?_
  refine Go.iloadN (q := 46) hx (hb hby d18_45) rfl rfl ?_
  refine Go.iloadN (q := 47) hx (hb hby d18_46) rfl rfl ?_
  refine Go.getS (q := 50) hx hZ hown (host := "") (Or.inl (tw hw 90 rfl)) Via.refl (Sta.ext (X0.wr W303 gb).2 LB) (hb hby d18_47) rfl ?_
  refine Go.ishr (q := 51) hx (hb hby d18_50) rfl ?_
  refine Go.i2b (q := 52) hx (hb hby d18_51) rfl ?_
  refine Go.bastore (q := 53) hx hZ V304 ⟨by decide, by decide⟩ 1 rfl (ble rfl) gb (by simp) (hb hby d18_52) rfl (fun h305 W306 V307 => ?_)
  refine Go.ret0 hx hret hlk (hb hby d18_53) (by decide) (by decide) ?_
  exact ⟨rfl, (((Keep.refl h0 [b]).wr W303 (Or.inl (by simp))).wr W306 (Or.inl (by simp))), V307⟩
theorem rmG2_0 (l : Launch) (Z : State) (a0 : Array Value) (hw : ∀ d ∈ tables_1, d.before a0 Z = true) (hel : EW Z a0 consts_1) (b : Addr) (kb : ClassId) (c0 c1 : Int32) (h0 : Heap) (n0 : Nat) (Z0 : n0 ≤ h0.size) (B : Arv Z h0 b kb .byte (4 : Int32) [(.int (nar .byte (c0 >>> ((0 : Int32) &&& 31)).toInt8.toInt32)), (.int (nar .byte (c0 >>> ((8 : Int32) &&& 31)).toInt8.toInt32)), (.int (nar .byte (c1 >>> ((0 : Int32) &&& 31)).toInt8.toInt32)), (.int (nar .byte (c1 >>> ((8 : Int32) &&& 31)).toInt8.toInt32))] (.int (0 : Int32))) (hq0 : Chr c0) (X0 : Old Z n0 h0) (AD : Sta Z Z.heap "java/lang/StringUTF16" "$assertionsDisabled" "Z" (.int (1 : Int32))) (HB : Sta Z Z.heap "java/lang/StringUTF16" "HI_BYTE_SHIFT" "I" (.int (0 : Int32))) (LB : Sta Z Z.heap "java/lang/StringUTF16" "LO_BYTE_SHIFT" "I" (.int (8 : Int32))) :
    Met l Z consts_1 [] (⟨"java/lang/StringUTF16", "getChar", "([BI)C"⟩ : MethodName) jdk_52_method_5_code 2 (Option.some FieldType.char) [] ({ frames := 0, cells := 0, slots := 0, locals := 0 } : Room) #[(.ref b), (.int (0 : Int32))] h0 n0 (fun v h => v = some (.int c0) ∧ h0 = h) := by
  refine Met.of (Ls0 := #[.val (.ref b), .val (.int (0 : Int32))]) pl_8 (by first | (simp [argsToLocals, Value.category]; done) | rfl) hel ?_
  have hSA : ∀ d ∈ Bundle.stringAtoms, d.before a0 Z = true := fun d hd => hw d ((by decide +kernel : ∀ d ∈ Bundle.stringAtoms, d ∈ tables_1) d hd)
  intro p e s m below meth c hx hby hml hret hlk hown hnm hZ
  refine Go.getS (q := 3) hx hZ hown (host := "") (Or.inl (tw hw 88 rfl)) Via.refl (Sta.ext X0.2 AD) (hb hby d19_0) rfl ?_
  refine Go.if_ne (q := 6) (t := 28) hx (hb hby d19_3) (by decide) rfl rfl (fun hc3 => ?_) (fun hc3 => absurd hc3 (by decide))
  refine Go.iloadN (q := 29) hx (hb hby d19_28) rfl rfl ?_
  refine Go.iconst (q := 30) (z := (1 : Int32)) hx (hb hby d19_29) rfl rfl ?_
  refine Go.ishl (q := 31) hx (hb hby d19_30) rfl ?_
  rw [show (0 : Int32) <<< ((1 : Int32) &&& 31) = (0 : Int32) from by decide]
  refine Go.istoreN (q := 32) (l' := #[.val (.ref b), .val (.int (0 : Int32))]) hx (hb hby d19_31) rfl rfl ?_
  refine Go.aloadN (q := 33) hx (hb hby d19_32) rfl (by rfl) rfl ?_
  refine Go.iloadN (q := 34) hx (hb hby d19_33) rfl rfl ?_
  refine Go.iinc (q := 37) (l' := #[.val (.ref b), .val (.int ((0 : Int32) + (1 : Int32)))]) hx (hb hby d19_34) rfl rfl rfl ?_
  refine Go.baload (q := 38) (v := (.int (nar .byte (c0 >>> ((0 : Int32) &&& 31)).toInt8.toInt32))) hx hZ B ⟨by decide, by decide⟩ rfl (hb hby d19_37) rfl ?_
  refine Go.sipush (q := 41) (z := (255 : Int32)) hx (hb hby d19_38) rfl rfl ?_
  refine Go.iand (q := 42) hx (hb hby d19_41) rfl ?_
  refine Go.getS (q := 45) hx hZ hown (host := "") (Or.inl (tw hw 89 rfl)) Via.refl (Sta.ext X0.2 HB) (hb hby d19_42) rfl ?_
  refine Go.ishl (q := 46) hx (hb hby d19_45) rfl ?_
  refine Go.aloadN (q := 47) hx (hb hby d19_46) rfl (by rfl) rfl ?_
  refine Go.iloadN (q := 48) hx (hb hby d19_47) rfl rfl ?_
  refine Go.baload (q := 49) (v := (.int (nar .byte (c0 >>> ((8 : Int32) &&& 31)).toInt8.toInt32))) hx hZ B ⟨by decide, by decide⟩ rfl (hb hby d19_48) rfl ?_
  refine Go.sipush (q := 52) (z := (255 : Int32)) hx (hb hby d19_49) rfl rfl ?_
  refine Go.iand (q := 53) hx (hb hby d19_52) rfl ?_
  refine Go.getS (q := 56) hx hZ hown (host := "") (Or.inl (tw hw 90 rfl)) Via.refl (Sta.ext X0.2 LB) (hb hby d19_53) rfl ?_
  refine Go.ishl (q := 57) hx (hb hby d19_56) rfl ?_
  refine Go.ior (q := 58) hx (hb hby d19_57) rfl ?_
  refine Go.i2c (q := 59) hx (hb hby d19_58) rfl ?_
  refine Go.retN hx (t := .char) hret (by simp) hlk (hb hby d19_59) (by decide) (by decide) ?_
  exact ⟨congrArg (fun z => some (Value.int z)) (utf_ok hq0), rfl⟩
theorem rmP2_1 (l : Launch) (Z : State) (a0 : Array Value) (hw : ∀ d ∈ tables_1, d.before a0 Z = true) (hel : EW Z a0 consts_1) (b : Addr) (kb : ClassId) (x d0 d1 d2 d3 : Int32) (h0 : Heap) (n0 : Nat) (Z0 : n0 ≤ h0.size) (B : Arv Z h0 b kb .byte (4 : Int32) [(.int d0), (.int d1), (.int d2), (.int d3)] (.int (0 : Int32))) (gb : n0 ≤ b) (X0 : Old Z n0 h0) (AD : Sta Z Z.heap "java/lang/StringUTF16" "$assertionsDisabled" "Z" (.int (1 : Int32))) (HB : Sta Z Z.heap "java/lang/StringUTF16" "HI_BYTE_SHIFT" "I" (.int (0 : Int32))) (LB : Sta Z Z.heap "java/lang/StringUTF16" "LO_BYTE_SHIFT" "I" (.int (8 : Int32))) :
    Met l Z consts_1 [b] (⟨"java/lang/StringUTF16", "putChar", "([BII)V"⟩ : MethodName) jdk_52_method_4_code 3 (Option.none : Option FieldType) [] ({ frames := 0, cells := 0, slots := 0, locals := 0 } : Room) #[(.ref b), (.int (1 : Int32)), (.int x)] h0 n0 (fun v h => v = none ∧ Keep h0 h [b] ∧ Arv Z h b kb .byte (4 : Int32) [(.int d0), (.int d1), (.int (nar .byte (x >>> ((0 : Int32) &&& 31)).toInt8.toInt32)), (.int (nar .byte (x >>> ((8 : Int32) &&& 31)).toInt8.toInt32))] (.int (0 : Int32))) := by
  refine Met.of (Ls0 := #[.val (.ref b), .val (.int (1 : Int32)), .val (.int x)]) pl_7 (by first | (simp [argsToLocals, Value.category]; done) | rfl) hel ?_
  have hSA : ∀ d ∈ Bundle.stringAtoms, d.before a0 Z = true := fun d hd => hw d ((by decide +kernel : ∀ d ∈ Bundle.stringAtoms, d ∈ tables_1) d hd)
  intro p e s m below meth c hx hby hml hret hlk hown hnm hZ
  refine Go.getS (q := 3) hx hZ hown (host := "") (Or.inl (tw hw 88 rfl)) Via.refl (Sta.ext X0.2 AD) (hb hby d18_0) rfl ?_
  refine Go.if_ne (q := 6) (t := 28) hx (hb hby d18_3) (by decide) rfl rfl (fun hc3 => ?_) (fun hc3 => absurd hc3 (by decide))
  refine Go.iloadN (q := 29) hx (hb hby d18_28) rfl rfl ?_
  refine Go.iconst (q := 30) (z := (1 : Int32)) hx (hb hby d18_29) rfl rfl ?_
  refine Go.ishl (q := 31) hx (hb hby d18_30) rfl ?_
  rw [show (1 : Int32) <<< ((1 : Int32) &&& 31) = (2 : Int32) from by decide]
  refine Go.istoreN (q := 32) (l' := #[.val (.ref b), .val (.int (2 : Int32)), .val (.int x)]) hx (hb hby d18_31) rfl rfl ?_
  refine Go.aloadN (q := 33) hx (hb hby d18_32) rfl (by rfl) rfl ?_
  refine Go.iloadN (q := 34) hx (hb hby d18_33) rfl rfl ?_
  refine Go.iinc (q := 37) (l' := #[.val (.ref b), .val (.int ((2 : Int32) + (1 : Int32))), .val (.int x)]) hx (hb hby d18_34) rfl rfl rfl ?_
  refine Go.iloadN (q := 38) hx (hb hby d18_37) rfl rfl ?_
  refine Go.getS (q := 41) hx hZ hown (host := "") (Or.inl (tw hw 89 rfl)) Via.refl (Sta.ext X0.2 HB) (hb hby d18_38) rfl ?_
  refine Go.ishr (q := 42) hx (hb hby d18_41) rfl ?_
  refine Go.i2b (q := 43) hx (hb hby d18_42) rfl ?_
  refine Go.bastore (q := 44) hx hZ B ⟨by decide, by decide⟩ 2 rfl (ble rfl) gb (by simp) (hb hby d18_43) rfl (fun h308 W309 V310 => ?_)
  refine Go.aloadN (q := 45) hx (hb hby d18_44) rfl (by rfl) rfl ?_
  refine Go.iloadN (q := 46) hx (hb hby d18_45) rfl rfl ?_
  refine Go.iloadN (q := 47) hx (hb hby d18_46) rfl rfl ?_
  refine Go.getS (q := 50) hx hZ hown (host := "") (Or.inl (tw hw 90 rfl)) Via.refl (Sta.ext (X0.wr W309 gb).2 LB) (hb hby d18_47) rfl ?_
  refine Go.ishr (q := 51) hx (hb hby d18_50) rfl ?_
  refine Go.i2b (q := 52) hx (hb hby d18_51) rfl ?_
  refine Go.bastore (q := 53) hx hZ V310 ⟨by decide, by decide⟩ 3 rfl (ble rfl) gb (by simp) (hb hby d18_52) rfl (fun h311 W312 V313 => ?_)
  refine Go.ret0 hx hret hlk (hb hby d18_53) (by decide) (by decide) ?_
  exact ⟨rfl, (((Keep.refl h0 [b]).wr W309 (Or.inl (by simp))).wr W312 (Or.inl (by simp))), V313⟩
theorem rmG2_1 (l : Launch) (Z : State) (a0 : Array Value) (hw : ∀ d ∈ tables_1, d.before a0 Z = true) (hel : EW Z a0 consts_1) (b : Addr) (kb : ClassId) (c0 c1 : Int32) (h0 : Heap) (n0 : Nat) (Z0 : n0 ≤ h0.size) (B : Arv Z h0 b kb .byte (4 : Int32) [(.int (nar .byte (c0 >>> ((0 : Int32) &&& 31)).toInt8.toInt32)), (.int (nar .byte (c0 >>> ((8 : Int32) &&& 31)).toInt8.toInt32)), (.int (nar .byte (c1 >>> ((0 : Int32) &&& 31)).toInt8.toInt32)), (.int (nar .byte (c1 >>> ((8 : Int32) &&& 31)).toInt8.toInt32))] (.int (0 : Int32))) (hq1 : Chr c1) (X0 : Old Z n0 h0) (AD : Sta Z Z.heap "java/lang/StringUTF16" "$assertionsDisabled" "Z" (.int (1 : Int32))) (HB : Sta Z Z.heap "java/lang/StringUTF16" "HI_BYTE_SHIFT" "I" (.int (0 : Int32))) (LB : Sta Z Z.heap "java/lang/StringUTF16" "LO_BYTE_SHIFT" "I" (.int (8 : Int32))) :
    Met l Z consts_1 [] (⟨"java/lang/StringUTF16", "getChar", "([BI)C"⟩ : MethodName) jdk_52_method_5_code 2 (Option.some FieldType.char) [] ({ frames := 0, cells := 0, slots := 0, locals := 0 } : Room) #[(.ref b), (.int (1 : Int32))] h0 n0 (fun v h => v = some (.int c1) ∧ h0 = h) := by
  refine Met.of (Ls0 := #[.val (.ref b), .val (.int (1 : Int32))]) pl_8 (by first | (simp [argsToLocals, Value.category]; done) | rfl) hel ?_
  have hSA : ∀ d ∈ Bundle.stringAtoms, d.before a0 Z = true := fun d hd => hw d ((by decide +kernel : ∀ d ∈ Bundle.stringAtoms, d ∈ tables_1) d hd)
  intro p e s m below meth c hx hby hml hret hlk hown hnm hZ
  refine Go.getS (q := 3) hx hZ hown (host := "") (Or.inl (tw hw 88 rfl)) Via.refl (Sta.ext X0.2 AD) (hb hby d19_0) rfl ?_
  refine Go.if_ne (q := 6) (t := 28) hx (hb hby d19_3) (by decide) rfl rfl (fun hc3 => ?_) (fun hc3 => absurd hc3 (by decide))
  refine Go.iloadN (q := 29) hx (hb hby d19_28) rfl rfl ?_
  refine Go.iconst (q := 30) (z := (1 : Int32)) hx (hb hby d19_29) rfl rfl ?_
  refine Go.ishl (q := 31) hx (hb hby d19_30) rfl ?_
  rw [show (1 : Int32) <<< ((1 : Int32) &&& 31) = (2 : Int32) from by decide]
  refine Go.istoreN (q := 32) (l' := #[.val (.ref b), .val (.int (2 : Int32))]) hx (hb hby d19_31) rfl rfl ?_
  refine Go.aloadN (q := 33) hx (hb hby d19_32) rfl (by rfl) rfl ?_
  refine Go.iloadN (q := 34) hx (hb hby d19_33) rfl rfl ?_
  refine Go.iinc (q := 37) (l' := #[.val (.ref b), .val (.int ((2 : Int32) + (1 : Int32)))]) hx (hb hby d19_34) rfl rfl rfl ?_
  refine Go.baload (q := 38) (v := (.int (nar .byte (c1 >>> ((0 : Int32) &&& 31)).toInt8.toInt32))) hx hZ B ⟨by decide, by decide⟩ rfl (hb hby d19_37) rfl ?_
  refine Go.sipush (q := 41) (z := (255 : Int32)) hx (hb hby d19_38) rfl rfl ?_
  refine Go.iand (q := 42) hx (hb hby d19_41) rfl ?_
  refine Go.getS (q := 45) hx hZ hown (host := "") (Or.inl (tw hw 89 rfl)) Via.refl (Sta.ext X0.2 HB) (hb hby d19_42) rfl ?_
  refine Go.ishl (q := 46) hx (hb hby d19_45) rfl ?_
  refine Go.aloadN (q := 47) hx (hb hby d19_46) rfl (by rfl) rfl ?_
  refine Go.iloadN (q := 48) hx (hb hby d19_47) rfl rfl ?_
  refine Go.baload (q := 49) (v := (.int (nar .byte (c1 >>> ((8 : Int32) &&& 31)).toInt8.toInt32))) hx hZ B ⟨by decide, by decide⟩ rfl (hb hby d19_48) rfl ?_
  refine Go.sipush (q := 52) (z := (255 : Int32)) hx (hb hby d19_49) rfl rfl ?_
  refine Go.iand (q := 53) hx (hb hby d19_52) rfl ?_
  refine Go.getS (q := 56) hx hZ hown (host := "") (Or.inl (tw hw 90 rfl)) Via.refl (Sta.ext X0.2 LB) (hb hby d19_53) rfl ?_
  refine Go.ishl (q := 57) hx (hb hby d19_56) rfl ?_
  refine Go.ior (q := 58) hx (hb hby d19_57) rfl ?_
  refine Go.i2c (q := 59) hx (hb hby d19_58) rfl ?_
  refine Go.retN hx (t := .char) hret (by simp) hlk (hb hby d19_59) (by decide) (by decide) ?_
  exact ⟨congrArg (fun z => some (Value.int z)) (utf_ok hq1), rfl⟩
theorem rmT2 (l : Launch) (Z : State) (a0 : Array Value) (hw : ∀ d ∈ tables_1, d.before a0 Z = true) (hel : EW Z a0 consts_1) (a : Addr) (ka : ClassId) (c0 c1 : Int32) (h0 : Heap) (n0 : Nat) (Z0 : n0 ≤ h0.size) (A : Arv Z h0 a ka .char (2 : Int32) [.int c0, .int c1] (.int (0 : Int32))) (X0 : Old Z n0 h0) (AD : Sta Z Z.heap "java/lang/StringUTF16" "$assertionsDisabled" "Z" (.int (1 : Int32))) (HB : Sta Z Z.heap "java/lang/StringUTF16" "HI_BYTE_SHIFT" "I" (.int (0 : Int32))) (LB : Sta Z Z.heap "java/lang/StringUTF16" "LO_BYTE_SHIFT" "I" (.int (8 : Int32))) :
    Met l Z consts_1 [] (⟨"java/lang/StringUTF16", "toBytes", "([CII)[B"⟩ : MethodName) jdk_52_method_14_code 5 (Option.some (FieldType.array FieldType.byte)) [] ({ frames := 2, cells := 1, slots := 4, locals := 36 } : Room) #[(.ref a), (.int (0 : Int32)), (.int (2 : Int32))] h0 n0 (fun v h => ∃ b kb, v = some (.ref b) ∧ h0.size ≤ b ∧ Keep h0 h [] ∧ Arv Z h b kb .byte (4 : Int32) [(.int (nar .byte (c0 >>> ((0 : Int32) &&& 31)).toInt8.toInt32)), (.int (nar .byte (c0 >>> ((8 : Int32) &&& 31)).toInt8.toInt32)), (.int (nar .byte (c1 >>> ((0 : Int32) &&& 31)).toInt8.toInt32)), (.int (nar .byte (c1 >>> ((8 : Int32) &&& 31)).toInt8.toInt32))] (.int (0 : Int32))) := by
  refine Met.of (Ls0 := #[.val (.ref a), .val (.int (0 : Int32)), .val (.int (2 : Int32)), .unset, .unset]) pl_9 (by first | (simp [argsToLocals, Value.category]; done) | rfl) hel ?_
  intro p e s m below meth c hx hby hml hret hlk hown hnm hZ
  refine Go.iloadN (q := 1) hx (hb hby d15_0) rfl rfl ?_
  refine Go.callS (q := 4) hx hZ (argsL := [(.int (2 : Int32))]) (rest := []) hown (tw hw 78 rfl) (tw hw 79 rfl) (tw hw 45 rfl) (tw hw 80 rfl) (by decide) (rmNB2 l Z a0 hw hel h0 n0 Z0) (fun _ hx => nomatch hx) (by rw [hml]; rfl) pd_8 rfl rfl (hb hby d15_1) rfl (by decide) (ble rfl) (ce' := 1) (sl' := 4) rfl rfl (by decide) (by decide) (fun v314 h315 hQ316 => ?_)
  have lt322 := (A).lt
  obtain ⟨b317, k318, rfl, g319, K320, V321⟩ := hQ316
  have ne323 : a ≠ b317 := Nat.ne_of_lt (Nat.lt_of_lt_of_le lt322 g319)
  have gz324 : n0 ≤ b317 := Nat.le_trans Z0 g319
  refine Go.safe (x := b317) V321.lt (fun vm hzv => safe_len hzv (tw hw 20 rfl) V321 (by decide)) ?_
  show Go _ _ _ _ _ _ _ _ _ _ _ _ _ _ _ _ _ _ _ _ 1 4 4 #[.val (.ref a), .val (.int (0 : Int32)), .val (.int (2 : Int32)), .unset, .unset] [(.ref b317)]
  refine Go.astoreN (q := 5) (l' := #[.val (.ref a), .val (.int (0 : Int32)), .val (.int (2 : Int32)), .val (.ref b317), .unset]) hx (hb hby d15_4) (by rfl) rfl rfl ?_
  refine Go.iconst (q := 6) (z := (0 : Int32)) hx (hb hby d15_5) rfl rfl ?_
  refine Go.istore (q := 8) (l' := #[.val (.ref a), .val (.int (0 : Int32)), .val (.int (2 : Int32)), .val (.ref b317), .val (.int (0 : Int32))]) hx (hb hby d15_6) rfl rfl ?_
  refine Go.iload (q := 10) hx (hb hby d15_8) rfl rfl ?_
  refine Go.iloadN (q := 11) hx (hb hby d15_10) rfl rfl ?_
  refine Go.icmp_ge (q := 14) (t := 32) hx (hb hby d15_11) (by decide) rfl rfl (fun hc11 => absurd hc11 (by decide)) (fun hc11 => ?_)
  refine Go.aloadN (q := 15) hx (hb hby d15_14) rfl (by rfl) rfl ?_
  refine Go.iload (q := 17) hx (hb hby d15_15) rfl rfl ?_
  refine Go.aloadN (q := 18) hx (hb hby d15_17) rfl (by rfl) rfl ?_
  refine Go.iloadN (q := 19) hx (hb hby d15_18) rfl rfl ?_
  refine Go.caload (q := 20) (v := (.int c0)) hx hZ (A.keep K320 nin0) ⟨by decide, by decide⟩ rfl (hb hby d15_19) rfl ?_
  refine Go.callS (q := 23) hx hZ (argsL := [(.ref b317), (.int (0 : Int32)), (.int c0)]) (rest := []) hown (tw hw 85 rfl) (tw hw 86 rfl) (tw hw 45 rfl) (tw hw 87 rfl) (by decide) (rmP2_0 l Z a0 hw hel b317 k318 c0 (0 : Int32) (0 : Int32) (0 : Int32) (0 : Int32) h315 n0 (Nat.le_trans Z0 K320.1) V321 gz324 (X0.keep K320 all0) AD HB LB) (by simp) (by rw [hml]; rfl) pd_9 rfl rfl (hb hby d15_20) rfl (by decide) (ble rfl) (ce' := 1) (sl' := 4) rfl rfl (by decide) (by decide) (fun v325 h326 hQ327 => ?_)
  obtain ⟨rfl, K328, V329⟩ := hQ327
  show Go _ _ _ _ _ _ _ _ _ _ _ _ _ _ _ _ _ _ _ _ 1 4 23 #[.val (.ref a), .val (.int (0 : Int32)), .val (.int (2 : Int32)), .val (.ref b317), .val (.int (0 : Int32))] []
  refine Go.iinc (q := 26) (l' := #[.val (.ref a), .val (.int ((0 : Int32) + (1 : Int32))), .val (.int (2 : Int32)), .val (.ref b317), .val (.int (0 : Int32))]) hx (hb hby d15_23) rfl rfl rfl ?_
  refine Go.iinc (q := 29) (l' := #[.val (.ref a), .val (.int ((0 : Int32) + (1 : Int32))), .val (.int (2 : Int32)), .val (.ref b317), .val (.int ((0 : Int32) + (1 : Int32)))]) hx (hb hby d15_26) rfl rfl rfl ?_
  refine Go.goto (q := 8) hx (hb hby d15_29) (by decide) rfl ?_
  rw [show (0 : Int32) + (1 : Int32) = (1 : Int32) from by decide]
  refine Go.iload (q := 10) hx (hb hby d15_8) rfl rfl ?_
  refine Go.iloadN (q := 11) hx (hb hby d15_10) rfl rfl ?_
  refine Go.icmp_ge (q := 14) (t := 32) hx (hb hby d15_11) (by decide) rfl rfl (fun hc11_1 => absurd hc11_1 (by decide)) (fun hc11_1 => ?_)
  refine Go.aloadN (q := 15) hx (hb hby d15_14) rfl (by rfl) rfl ?_
  refine Go.iload (q := 17) hx (hb hby d15_15) rfl rfl ?_
  refine Go.aloadN (q := 18) hx (hb hby d15_17) rfl (by rfl) rfl ?_
  refine Go.iloadN (q := 19) hx (hb hby d15_18) rfl rfl ?_
  refine Go.caload (q := 20) (v := (.int c1)) hx hZ ((A.keep K320 nin0).keep K328 (ninS ne323 nin0)) ⟨by decide, by decide⟩ rfl (hb hby d15_19) rfl ?_
  refine Go.callS (q := 23) hx hZ (argsL := [(.ref b317), (.int (1 : Int32)), (.int c1)]) (rest := []) hown (tw hw 85 rfl) (tw hw 86 rfl) (tw hw 45 rfl) (tw hw 87 rfl) (by decide) (rmP2_1 l Z a0 hw hel b317 k318 c1 (nar .byte (c0 >>> ((0 : Int32) &&& 31)).toInt8.toInt32) (nar .byte (c0 >>> ((8 : Int32) &&& 31)).toInt8.toInt32) (0 : Int32) (0 : Int32) h326 n0 (Nat.le_trans (Nat.le_trans Z0 K320.1) K328.1) V329 gz324 ((X0.keep K320 all0).keep K328 (allS gz324 all0)) AD HB LB) (by simp) (by rw [hml]; rfl) pd_9 rfl rfl (hb hby d15_20) rfl (by decide) (ble rfl) (ce' := 1) (sl' := 4) rfl rfl (by decide) (by decide) (fun v330 h331 hQ332 => ?_)
  obtain ⟨rfl, K333, V334⟩ := hQ332
  show Go _ _ _ _ _ _ _ _ _ _ _ _ _ _ _ _ _ _ _ _ 1 4 23 #[.val (.ref a), .val (.int (1 : Int32)), .val (.int (2 : Int32)), .val (.ref b317), .val (.int (1 : Int32))] []
  refine Go.iinc (q := 26) (l' := #[.val (.ref a), .val (.int ((1 : Int32) + (1 : Int32))), .val (.int (2 : Int32)), .val (.ref b317), .val (.int (1 : Int32))]) hx (hb hby d15_23) rfl rfl rfl ?_
  refine Go.iinc (q := 29) (l' := #[.val (.ref a), .val (.int ((1 : Int32) + (1 : Int32))), .val (.int (2 : Int32)), .val (.ref b317), .val (.int ((1 : Int32) + (1 : Int32)))]) hx (hb hby d15_26) rfl rfl rfl ?_
  refine Go.goto (q := 8) hx (hb hby d15_29) (by decide) rfl ?_
  rw [show (1 : Int32) + (1 : Int32) = (2 : Int32) from by decide]
  refine Go.iload (q := 10) hx (hb hby d15_8) rfl rfl ?_
  refine Go.iloadN (q := 11) hx (hb hby d15_10) rfl rfl ?_
  refine Go.icmp_ge (q := 14) (t := 32) hx (hb hby d15_11) (by decide) rfl rfl (fun hc11_2 => ?_) (fun hc11_2 => absurd hc11_2 (by decide))
  refine Go.aloadN (q := 33) hx (hb hby d15_32) rfl (by rfl) rfl ?_
  refine Go.retA hx hret rfl (by rfl) hlk (hb hby d15_33) (by decide) (by decide) ?_
  exact ⟨b317, _, rfl, g319, (Keep.trans (Keep.trans (Keep.trans (Keep.refl h0 []) K320 all0) K328 (allS (Or.inr g319) all0)) K333 (allS (Or.inr g319) all0)), V334⟩
theorem rmCU2_0 (l : Launch) (Z : State) (a0 : Array Value) (hw : ∀ d ∈ tables_1, d.before a0 Z = true) (hel : EW Z a0 consts_1) (a b : Addr) (ka kb : ClassId) (c0 c1 : Int32) (h0 : Heap) (n0 : Nat) (Z0 : n0 ≤ h0.size) (A : Arv Z h0 a ka .char (2 : Int32) [.int c0, .int c1] (.int (0 : Int32))) (B : Arv Z h0 b kb .byte (2 : Int32) [(.int (0 : Int32)), (.int (0 : Int32))] (.int (0 : Int32))) (gb : n0 ≤ b) (nab : a ≠ b)  (hk : (255 : Int32) < c0) :
    Met l Z consts_1 [b] (⟨"java/lang/StringUTF16", "compress", "([CI[BII)I"⟩ : MethodName) jdk_52_method_21_code 7 (Option.some FieldType.int) [] ({ frames := 0, cells := 0, slots := 0, locals := 0 } : Room) #[(.ref a), (.int (0 : Int32)), (.ref b), (.int (0 : Int32)), (.int (2 : Int32))] h0 n0 (fun v h => v = some (.int (0 : Int32)) ∧ Keep h0 h [b]) := by
  refine Met.of (Ls0 := #[.val (.ref a), .val (.int (0 : Int32)), .val (.ref b), .val (.int (0 : Int32)), .val (.int (2 : Int32)), .unset, .unset]) pl_3 (by first | (simp [argsToLocals, Value.category]; done) | rfl) hel ?_
  intro p e s m below meth c hx hby hml hret hlk hown hnm hZ
  refine Go.iconst (q := 1) (z := (0 : Int32)) hx (hb hby d8_0) rfl rfl ?_
  refine Go.istore (q := 3) (l' := #[.val (.ref a), .val (.int (0 : Int32)), .val (.ref b), .val (.int (0 : Int32)), .val (.int (2 : Int32)), .val (.int (0 : Int32)), .unset]) hx (hb hby d8_1) rfl rfl ?_
  refine Go.iload (q := 5) hx (hb hby d8_3) rfl rfl ?_
  refine Go.iload (q := 7) hx (hb hby d8_5) rfl rfl ?_
  refine Go.icmp_ge (q := 10) (t := 44) hx (hb hby d8_7) (by decide) rfl rfl (fun hc7 => absurd hc7 (by decide)) (fun hc7 => ?_)
  refine Go.aloadN (q := 11) hx (hb hby d8_10) rfl (by rfl) rfl ?_
  refine Go.iloadN (q := 12) hx (hb hby d8_11) rfl rfl ?_
  refine Go.caload (q := 13) (v := (.int c0)) hx hZ A ⟨by decide, by decide⟩ rfl (hb hby d8_12) rfl ?_
  refine Go.istore (q := 15) (l' := #[.val (.ref a), .val (.int (0 : Int32)), .val (.ref b), .val (.int (0 : Int32)), .val (.int (2 : Int32)), .val (.int (0 : Int32)), .val (.int c0)]) hx (hb hby d8_13) rfl rfl ?_
  refine Go.iload (q := 17) hx (hb hby d8_15) rfl rfl ?_
  refine Go.sipush (q := 20) (z := (255 : Int32)) hx (hb hby d8_17) rfl rfl ?_
  refine Go.icmp_le (q := 23) (t := 26) hx (hb hby d8_20) (by decide) rfl rfl (fun hc20 => absurd hk hc20) (fun hc20 => ?_)
  refine Go.iload (q := 25) hx (hb hby d8_23) rfl rfl ?_
  refine Go.retI hx hret hlk (hb hby d8_25) (by decide) (by decide) ?_
  exact ⟨rfl, (Keep.refl h0 [b])⟩
theorem rmDU2_0 (l : Launch) (Z : State) (a0 : Array Value) (hw : ∀ d ∈ tables_1, d.before a0 Z = true) (hel : EW Z a0 consts_1) (a : Addr) (ka : ClassId) (c0 c1 : Int32) (h0 : Heap) (n0 : Nat) (Z0 : n0 ≤ h0.size) (A : Arv Z h0 a ka .char (2 : Int32) [.int c0, .int c1] (.int (0 : Int32))) (hq0 : Chr c0) (hq1 : Chr c1)  (hk : (255 : Int32) < c0) (X0 : Old Z n0 h0) (AD : Sta Z Z.heap "java/lang/StringUTF16" "$assertionsDisabled" "Z" (.int (1 : Int32))) (HB : Sta Z Z.heap "java/lang/StringUTF16" "HI_BYTE_SHIFT" "I" (.int (0 : Int32))) (LB : Sta Z Z.heap "java/lang/StringUTF16" "LO_BYTE_SHIFT" "I" (.int (8 : Int32))) :
    Met l Z consts_1 [] (⟨"java/lang/StringUTF16", "compress", "([CII)[B"⟩ : MethodName) jdk_52_method_16_code 6 (Option.some (FieldType.array FieldType.byte)) [] ({ frames := 3, cells := 2, slots := 6, locals := 58 } : Room) #[(.ref a), (.int (0 : Int32)), (.int (2 : Int32))] h0 n0 (fun v h => ∃ b kb, v = some (.ref b) ∧ h0.size ≤ b ∧ Keep h0 h [] ∧ Arv Z h b kb .byte (4 : Int32) [(.int (nar .byte (c0 >>> ((0 : Int32) &&& 31)).toInt8.toInt32)), (.int (nar .byte (c0 >>> ((8 : Int32) &&& 31)).toInt8.toInt32)), (.int (nar .byte (c1 >>> ((0 : Int32) &&& 31)).toInt8.toInt32)), (.int (nar .byte (c1 >>> ((8 : Int32) &&& 31)).toInt8.toInt32))] (.int (0 : Int32))) := by
  refine Met.of (Ls0 := #[.val (.ref a), .val (.int (0 : Int32)), .val (.int (2 : Int32)), .unset, .unset, .unset]) pl_4 (by first | (simp [argsToLocals, Value.category]; done) | rfl) hel ?_
  intro p e s m below meth c hx hby hml hret hlk hown hnm hZ
  refine Go.iloadN (q := 1) hx (hb hby d7_0) rfl rfl ?_
  refine Go.newP (q := 3) (cap := 2) hx hZ (tw hw 21 rfl) (by decide) (by decide) (hb hby d7_1) rfl (by decide) (ce' := 1) (sl' := 2) rfl rfl (by decide) (by decide) (fun h335 a336 k337 g338 E339 A340 => ?_)
  have ne341 : a ≠ a336 := by rw [g338]; exact Nat.ne_of_lt (A).lt
  have gz342 : n0 ≤ a336 := by rw [g338]; exact Z0
  have gk343 : h0.size ≤ a336 := by rw [g338]; exact (Keep.refl h0 []).1
  have V344 : Arv Z h335 a336 k337 .byte (2 : Int32) [(.int (0 : Int32)), (.int (0 : Int32))] (.int (0 : Int32)) := A340.pad (pad_rep [] (.int (0 : Int32)) 2)
  refine Go.astoreN (q := 4) (l' := #[.val (.ref a), .val (.int (0 : Int32)), .val (.int (2 : Int32)), .val (.ref a336), .unset, .unset]) hx (hb hby d7_3) (by rfl) rfl rfl ?_
  refine Go.aloadN (q := 5) hx (hb hby d7_4) rfl (by rfl) rfl ?_
  refine Go.iloadN (q := 6) hx (hb hby d7_5) rfl rfl ?_
  refine Go.aloadN (q := 7) hx (hb hby d7_6) rfl (by rfl) rfl ?_
  refine Go.iconst (q := 8) (z := (0 : Int32)) hx (hb hby d7_7) rfl rfl ?_
  refine Go.iloadN (q := 9) hx (hb hby d7_8) rfl rfl ?_
  refine Go.callS (q := 12) hx hZ (argsL := [(.ref a), (.int (0 : Int32)), (.ref a336), (.int (0 : Int32)), (.int (2 : Int32))]) (rest := []) hown (tw hw 47 rfl) (tw hw 48 rfl) (tw hw 45 rfl) (tw hw 49 rfl) (by decide) (rmCU2_0 l Z a0 hw hel a a336 ka k337 c0 c1 h335 n0 (Nat.le_trans Z0 E339.1) (A.ext E339) V344 gz342 ne341  hk) (by simp) (by rw [hml]; rfl) pd_4 rfl rfl (hb hby d7_9) rfl (by decide) (ble rfl) (ce' := 1) (sl' := 2) rfl rfl (by decide) (by decide) (fun v345 h346 hQ347 => ?_)
  obtain ⟨rfl, K348⟩ := hQ347
  show Go _ _ _ _ _ _ _ _ _ _ _ _ _ _ _ _ _ _ _ _ 1 2 12 #[.val (.ref a), .val (.int (0 : Int32)), .val (.int (2 : Int32)), .val (.ref a336), .unset, .unset] [(.int (0 : Int32))]
  refine Go.istore (q := 14) (l' := #[.val (.ref a), .val (.int (0 : Int32)), .val (.int (2 : Int32)), .val (.ref a336), .val (.int (0 : Int32)), .unset]) hx (hb hby d7_12) rfl rfl ?_
  refine Go.iload (q := 16) hx (hb hby d7_14) rfl rfl ?_
  refine Go.iloadN (q := 17) hx (hb hby d7_16) rfl rfl ?_
  refine Go.icmp_eq (q := 20) (t := 57) hx (hb hby d7_17) (by decide) rfl rfl (fun hc17 => absurd hc17 (by decide)) (fun hc17 => ?_)
  refine Go.aloadN (q := 21) hx (hb hby d7_20) rfl (by rfl) rfl ?_
  refine Go.iloadN (q := 22) hx (hb hby d7_21) rfl rfl ?_
  refine Go.iloadN (q := 23) hx (hb hby d7_22) rfl rfl ?_
  have gk349 := (Keep.trans ((Keep.refl h0 []).ext E339) K348 (allS (Or.inr gk343) all0)).1
  refine Go.callS (q := 26) hx hZ (argsL := [(.ref a), (.int (0 : Int32)), (.int (2 : Int32))]) (rest := []) hown (tw hw 75 rfl) (tw hw 76 rfl) (tw hw 45 rfl) (tw hw 77 rfl) (by decide) (rmT2 l Z a0 hw hel a ka c0 c1 h346 n0 (Nat.le_trans (Nat.le_trans Z0 E339.1) K348.1) ((A.ext E339).keep K348 (ninS ne341 nin0)) ((X0.ext E339).keep K348 (allS gz342 all0)) AD HB LB) (fun _ hx => nomatch hx) (by rw [hml]; rfl) pd_1 rfl rfl (hb hby d7_23) rfl (by decide) (ble rfl) (ce' := 2) (sl' := 6) rfl rfl (by decide) (by decide) (fun v350 h351 hQ352 => ?_)
  obtain ⟨b353, k354, rfl, g355, K356, V357⟩ := hQ352
  show Go _ _ _ _ _ _ _ _ _ _ _ _ _ _ _ _ _ _ _ _ 2 6 26 #[.val (.ref a), .val (.int (0 : Int32)), .val (.int (2 : Int32)), .val (.ref a336), .val (.int (0 : Int32)), .unset] [(.ref b353)]
  refine Go.astore (q := 28) (l' := #[.val (.ref a), .val (.int (0 : Int32)), .val (.int (2 : Int32)), .val (.ref a336), .val (.int (0 : Int32)), .val (.ref b353)]) hx (hb hby d7_26) (by rfl) rfl rfl ?_
  refine Go.aload (q := 30) hx (hb hby d7_28) rfl (by rfl) rfl ?_
  refine Go.iload (q := 32) hx (hb hby d7_30) rfl rfl ?_
  refine Go.callS (q := 35) hx hZ (argsL := [(.ref b353), (.int (0 : Int32))]) (rest := []) hown (tw hw 91 rfl) (tw hw 92 rfl) (tw hw 45 rfl) (tw hw 93 rfl) (by decide) (rmG2_0 l Z a0 hw hel b353 k354 c0 c1 h351 n0 (Nat.le_trans (Nat.le_trans (Nat.le_trans Z0 E339.1) K348.1) K356.1) V357 hq0 (((X0.ext E339).keep K348 (allS gz342 all0)).keep K356 all0) AD HB LB) (fun _ hx => nomatch hx) (by rw [hml]; rfl) pd_5 rfl rfl (hb hby d7_32) rfl (by decide) (ble rfl) (ce' := 2) (sl' := 6) rfl rfl (by decide) (by decide) (fun v358 h359 hQ360 => ?_)
  obtain ⟨rfl, rfl⟩ := hQ360
  show Go _ _ _ _ _ _ _ _ _ _ _ _ _ _ _ _ _ _ _ _ 2 6 35 #[.val (.ref a), .val (.int (0 : Int32)), .val (.int (2 : Int32)), .val (.ref a336), .val (.int (0 : Int32)), .val (.ref b353)] [(.int c0)]
  refine Go.sipush (q := 38) (z := (255 : Int32)) hx (hb hby d7_35) rfl rfl ?_
  refine Go.icmp_gt (q := 41) (t := 54) hx (hb hby d7_38) (by decide) rfl rfl (fun hc38 => ?_) (fun hc38 => absurd hk hc38)
  refine Go.aload (q := 56) hx (hb hby d7_54) rfl (by rfl) rfl ?_
  refine Go.retA hx hret rfl (by rfl) hlk (hb hby d7_56) (by decide) (by decide) ?_
  exact ⟨b353, _, rfl, (Nat.le_trans gk349 g355), (Keep.trans (Keep.trans ((Keep.refl h0 []).ext E339) K348 (allS (Or.inr gk343) all0)) K356 all0), V357⟩
theorem rmCU2_1 (l : Launch) (Z : State) (a0 : Array Value) (hw : ∀ d ∈ tables_1, d.before a0 Z = true) (hel : EW Z a0 consts_1) (a b : Addr) (ka kb : ClassId) (c0 c1 : Int32) (h0 : Heap) (n0 : Nat) (Z0 : n0 ≤ h0.size) (A : Arv Z h0 a ka .char (2 : Int32) [.int c0, .int c1] (.int (0 : Int32))) (B : Arv Z h0 b kb .byte (2 : Int32) [(.int (0 : Int32)), (.int (0 : Int32))] (.int (0 : Int32))) (gb : n0 ≤ b) (nab : a ≠ b) (hp0 : ¬ (255 : Int32) < c0) (hk : (255 : Int32) < c1) :
    Met l Z consts_1 [b] (⟨"java/lang/StringUTF16", "compress", "([CI[BII)I"⟩ : MethodName) jdk_52_method_21_code 7 (Option.some FieldType.int) [] ({ frames := 0, cells := 0, slots := 0, locals := 0 } : Room) #[(.ref a), (.int (0 : Int32)), (.ref b), (.int (0 : Int32)), (.int (2 : Int32))] h0 n0 (fun v h => v = some (.int (1 : Int32)) ∧ Keep h0 h [b]) := by
  refine Met.of (Ls0 := #[.val (.ref a), .val (.int (0 : Int32)), .val (.ref b), .val (.int (0 : Int32)), .val (.int (2 : Int32)), .unset, .unset]) pl_3 (by first | (simp [argsToLocals, Value.category]; done) | rfl) hel ?_
  intro p e s m below meth c hx hby hml hret hlk hown hnm hZ
  refine Go.iconst (q := 1) (z := (0 : Int32)) hx (hb hby d8_0) rfl rfl ?_
  refine Go.istore (q := 3) (l' := #[.val (.ref a), .val (.int (0 : Int32)), .val (.ref b), .val (.int (0 : Int32)), .val (.int (2 : Int32)), .val (.int (0 : Int32)), .unset]) hx (hb hby d8_1) rfl rfl ?_
  refine Go.iload (q := 5) hx (hb hby d8_3) rfl rfl ?_
  refine Go.iload (q := 7) hx (hb hby d8_5) rfl rfl ?_
  refine Go.icmp_ge (q := 10) (t := 44) hx (hb hby d8_7) (by decide) rfl rfl (fun hc7 => absurd hc7 (by decide)) (fun hc7 => ?_)
  refine Go.aloadN (q := 11) hx (hb hby d8_10) rfl (by rfl) rfl ?_
  refine Go.iloadN (q := 12) hx (hb hby d8_11) rfl rfl ?_
  refine Go.caload (q := 13) (v := (.int c0)) hx hZ A ⟨by decide, by decide⟩ rfl (hb hby d8_12) rfl ?_
  refine Go.istore (q := 15) (l' := #[.val (.ref a), .val (.int (0 : Int32)), .val (.ref b), .val (.int (0 : Int32)), .val (.int (2 : Int32)), .val (.int (0 : Int32)), .val (.int c0)]) hx (hb hby d8_13) rfl rfl ?_
  refine Go.iload (q := 17) hx (hb hby d8_15) rfl rfl ?_
  refine Go.sipush (q := 20) (z := (255 : Int32)) hx (hb hby d8_17) rfl rfl ?_
  refine Go.icmp_le (q := 23) (t := 26) hx (hb hby d8_20) (by decide) rfl rfl (fun hc20 => ?_) (fun hc20 => absurd hc20 hp0)
  refine Go.aloadN (q := 27) hx (hb hby d8_26) rfl (by rfl) rfl ?_
  refine Go.iloadN (q := 28) hx (hb hby d8_27) rfl rfl ?_
  refine Go.iload (q := 30) hx (hb hby d8_28) rfl rfl ?_
  refine Go.i2b (q := 31) hx (hb hby d8_30) rfl ?_
  refine Go.bastore (q := 32) hx hZ B ⟨by decide, by decide⟩ 0 rfl (ble rfl) gb (by simp) (hb hby d8_31) rfl (fun h361 W362 V363 => ?_)
  refine Go.iinc (q := 35) (l' := #[.val (.ref a), .val (.int ((0 : Int32) + (1 : Int32))), .val (.ref b), .val (.int (0 : Int32)), .val (.int (2 : Int32)), .val (.int (0 : Int32)), .val (.int c0)]) hx (hb hby d8_32) rfl rfl rfl ?_
  refine Go.iinc (q := 38) (l' := #[.val (.ref a), .val (.int ((0 : Int32) + (1 : Int32))), .val (.ref b), .val (.int ((0 : Int32) + (1 : Int32))), .val (.int (2 : Int32)), .val (.int (0 : Int32)), .val (.int c0)]) hx (hb hby d8_35) rfl rfl rfl ?_
  refine Go.iinc (q := 41) (l' := #[.val (.ref a), .val (.int ((0 : Int32) + (1 : Int32))), .val (.ref b), .val (.int ((0 : Int32) + (1 : Int32))), .val (.int (2 : Int32)), .val (.int ((0 : Int32) + (1 : Int32))), .val (.int c0)]) hx (hb hby d8_38) rfl rfl rfl ?_
  refine Go.goto (q := 3) hx (hb hby d8_41) (by decide) rfl ?_
  refine Go.iload (q := 5) hx (hb hby d8_3) rfl rfl ?_
  refine Go.iload (q := 7) hx (hb hby d8_5) rfl rfl ?_
  refine Go.icmp_ge (q := 10) (t := 44) hx (hb hby d8_7) (by decide) rfl rfl (fun hc7_1 => absurd hc7_1 (by decide)) (fun hc7_1 => ?_)
  refine Go.aloadN (q := 11) hx (hb hby d8_10) rfl (by rfl) rfl ?_
  refine Go.iloadN (q := 12) hx (hb hby d8_11) rfl rfl ?_
  refine Go.caload (q := 13) (v := (.int c1)) hx hZ (A.other W362 nab) ⟨by decide, by decide⟩ rfl (hb hby d8_12) rfl ?_
  refine Go.istore (q := 15) (l' := #[.val (.ref a), .val (.int ((0 : Int32) + (1 : Int32))), .val (.ref b), .val (.int ((0 : Int32) + (1 : Int32))), .val (.int (2 : Int32)), .val (.int ((0 : Int32) + (1 : Int32))), .val (.int c1)]) hx (hb hby d8_13) rfl rfl ?_
  refine Go.iload (q := 17) hx (hb hby d8_15) rfl rfl ?_
  refine Go.sipush (q := 20) (z := (255 : Int32)) hx (hb hby d8_17) rfl rfl ?_
  refine Go.icmp_le (q := 23) (t := 26) hx (hb hby d8_20) (by decide) rfl rfl (fun hc20_1 => absurd hk hc20_1) (fun hc20_1 => ?_)
  refine Go.iload (q := 25) hx (hb hby d8_23) rfl rfl ?_
  refine Go.retI hx hret hlk (hb hby d8_25) (by decide) (by decide) ?_
  exact ⟨rfl, ((Keep.refl h0 [b]).wr W362 (Or.inl (by simp)))⟩
theorem rmDU2_1 (l : Launch) (Z : State) (a0 : Array Value) (hw : ∀ d ∈ tables_1, d.before a0 Z = true) (hel : EW Z a0 consts_1) (a : Addr) (ka : ClassId) (c0 c1 : Int32) (h0 : Heap) (n0 : Nat) (Z0 : n0 ≤ h0.size) (A : Arv Z h0 a ka .char (2 : Int32) [.int c0, .int c1] (.int (0 : Int32))) (hq0 : Chr c0) (hq1 : Chr c1) (hp0 : ¬ (255 : Int32) < c0) (hk : (255 : Int32) < c1) (X0 : Old Z n0 h0) (AD : Sta Z Z.heap "java/lang/StringUTF16" "$assertionsDisabled" "Z" (.int (1 : Int32))) (HB : Sta Z Z.heap "java/lang/StringUTF16" "HI_BYTE_SHIFT" "I" (.int (0 : Int32))) (LB : Sta Z Z.heap "java/lang/StringUTF16" "LO_BYTE_SHIFT" "I" (.int (8 : Int32))) :
    Met l Z consts_1 [] (⟨"java/lang/StringUTF16", "compress", "([CII)[B"⟩ : MethodName) jdk_52_method_16_code 6 (Option.some (FieldType.array FieldType.byte)) [] ({ frames := 3, cells := 2, slots := 6, locals := 58 } : Room) #[(.ref a), (.int (0 : Int32)), (.int (2 : Int32))] h0 n0 (fun v h => ∃ b kb, v = some (.ref b) ∧ h0.size ≤ b ∧ Keep h0 h [] ∧ Arv Z h b kb .byte (4 : Int32) [(.int (nar .byte (c0 >>> ((0 : Int32) &&& 31)).toInt8.toInt32)), (.int (nar .byte (c0 >>> ((8 : Int32) &&& 31)).toInt8.toInt32)), (.int (nar .byte (c1 >>> ((0 : Int32) &&& 31)).toInt8.toInt32)), (.int (nar .byte (c1 >>> ((8 : Int32) &&& 31)).toInt8.toInt32))] (.int (0 : Int32))) := by
  refine Met.of (Ls0 := #[.val (.ref a), .val (.int (0 : Int32)), .val (.int (2 : Int32)), .unset, .unset, .unset]) pl_4 (by first | (simp [argsToLocals, Value.category]; done) | rfl) hel ?_
  intro p e s m below meth c hx hby hml hret hlk hown hnm hZ
  refine Go.iloadN (q := 1) hx (hb hby d7_0) rfl rfl ?_
  refine Go.newP (q := 3) (cap := 2) hx hZ (tw hw 21 rfl) (by decide) (by decide) (hb hby d7_1) rfl (by decide) (ce' := 1) (sl' := 2) rfl rfl (by decide) (by decide) (fun h364 a365 k366 g367 E368 A369 => ?_)
  have ne370 : a ≠ a365 := by rw [g367]; exact Nat.ne_of_lt (A).lt
  have gz371 : n0 ≤ a365 := by rw [g367]; exact Z0
  have gk372 : h0.size ≤ a365 := by rw [g367]; exact (Keep.refl h0 []).1
  have V373 : Arv Z h364 a365 k366 .byte (2 : Int32) [(.int (0 : Int32)), (.int (0 : Int32))] (.int (0 : Int32)) := A369.pad (pad_rep [] (.int (0 : Int32)) 2)
  refine Go.astoreN (q := 4) (l' := #[.val (.ref a), .val (.int (0 : Int32)), .val (.int (2 : Int32)), .val (.ref a365), .unset, .unset]) hx (hb hby d7_3) (by rfl) rfl rfl ?_
  refine Go.aloadN (q := 5) hx (hb hby d7_4) rfl (by rfl) rfl ?_
  refine Go.iloadN (q := 6) hx (hb hby d7_5) rfl rfl ?_
  refine Go.aloadN (q := 7) hx (hb hby d7_6) rfl (by rfl) rfl ?_
  refine Go.iconst (q := 8) (z := (0 : Int32)) hx (hb hby d7_7) rfl rfl ?_
  refine Go.iloadN (q := 9) hx (hb hby d7_8) rfl rfl ?_
  refine Go.callS (q := 12) hx hZ (argsL := [(.ref a), (.int (0 : Int32)), (.ref a365), (.int (0 : Int32)), (.int (2 : Int32))]) (rest := []) hown (tw hw 47 rfl) (tw hw 48 rfl) (tw hw 45 rfl) (tw hw 49 rfl) (by decide) (rmCU2_1 l Z a0 hw hel a a365 ka k366 c0 c1 h364 n0 (Nat.le_trans Z0 E368.1) (A.ext E368) V373 gz371 ne370 hp0 hk) (by simp) (by rw [hml]; rfl) pd_4 rfl rfl (hb hby d7_9) rfl (by decide) (ble rfl) (ce' := 1) (sl' := 2) rfl rfl (by decide) (by decide) (fun v374 h375 hQ376 => ?_)
  obtain ⟨rfl, K377⟩ := hQ376
  show Go _ _ _ _ _ _ _ _ _ _ _ _ _ _ _ _ _ _ _ _ 1 2 12 #[.val (.ref a), .val (.int (0 : Int32)), .val (.int (2 : Int32)), .val (.ref a365), .unset, .unset] [(.int (1 : Int32))]
  refine Go.istore (q := 14) (l' := #[.val (.ref a), .val (.int (0 : Int32)), .val (.int (2 : Int32)), .val (.ref a365), .val (.int (1 : Int32)), .unset]) hx (hb hby d7_12) rfl rfl ?_
  refine Go.iload (q := 16) hx (hb hby d7_14) rfl rfl ?_
  refine Go.iloadN (q := 17) hx (hb hby d7_16) rfl rfl ?_
  refine Go.icmp_eq (q := 20) (t := 57) hx (hb hby d7_17) (by decide) rfl rfl (fun hc17 => absurd hc17 (by decide)) (fun hc17 => ?_)
  refine Go.aloadN (q := 21) hx (hb hby d7_20) rfl (by rfl) rfl ?_
  refine Go.iloadN (q := 22) hx (hb hby d7_21) rfl rfl ?_
  refine Go.iloadN (q := 23) hx (hb hby d7_22) rfl rfl ?_
  have gk378 := (Keep.trans ((Keep.refl h0 []).ext E368) K377 (allS (Or.inr gk372) all0)).1
  refine Go.callS (q := 26) hx hZ (argsL := [(.ref a), (.int (0 : Int32)), (.int (2 : Int32))]) (rest := []) hown (tw hw 75 rfl) (tw hw 76 rfl) (tw hw 45 rfl) (tw hw 77 rfl) (by decide) (rmT2 l Z a0 hw hel a ka c0 c1 h375 n0 (Nat.le_trans (Nat.le_trans Z0 E368.1) K377.1) ((A.ext E368).keep K377 (ninS ne370 nin0)) ((X0.ext E368).keep K377 (allS gz371 all0)) AD HB LB) (fun _ hx => nomatch hx) (by rw [hml]; rfl) pd_1 rfl rfl (hb hby d7_23) rfl (by decide) (ble rfl) (ce' := 2) (sl' := 6) rfl rfl (by decide) (by decide) (fun v379 h380 hQ381 => ?_)
  obtain ⟨b382, k383, rfl, g384, K385, V386⟩ := hQ381
  show Go _ _ _ _ _ _ _ _ _ _ _ _ _ _ _ _ _ _ _ _ 2 6 26 #[.val (.ref a), .val (.int (0 : Int32)), .val (.int (2 : Int32)), .val (.ref a365), .val (.int (1 : Int32)), .unset] [(.ref b382)]
  refine Go.astore (q := 28) (l' := #[.val (.ref a), .val (.int (0 : Int32)), .val (.int (2 : Int32)), .val (.ref a365), .val (.int (1 : Int32)), .val (.ref b382)]) hx (hb hby d7_26) (by rfl) rfl rfl ?_
  refine Go.aload (q := 30) hx (hb hby d7_28) rfl (by rfl) rfl ?_
  refine Go.iload (q := 32) hx (hb hby d7_30) rfl rfl ?_
  refine Go.callS (q := 35) hx hZ (argsL := [(.ref b382), (.int (1 : Int32))]) (rest := []) hown (tw hw 91 rfl) (tw hw 92 rfl) (tw hw 45 rfl) (tw hw 93 rfl) (by decide) (rmG2_1 l Z a0 hw hel b382 k383 c0 c1 h380 n0 (Nat.le_trans (Nat.le_trans (Nat.le_trans Z0 E368.1) K377.1) K385.1) V386 hq1 (((X0.ext E368).keep K377 (allS gz371 all0)).keep K385 all0) AD HB LB) (fun _ hx => nomatch hx) (by rw [hml]; rfl) pd_5 rfl rfl (hb hby d7_32) rfl (by decide) (ble rfl) (ce' := 2) (sl' := 6) rfl rfl (by decide) (by decide) (fun v387 h388 hQ389 => ?_)
  obtain ⟨rfl, rfl⟩ := hQ389
  show Go _ _ _ _ _ _ _ _ _ _ _ _ _ _ _ _ _ _ _ _ 2 6 35 #[.val (.ref a), .val (.int (0 : Int32)), .val (.int (2 : Int32)), .val (.ref a365), .val (.int (1 : Int32)), .val (.ref b382)] [(.int c1)]
  refine Go.sipush (q := 38) (z := (255 : Int32)) hx (hb hby d7_35) rfl rfl ?_
  refine Go.icmp_gt (q := 41) (t := 54) hx (hb hby d7_38) (by decide) rfl rfl (fun hc38 => ?_) (fun hc38 => absurd hk hc38)
  refine Go.aload (q := 56) hx (hb hby d7_54) rfl (by rfl) rfl ?_
  refine Go.retA hx hret rfl (by rfl) hlk (hb hby d7_56) (by decide) (by decide) ?_
  exact ⟨b382, _, rfl, (Nat.le_trans gk378 g384), (Keep.trans (Keep.trans ((Keep.refl h0 []).ext E368) K377 (allS (Or.inr gk372) all0)) K385 all0), V386⟩
theorem rmDU2 (l : Launch) (Z : State) (a0 : Array Value) (hw : ∀ d ∈ tables_1, d.before a0 Z = true) (hel : EW Z a0 consts_1) (a : Addr) (ka : ClassId) (c0 c1 : Int32) (h0 : Heap) (n0 : Nat) (Z0 : n0 ≤ h0.size) (A : Arv Z h0 a ka .char (2 : Int32) [.int c0, .int c1] (.int (0 : Int32))) (hq0 : Chr c0) (hq1 : Chr c1) (hU : ((255 : Int32) < c0) ∨ (¬ (255 : Int32) < c0 ∧ (255 : Int32) < c1)) (X0 : Old Z n0 h0) (AD : Sta Z Z.heap "java/lang/StringUTF16" "$assertionsDisabled" "Z" (.int (1 : Int32))) (HB : Sta Z Z.heap "java/lang/StringUTF16" "HI_BYTE_SHIFT" "I" (.int (0 : Int32))) (LB : Sta Z Z.heap "java/lang/StringUTF16" "LO_BYTE_SHIFT" "I" (.int (8 : Int32))) :
    Met l Z consts_1 [] (⟨"java/lang/StringUTF16", "compress", "([CII)[B"⟩ : MethodName) jdk_52_method_16_code 6 (Option.some (FieldType.array FieldType.byte)) [] ({ frames := 3, cells := 2, slots := 6, locals := 58 } : Room) #[(.ref a), (.int (0 : Int32)), (.int (2 : Int32))] h0 n0 (fun v h => ∃ b kb, v = some (.ref b) ∧ h0.size ≤ b ∧ Keep h0 h [] ∧ Arv Z h b kb .byte (4 : Int32) [(.int (nar .byte (c0 >>> ((0 : Int32) &&& 31)).toInt8.toInt32)), (.int (nar .byte (c0 >>> ((8 : Int32) &&& 31)).toInt8.toInt32)), (.int (nar .byte (c1 >>> ((0 : Int32) &&& 31)).toInt8.toInt32)), (.int (nar .byte (c1 >>> ((8 : Int32) &&& 31)).toInt8.toInt32))] (.int (0 : Int32))) := by
  rcases hU with hk | ⟨hp0, hk⟩
  · exact rmDU2_0 l Z a0 hw hel a ka c0 c1 h0 n0 Z0 A hq0 hq1  hk X0 AD HB LB
  · exact rmDU2_1 l Z a0 hw hel a ka c0 c1 h0 n0 Z0 A hq0 hq1 hp0 hk X0 AD HB LB
theorem rmKU2 (l : Launch) (Z : State) (a0 : Array Value) (hw : ∀ d ∈ tables_1, d.before a0 Z = true) (hel : EW Z a0 consts_1) (b : Addr) (kb : ClassId) (vs : List Value) (h0 : Heap) (n0 : Nat) (Z0 : n0 ≤ h0.size) (B : Arv Z h0 b kb .byte (4 : Int32) vs (.int (0 : Int32))) :
    Met l Z consts_1 [] (⟨"java/lang/StringUTF16", "coderFromArrayLen", "([BI)B"⟩ : MethodName) jdk_52_method_15_code 2 (Option.some FieldType.byte) [] ({ frames := 0, cells := 0, slots := 0, locals := 0 } : Room) #[(.ref b), (.int (2 : Int32))] h0 n0 (fun v h => v = some (.int (1 : Int32)) ∧ h0 = h) := by
  refine Met.of (Ls0 := #[.val (.ref b), .val (.int (2 : Int32))]) pl_0 (by first | (simp [argsToLocals, Value.category]; done) | rfl) hel ?_
  intro p e s m below meth c hx hby hml hret hlk hown hnm hZ
  refine Go.iloadN (q := 1) hx (hb hby d9_0) rfl rfl ?_
  refine Go.aloadN (q := 2) hx (hb hby d9_1) rfl (by rfl) rfl ?_
  refine Go.alen (q := 3) hx hZ B (hb hby d9_2) rfl ?_
  refine Go.isub (q := 4) hx (hb hby d9_3) rfl ?_
  refine Go.bipush (q := 6) (z := (31 : Int32)) hx (hb hby d9_4) rfl rfl ?_
  refine Go.iushr (q := 7) hx (hb hby d9_6) rfl ?_
  refine Go.i2b (q := 8) hx (hb hby d9_7) rfl ?_
  refine Go.retN hx (t := .byte) hret (by simp) hlk (hb hby d9_8) (by decide) (by decide) ?_
  exact ⟨congrArg (fun z => some (Value.int z)) (by decide), rfl⟩
theorem rmSU2 (l : Launch) (Z : State) (a0 : Array Value) (hw : ∀ d ∈ tables_1, d.before a0 Z = true) (hel : EW Z a0 consts_1) (sa a : Addr) (ka : ClassId) (cst : Int32) (c0 c1 : Int32) (h0 : Heap) (n0 : Nat) (Z0 : n0 ≤ h0.size) (gs : n0 ≤ sa) (nas : a ≠ sa) (E : Exa Z h0 sa "java/lang/String") (F1 : Fld Z h0 sa "java/lang/String" "value" "[B" .null) (F2 : Fld Z h0 sa "java/lang/String" "coder" "B" (.int (0 : Int32))) (A : Arv Z h0 a ka .char (2 : Int32) [.int c0, .int c1] (.int (0 : Int32))) (hq0 : Chr c0) (hq1 : Chr c1) (hU : ((255 : Int32) < c0) ∨ (¬ (255 : Int32) < c0 ∧ (255 : Int32) < c1)) (X0 : Old Z n0 h0) (SC : Sta Z Z.heap "java/lang/String" "COMPACT_STRINGS" "Z" (.int cst)) (hcs : ¬ cst = (0 : Int32)) (AD : Sta Z Z.heap "java/lang/StringUTF16" "$assertionsDisabled" "Z" (.int (1 : Int32))) (HB : Sta Z Z.heap "java/lang/StringUTF16" "HI_BYTE_SHIFT" "I" (.int (0 : Int32))) (LB : Sta Z Z.heap "java/lang/StringUTF16" "LO_BYTE_SHIFT" "I" (.int (8 : Int32))) :
    Met l Z consts_1 [sa] (⟨"java/lang/String", "<init>", "([CIILjava/lang/Void;)V"⟩ : MethodName) jdk_42_method_149_code 6 (Option.none : Option FieldType) [] ({ frames := 4, cells := 2, slots := 6, locals := 81 } : Room) #[(.ref sa), (.ref a), (.int (0 : Int32)), (.int (2 : Int32)), .null] h0 n0 (fun v h => v = none ∧ Keep h0 h [sa] ∧ ∃ b kb, h0.size ≤ b ∧ Fld Z h sa "java/lang/String" "value" "[B" (.ref b) ∧ Fld Z h sa "java/lang/String" "coder" "B" (.int (1 : Int32)) ∧ Arv Z h b kb .byte (4 : Int32) [(.int (nar .byte (c0 >>> ((0 : Int32) &&& 31)).toInt8.toInt32)), (.int (nar .byte (c0 >>> ((8 : Int32) &&& 31)).toInt8.toInt32)), (.int (nar .byte (c1 >>> ((0 : Int32) &&& 31)).toInt8.toInt32)), (.int (nar .byte (c1 >>> ((8 : Int32) &&& 31)).toInt8.toInt32))] (.int (0 : Int32))) := by
  refine Met.of (Ls0 := #[.val (.ref sa), .val (.ref a), .val (.int (0 : Int32)), .val (.int (2 : Int32)), .val .null, .unset]) pl_1 (by first | (simp [argsToLocals, Value.category]; done) | rfl) hel ?_
  have hSA : ∀ d ∈ Bundle.stringAtoms, d.before a0 Z = true := fun d hd => hw d ((by decide +kernel : ∀ d ∈ Bundle.stringAtoms, d ∈ tables_1) d hd)
  intro p e s m below meth c hx hby hml hret hlk hown hnm hZ
  refine Go.aloadN (q := 1) hx (hb hby d2_0) rfl (by rfl) rfl ?_
  refine Go.initO (q := 4) hx hZ hown (tw hw 17 rfl) (tw hw 18 rfl) (tw hw 19 rfl) (by rw [hml]; rfl) (hb hby d2_1) rfl (by decide) (ble rfl) ?_
  refine Go.iloadN (q := 5) hx (hb hby d2_4) rfl rfl ?_
  refine Go.if_ne (q := 8) (t := 27) hx (hb hby d2_5) (by decide) rfl rfl (fun hc5 => ?_) (fun hc5 => absurd hc5 (by decide))
  refine Go.getS (q := 30) hx hZ hown (host := "") (Or.inl (tw hw 42 rfl)) Via.refl (Sta.ext X0.2 SC) (hb hby d2_27) rfl ?_
  refine Go.if_eq (q := 33) (t := 58) hx (hb hby d2_30) (by decide) rfl rfl (fun hc30 => absurd hc30 hcs) (fun hc30 => ?_)
  refine Go.aloadN (q := 34) hx (hb hby d2_33) rfl (by rfl) rfl ?_
  refine Go.iloadN (q := 35) hx (hb hby d2_34) rfl rfl ?_
  refine Go.iloadN (q := 36) hx (hb hby d2_35) rfl rfl ?_
  refine Go.callS (q := 39) hx hZ (argsL := [(.ref a), (.int (0 : Int32)), (.int (2 : Int32))]) (rest := []) hown (tw hw 43 rfl) (tw hw 44 rfl) (tw hw 45 rfl) (tw hw 46 rfl) (by decide) (rmDU2 l Z a0 hw hel a ka c0 c1 h0 n0 Z0 A hq0 hq1 hU X0 AD HB LB) (fun _ hx => nomatch hx) (by rw [hml]; rfl) pd_1 rfl rfl (hb hby d2_36) rfl (by decide) (ble rfl) (ce' := 2) (sl' := 6) rfl rfl (by decide) (by decide) (fun v390 h391 hQ392 => ?_)
  have lt398 := (E).lt
  obtain ⟨b393, k394, rfl, g395, K396, V397⟩ := hQ392
  have ne399 : sa ≠ b393 := Nat.ne_of_lt (Nat.lt_of_lt_of_le lt398 g395)
  show Go _ _ _ _ _ _ _ _ _ _ _ _ _ _ _ _ _ _ _ _ 2 6 39 #[.val (.ref sa), .val (.ref a), .val (.int (0 : Int32)), .val (.int (2 : Int32)), .val .null, .unset] [(.ref b393)]
  refine Go.astore (q := 41) (l' := #[.val (.ref sa), .val (.ref a), .val (.int (0 : Int32)), .val (.int (2 : Int32)), .val .null, .val (.ref b393)]) hx (hb hby d2_39) (by rfl) rfl rfl ?_
  refine Go.aloadN (q := 42) hx (hb hby d2_41) rfl (by rfl) rfl ?_
  refine Go.aload (q := 44) hx (hb hby d2_42) rfl (by rfl) rfl ?_
  refine Go.iloadN (q := 45) hx (hb hby d2_44) rfl rfl ?_
  refine Go.callS (q := 48) hx hZ (argsL := [(.ref b393), (.int (2 : Int32))]) (rest := [(.ref sa)]) hown (tw hw 50 rfl) (tw hw 51 rfl) (tw hw 45 rfl) (tw hw 52 rfl) (by decide) (rmKU2 l Z a0 hw hel b393 k394 _ h391 n0 (Nat.le_trans Z0 K396.1) V397) (fun _ hx => nomatch hx) (by rw [hml]; rfl) pd_2 rfl rfl (hb hby d2_45) rfl (by decide) (ble rfl) (ce' := 2) (sl' := 6) rfl rfl (by decide) (by decide) (fun v400 h401 hQ402 => ?_)
  obtain ⟨rfl, rfl⟩ := hQ402
  show Go _ _ _ _ _ _ _ _ _ _ _ _ _ _ _ _ _ _ _ _ 2 6 48 #[.val (.ref sa), .val (.ref a), .val (.int (0 : Int32)), .val (.int (2 : Int32)), .val .null, .val (.ref b393)] [(.int (1 : Int32)), (.ref sa)]
  refine Go.putF (q := 51) hx hZ hown (host := "") (Or.inl (tw hw 27 rfl)) Via.refl (F2.keep K396 nin0) (E.keep K396) (Or.inr ⟨(tw hw 23 rfl), rfl, hnm⟩) (tw hw 7 rfl) (ty := .byte) (by decide) rfl rfl gs (by simp) (hb hby d2_48) rfl (fun h403 W404 => ?_)
  refine Go.aloadN (q := 52) hx (hb hby d2_51) rfl (by rfl) rfl ?_
  refine Go.aload (q := 54) hx (hb hby d2_52) rfl (by rfl) rfl ?_
  refine Go.putF (q := 57) hx hZ hown (host := "") (Or.inl (tw hw 26 rfl)) Via.refl (Fld.other W404 (F1.keep K396 nin0) (Or.inr (slot_ne (C := "java/lang/String") (Or.inr (tw hw 22 rfl)) (Or.inr (tw hw 23 rfl)) (by decide) (by decide : _ = some (.array .byte)) (by decide : _ = some .byte)))) (Exa.wr W404 (E.keep K396)) (Or.inr ⟨(tw hw 22 rfl), rfl, hnm⟩) (tw hw 7 rfl) (ty := (.array .byte)) (by decide) rfl rfl gs (by simp) (hb hby d2_54) rfl (fun h405 W406 => ?_)
  refine Go.ret0 hx hret hlk (hb hby d2_57) (by decide) (by decide) ?_
  exact ⟨rfl, (((Keep.trans (Keep.refl h0 [sa]) K396 all0).wr W404 (Or.inl (by simp))).wr W406 (Or.inl (by simp))), b393, k394, g395, (Fld.same W406 (Fld.other W404 (F1.keep K396 nin0) (Or.inr (slot_ne (C := "java/lang/String") (Or.inr (tw hw 22 rfl)) (Or.inr (tw hw 23 rfl)) (by decide) (by decide : _ = some (.array .byte)) (by decide : _ = some .byte))))), (Fld.other W406 (Fld.same W404 (F2.keep K396 nin0)) (Or.inr (slot_ne (C := "java/lang/String") (Or.inr (tw hw 23 rfl)) (Or.inr (tw hw 22 rfl)) (by decide) (by decide : _ = some .byte) (by decide : _ = some (.array .byte))))), ((V397.other W404 ne399.symm).other W406 ne399.symm)⟩
theorem rmIU2 (l : Launch) (Z : State) (a0 : Array Value) (hw : ∀ d ∈ tables_1, d.before a0 Z = true) (hel : EW Z a0 consts_1) (sa a : Addr) (ka : ClassId) (cst : Int32) (c0 c1 : Int32) (h0 : Heap) (n0 : Nat) (Z0 : n0 ≤ h0.size) (gs : n0 ≤ sa) (nas : a ≠ sa) (E : Exa Z h0 sa "java/lang/String") (F1 : Fld Z h0 sa "java/lang/String" "value" "[B" .null) (F2 : Fld Z h0 sa "java/lang/String" "coder" "B" (.int (0 : Int32))) (A : Arv Z h0 a ka .char (2 : Int32) [.int c0, .int c1] (.int (0 : Int32))) (hq0 : Chr c0) (hq1 : Chr c1) (hU : ((255 : Int32) < c0) ∨ (¬ (255 : Int32) < c0 ∧ (255 : Int32) < c1)) (X0 : Old Z n0 h0) (SC : Sta Z Z.heap "java/lang/String" "COMPACT_STRINGS" "Z" (.int cst)) (hcs : ¬ cst = (0 : Int32)) (AD : Sta Z Z.heap "java/lang/StringUTF16" "$assertionsDisabled" "Z" (.int (1 : Int32))) (HB : Sta Z Z.heap "java/lang/StringUTF16" "HI_BYTE_SHIFT" "I" (.int (0 : Int32))) (LB : Sta Z Z.heap "java/lang/StringUTF16" "LO_BYTE_SHIFT" "I" (.int (8 : Int32))) :
    Met l Z consts_1 [sa] (⟨"java/lang/String", "<init>", "([C)V"⟩ : MethodName) jdk_42_method_3_code 2 (Option.none : Option FieldType) [] ({ frames := 5, cells := 2, slots := 6, locals := 104 } : Room) #[(.ref sa), (.ref a)] h0 n0 (fun v h => v = none ∧ Keep h0 h [sa] ∧ ∃ b kb, h0.size ≤ b ∧ Fld Z h sa "java/lang/String" "value" "[B" (.ref b) ∧ Fld Z h sa "java/lang/String" "coder" "B" (.int (1 : Int32)) ∧ Arv Z h b kb .byte (4 : Int32) [(.int (nar .byte (c0 >>> ((0 : Int32) &&& 31)).toInt8.toInt32)), (.int (nar .byte (c0 >>> ((8 : Int32) &&& 31)).toInt8.toInt32)), (.int (nar .byte (c1 >>> ((0 : Int32) &&& 31)).toInt8.toInt32)), (.int (nar .byte (c1 >>> ((8 : Int32) &&& 31)).toInt8.toInt32))] (.int (0 : Int32))) := by
  refine Met.of (Ls0 := #[.val (.ref sa), .val (.ref a)]) pl_2 (by first | (simp [argsToLocals, Value.category]; done) | rfl) hel ?_
  intro p e s m below meth c hx hby hml hret hlk hown hnm hZ
  refine Go.aloadN (q := 1) hx (hb hby d1_0) rfl (by rfl) rfl ?_
  refine Go.aloadN (q := 2) hx (hb hby d1_1) rfl (by rfl) rfl ?_
  refine Go.iconst (q := 3) (z := (0 : Int32)) hx (hb hby d1_2) rfl rfl ?_
  refine Go.aloadN (q := 4) hx (hb hby d1_3) rfl (by rfl) rfl ?_
  refine Go.alen (q := 5) hx hZ A (hb hby d1_4) rfl ?_
  refine Go.aconstNull (q := 6) hx (hb hby d1_5) rfl ?_
  refine Go.callI (q := 9) hx hZ (a := sa) (argsL := [(.ref a), (.int (0 : Int32)), (.int (2 : Int32)), .null]) (rest := []) hown rfl (tw hw 13 rfl) (tw hw 14 rfl) (tw hw 8 rfl) (tw hw 16 rfl) (by decide) (rmSU2 l Z a0 hw hel sa a ka cst c0 c1 h0 n0 Z0 gs nas E F1 F2 A hq0 hq1 hU X0 SC hcs AD HB LB) (by simp) (by rw [hml]; rfl) pd_3 rfl rfl (hb hby d1_6) rfl (by decide) (ble rfl) (ce' := 2) (sl' := 6) rfl rfl (by decide) (by decide) (fun v407 h408 hQ409 => ?_)
  obtain ⟨rfl, K410, Y411⟩ := hQ409
  show Go _ _ _ _ _ _ _ _ _ _ _ _ _ _ _ _ _ _ _ _ 2 6 9 #[.val (.ref sa), .val (.ref a)] []
  refine Go.ret0 hx hret hlk (hb hby d1_9) (by decide) (by decide) ?_
  exact ⟨rfl, (Keep.trans (Keep.refl h0 [sa]) K410 (allS (Or.inl (by simp)) all0)), Y411⟩
theorem lu2 (c0 c1 : Int32) : (¬ (255 : Int32) < c0 ∧ ¬ (255 : Int32) < c1) ∨ (((255 : Int32) < c0) ∨ (¬ (255 : Int32) < c0 ∧ (255 : Int32) < c1)) := if h0 : (255 : Int32) < c0 then Or.inr (Or.inl h0) else if h1 : (255 : Int32) < c1 then Or.inr (Or.inr ⟨h0, h1⟩) else Or.inl ⟨h0, h1⟩
theorem rmNL3 (l : Launch) (Z : State) (a0 : Array Value) (hw : ∀ d ∈ tables_1, d.before a0 Z = true) (hel : EW Z a0 consts_1)  (h0 : Heap) (n0 : Nat) (Z0 : n0 ≤ h0.size)  :
    Met l Z consts_1 [] (⟨"java/lang/StringUTF16", "newBytesLength", "(I)I"⟩ : MethodName) jdk_52_method_3_code 1 (Option.some FieldType.int) [] ({ frames := 0, cells := 0, slots := 0, locals := 0 } : Room) #[(.int (3 : Int32))] h0 n0 (fun v h => v = some (.int (6 : Int32)) ∧ h0 = h) := by
  refine Met.of (Ls0 := #[.val (.int (3 : Int32))]) pl_5 (by first | (simp [argsToLocals, Value.category]; done) | rfl) hel ?_
  have hSA : ∀ d ∈ Bundle.stringAtoms, d.before a0 Z = true := fun d hd => hw d ((by decide +kernel : ∀ d ∈ Bundle.stringAtoms, d ∈ tables_1) d hd)
  intro p e s m below meth c hx hby hml hret hlk hown hnm hZ
  refine Go.iloadN (q := 1) hx (hb hby d17_0) rfl rfl ?_
  refine Go.if_ge (q := 4) (t := 12) hx (hb hby d17_1) (by decide) rfl rfl (fun hc1 => ?_) (fun hc1 => absurd hc1 (by decide))
  refine Go.iloadN (q := 13) hx (hb hby d17_12) rfl rfl ?_
  refine Go.ldcInt (q := 15) hx hZ hown (tw hw 84 rfl) (hb hby d17_13) rfl ?_
  refine Go.icmp_lt (q := 18) (t := 55) hx (hb hby d17_15) (by decide) rfl rfl (fun hc15 => ?_) (fun hc15 => absurd hc15 (by decide))
  refine Go.iloadN (q := 56) hx (hb hby d17_55) rfl rfl ?_
  refine Go.iconst (q := 57) (z := (1 : Int32)) hx (hb hby d17_56) rfl rfl ?_
  refine Go.ishl (q := 58) hx (hb hby d17_57) rfl ?_
  rw [show (3 : Int32) <<< ((1 : Int32) &&& 31) = (6 : Int32) from by decide]
  refine Go.retI hx hret hlk (hb hby d17_58) (by decide) (by decide) ?_
  exact ⟨rfl, rfl⟩
theorem rmNB3 (l : Launch) (Z : State) (a0 : Array Value) (hw : ∀ d ∈ tables_1, d.before a0 Z = true) (hel : EW Z a0 consts_1)  (h0 : Heap) (n0 : Nat) (Z0 : n0 ≤ h0.size)  :
    Met l Z consts_1 [] (⟨"java/lang/StringUTF16", "newBytesFor", "(I)[B"⟩ : MethodName) jdk_52_method_2_code 1 (Option.some (FieldType.array FieldType.byte)) [] ({ frames := 1, cells := 1, slots := 6, locals := 18 } : Room) #[(.int (3 : Int32))] h0 n0 (fun v h => ∃ b kb, v = some (.ref b) ∧ h0.size ≤ b ∧ Keep h0 h [] ∧ Arv Z h b kb .byte (6 : Int32) [(.int (0 : Int32)), (.int (0 : Int32)), (.int (0 : Int32)), (.int (0 : Int32)), (.int (0 : Int32)), (.int (0 : Int32))] (.int (0 : Int32))) := by
  refine Met.of (Ls0 := #[.val (.int (3 : Int32))]) pl_6 (by first | (simp [argsToLocals, Value.category]; done) | rfl) hel ?_
  intro p e s m below meth c hx hby hml hret hlk hown hnm hZ
  refine Go.iloadN (q := 1) hx (hb hby d16_0) rfl rfl ?_
  refine Go.callS (q := 4) hx hZ (argsL := [(.int (3 : Int32))]) (rest := []) hown (tw hw 81 rfl) (tw hw 82 rfl) (tw hw 45 rfl) (tw hw 83 rfl) (by decide) (rmNL3 l Z a0 hw hel h0 n0 Z0) (fun _ hx => nomatch hx) (by rw [hml]; rfl) pd_6 rfl rfl (hb hby d16_1) rfl (by decide) (ble rfl) (ce' := 0) (sl' := 0) rfl rfl (by decide) (by decide) (fun v412 h413 hQ414 => ?_)
  obtain ⟨rfl, rfl⟩ := hQ414
  show Go _ _ _ _ _ _ _ _ _ _ _ _ _ _ _ _ _ _ _ _ 0 0 4 #[.val (.int (3 : Int32))] [(.int (6 : Int32))]
  refine Go.newP (q := 6) (cap := 6) hx hZ (tw hw 21 rfl) (by decide) (by decide) (hb hby d16_4) rfl (by decide) (ce' := 1) (sl' := 6) rfl rfl (by decide) (by decide) (fun h415 a416 k417 g418 E419 A420 => ?_)
  have gz421 : n0 ≤ a416 := by rw [g418]; exact Z0
  have gk422 : h0.size ≤ a416 := by rw [g418]; exact (Keep.refl h0 []).1
  have V423 : Arv Z h415 a416 k417 .byte (6 : Int32) [(.int (0 : Int32)), (.int (0 : Int32)), (.int (0 : Int32)), (.int (0 : Int32)), (.int (0 : Int32)), (.int (0 : Int32))] (.int (0 : Int32)) := A420.pad (pad_rep [] (.int (0 : Int32)) 6)
  refine Go.retA hx hret rfl (by rfl) hlk (hb hby d16_6) (by decide) (by decide) ?_
  exact ⟨a416, _, rfl, gk422, ((Keep.refl h0 []).ext E419), V423⟩
theorem rmP3_0 (l : Launch) (Z : State) (a0 : Array Value) (hw : ∀ d ∈ tables_1, d.before a0 Z = true) (hel : EW Z a0 consts_1) (b : Addr) (kb : ClassId) (x d0 d1 d2 d3 d4 d5 : Int32) (h0 : Heap) (n0 : Nat) (Z0 : n0 ≤ h0.size) (B : Arv Z h0 b kb .byte (6 : Int32) [(.int d0), (.int d1), (.int d2), (.int d3), (.int d4), (.int d5)] (.int (0 : Int32))) (gb : n0 ≤ b) (X0 : Old Z n0 h0) (AD : Sta Z Z.heap "java/lang/StringUTF16" "$assertionsDisabled" "Z" (.int (1 : Int32))) (HB : Sta Z Z.heap "java/lang/StringUTF16" "HI_BYTE_SHIFT" "I" (.int (0 : Int32))) (LB : Sta Z Z.heap "java/lang/StringUTF16" "LO_BYTE_SHIFT" "I" (.int (8 : Int32))) :
    Met l Z consts_1 [b] (⟨"java/lang/StringUTF16", "putChar", "([BII)V"⟩ : MethodName) jdk_52_method_4_code 3 (Option.none : Option FieldType) [] ({ frames := 0, cells := 0, slots := 0, locals := 0 } : Room) #[(.ref b), (.int (0 : Int32)), (.int x)] h0 n0 (fun v h => v = none ∧ Keep h0 h [b] ∧ Arv Z h b kb .byte (6 : Int32) [(.int (nar .byte (x >>> ((0 : Int32) &&& 31)).toInt8.toInt32)), (.int (nar .byte (x >>> ((8 : Int32) &&& 31)).toInt8.toInt32)), (.int d2), (.int d3), (.int d4), (.int d5)] (.int (0 : Int32))) := by
  refine Met.of (Ls0 := #[.val (.ref b), .val (.int (0 : Int32)), .val (.int x)]) pl_7 (by first | (simp [argsToLocals, Value.category]; done) | rfl) hel ?_
  have hSA : ∀ d ∈ Bundle.stringAtoms, d.before a0 Z = true := fun d hd => hw d ((by decide +kernel : ∀ d ∈ Bundle.stringAtoms, d ∈ tables_1) d hd)
  intro p e s m below meth c hx hby hml hret hlk hown hnm hZ
  refine Go.getS (q := 3) hx hZ hown (host := "") (Or.inl (tw hw 88 rfl)) Via.refl (Sta.ext X0.2 AD) (hb hby d18_0) rfl ?_
  refine Go.if_ne (q := 6) (t := 28) hx (hb hby d18_3) (by decide) rfl rfl (fun hc3 => ?_) (fun hc3 => absurd hc3 (by decide))
  refine Go.iloadN (q := 29) hx (hb hby d18_28) rfl rfl ?_
  refine Go.iconst (q := 30) (z := (1 : Int32)) hx (hb hby d18_29) rfl rfl ?_
  refine Go.ishl (q := 31) hx (hb hby d18_30) rfl ?_
  rw [show (0 : Int32) <<< ((1 : Int32) &&& 31) = (0 : Int32) from by decide]
  refine Go.istoreN (q := 32) (l' := #[.val (.ref b), .val (.int (0 : Int32)), .val (.int x)]) hx (hb hby d18_31) rfl rfl ?_
  refine Go.aloadN (q := 33) hx (hb hby d18_32) rfl (by rfl) rfl ?_
  refine Go.iloadN (q := 34) hx (hb hby d18_33) rfl rfl ?_
  refine Go.iinc (q := 37) (l' := #[.val (.ref b), .val (.int ((0 : Int32) + (1 : Int32))), .val (.int x)]) hx (hb hby d18_34) rfl rfl rfl ?_
  refine Go.iloadN (q := 38) hx (hb hby d18_37) rfl rfl ?_
  refine Go.getS (q := 41) hx hZ hown (host := "") (Or.inl (tw hw 89 rfl)) Via.refl (Sta.ext X0.2 HB) (hb hby d18_38) rfl ?_
  refine Go.ishr (q := 42) hx (hb hby d18_41) rfl ?_
  refine Go.i2b (q := 43) hx (hb hby d18_42) rfl ?_
  refine Go.bastore (q := 44) hx hZ B ⟨by decide, by decide⟩ 0 rfl (ble rfl) gb (by simp) (hb hby d18_43) rfl (fun h424 W425 V426 => ?_)
  refine Go.aloadN (q := 45) hx (hb hby d18_44) rfl (by rfl) rfl ?_
  refine Go.iloadN (q := 46) hx (hb hby d18_45) rfl rfl ?_
  refine Go.iloadN (q := 47) hx (hb hby d18_46) rfl rfl ?_
  refine Go.getS (q := 50) hx hZ hown (host := "") (Or.inl (tw hw 90 rfl)) Via.refl (Sta.ext (X0.wr W425 gb).2 LB) (hb hby d18_47) rfl ?_
  refine Go.ishr (q := 51) hx (hb hby d18_50) rfl ?_
  refine Go.i2b (q := 52) hx (hb hby d18_51) rfl ?_
  refine Go.bastore (q := 53) hx hZ V426 ⟨by decide, by decide⟩ 1 rfl (ble rfl) gb (by simp) (hb hby d18_52) rfl (fun h427 W428 V429 => ?_)
  refine Go.ret0 hx hret hlk (hb hby d18_53) (by decide) (by decide) ?_
  exact ⟨rfl, (((Keep.refl h0 [b]).wr W425 (Or.inl (by simp))).wr W428 (Or.inl (by simp))), V429⟩
theorem rmG3_0 (l : Launch) (Z : State) (a0 : Array Value) (hw : ∀ d ∈ tables_1, d.before a0 Z = true) (hel : EW Z a0 consts_1) (b : Addr) (kb : ClassId) (c0 c1 c2 : Int32) (h0 : Heap) (n0 : Nat) (Z0 : n0 ≤ h0.size) (B : Arv Z h0 b kb .byte (6 : Int32) [(.int (nar .byte (c0 >>> ((0 : Int32) &&& 31)).toInt8.toInt32)), (.int (nar .byte (c0 >>> ((8 : Int32) &&& 31)).toInt8.toInt32)), (.int (nar .byte (c1 >>> ((0 : Int32) &&& 31)).toInt8.toInt32)), (.int (nar .byte (c1 >>> ((8 : Int32) &&& 31)).toInt8.toInt32)), (.int (nar .byte (c2 >>> ((0 : Int32) &&& 31)).toInt8.toInt32)), (.int (nar .byte (c2 >>> ((8 : Int32) &&& 31)).toInt8.toInt32))] (.int (0 : Int32))) (hq0 : Chr c0) (X0 : Old Z n0 h0) (AD : Sta Z Z.heap "java/lang/StringUTF16" "$assertionsDisabled" "Z" (.int (1 : Int32))) (HB : Sta Z Z.heap "java/lang/StringUTF16" "HI_BYTE_SHIFT" "I" (.int (0 : Int32))) (LB : Sta Z Z.heap "java/lang/StringUTF16" "LO_BYTE_SHIFT" "I" (.int (8 : Int32))) :
    Met l Z consts_1 [] (⟨"java/lang/StringUTF16", "getChar", "([BI)C"⟩ : MethodName) jdk_52_method_5_code 2 (Option.some FieldType.char) [] ({ frames := 0, cells := 0, slots := 0, locals := 0 } : Room) #[(.ref b), (.int (0 : Int32))] h0 n0 (fun v h => v = some (.int c0) ∧ h0 = h) := by
  refine Met.of (Ls0 := #[.val (.ref b), .val (.int (0 : Int32))]) pl_8 (by first | (simp [argsToLocals, Value.category]; done) | rfl) hel ?_
  have hSA : ∀ d ∈ Bundle.stringAtoms, d.before a0 Z = true := fun d hd => hw d ((by decide +kernel : ∀ d ∈ Bundle.stringAtoms, d ∈ tables_1) d hd)
  intro p e s m below meth c hx hby hml hret hlk hown hnm hZ
  refine Go.getS (q := 3) hx hZ hown (host := "") (Or.inl (tw hw 88 rfl)) Via.refl (Sta.ext X0.2 AD) (hb hby d19_0) rfl ?_
  refine Go.if_ne (q := 6) (t := 28) hx (hb hby d19_3) (by decide) rfl rfl (fun hc3 => ?_) (fun hc3 => absurd hc3 (by decide))
  refine Go.iloadN (q := 29) hx (hb hby d19_28) rfl rfl ?_
  refine Go.iconst (q := 30) (z := (1 : Int32)) hx (hb hby d19_29) rfl rfl ?_
  refine Go.ishl (q := 31) hx (hb hby d19_30) rfl ?_
  rw [show (0 : Int32) <<< ((1 : Int32) &&& 31) = (0 : Int32) from by decide]
  refine Go.istoreN (q := 32) (l' := #[.val (.ref b), .val (.int (0 : Int32))]) hx (hb hby d19_31) rfl rfl ?_
  refine Go.aloadN (q := 33) hx (hb hby d19_32) rfl (by rfl) rfl ?_
  refine Go.iloadN (q := 34) hx (hb hby d19_33) rfl rfl ?_
  refine Go.iinc (q := 37) (l' := #[.val (.ref b), .val (.int ((0 : Int32) + (1 : Int32)))]) hx (hb hby d19_34) rfl rfl rfl ?_
  refine Go.baload (q := 38) (v := (.int (nar .byte (c0 >>> ((0 : Int32) &&& 31)).toInt8.toInt32))) hx hZ B ⟨by decide, by decide⟩ rfl (hb hby d19_37) rfl ?_
  refine Go.sipush (q := 41) (z := (255 : Int32)) hx (hb hby d19_38) rfl rfl ?_
  refine Go.iand (q := 42) hx (hb hby d19_41) rfl ?_
  refine Go.getS (q := 45) hx hZ hown (host := "") (Or.inl (tw hw 89 rfl)) Via.refl (Sta.ext X0.2 HB) (hb hby d19_42) rfl ?_
  refine Go.ishl (q := 46) hx (hb hby d19_45) rfl ?_
  refine Go.aloadN (q := 47) hx (hb hby d19_46) rfl (by rfl) rfl ?_
  refine Go.iloadN (q := 48) hx (hb hby d19_47) rfl rfl ?_
  refine Go.baload (q := 49) (v := (.int (nar .byte (c0 >>> ((8 : Int32) &&& 31)).toInt8.toInt32))) hx hZ B ⟨by decide, by decide⟩ rfl (hb hby d19_48) rfl ?_
  refine Go.sipush (q := 52) (z := (255 : Int32)) hx (hb hby d19_49) rfl rfl ?_
  refine Go.iand (q := 53) hx (hb hby d19_52) rfl ?_
  refine Go.getS (q := 56) hx hZ hown (host := "") (Or.inl (tw hw 90 rfl)) Via.refl (Sta.ext X0.2 LB) (hb hby d19_53) rfl ?_
  refine Go.ishl (q := 57) hx (hb hby d19_56) rfl ?_
  refine Go.ior (q := 58) hx (hb hby d19_57) rfl ?_
  refine Go.i2c (q := 59) hx (hb hby d19_58) rfl ?_
  refine Go.retN hx (t := .char) hret (by simp) hlk (hb hby d19_59) (by decide) (by decide) ?_
  exact ⟨congrArg (fun z => some (Value.int z)) (utf_ok hq0), rfl⟩
theorem rmP3_1 (l : Launch) (Z : State) (a0 : Array Value) (hw : ∀ d ∈ tables_1, d.before a0 Z = true) (hel : EW Z a0 consts_1) (b : Addr) (kb : ClassId) (x d0 d1 d2 d3 d4 d5 : Int32) (h0 : Heap) (n0 : Nat) (Z0 : n0 ≤ h0.size) (B : Arv Z h0 b kb .byte (6 : Int32) [(.int d0), (.int d1), (.int d2), (.int d3), (.int d4), (.int d5)] (.int (0 : Int32))) (gb : n0 ≤ b) (X0 : Old Z n0 h0) (AD : Sta Z Z.heap "java/lang/StringUTF16" "$assertionsDisabled" "Z" (.int (1 : Int32))) (HB : Sta Z Z.heap "java/lang/StringUTF16" "HI_BYTE_SHIFT" "I" (.int (0 : Int32))) (LB : Sta Z Z.heap "java/lang/StringUTF16" "LO_BYTE_SHIFT" "I" (.int (8 : Int32))) :
    Met l Z consts_1 [b] (⟨"java/lang/StringUTF16", "putChar", "([BII)V"⟩ : MethodName) jdk_52_method_4_code 3 (Option.none : Option FieldType) [] ({ frames := 0, cells := 0, slots := 0, locals := 0 } : Room) #[(.ref b), (.int (1 : Int32)), (.int x)] h0 n0 (fun v h => v = none ∧ Keep h0 h [b] ∧ Arv Z h b kb .byte (6 : Int32) [(.int d0), (.int d1), (.int (nar .byte (x >>> ((0 : Int32) &&& 31)).toInt8.toInt32)), (.int (nar .byte (x >>> ((8 : Int32) &&& 31)).toInt8.toInt32)), (.int d4), (.int d5)] (.int (0 : Int32))) := by
  refine Met.of (Ls0 := #[.val (.ref b), .val (.int (1 : Int32)), .val (.int x)]) pl_7 (by first | (simp [argsToLocals, Value.category]; done) | rfl) hel ?_
  have hSA : ∀ d ∈ Bundle.stringAtoms, d.before a0 Z = true := fun d hd => hw d ((by decide +kernel : ∀ d ∈ Bundle.stringAtoms, d ∈ tables_1) d hd)
  intro p e s m below meth c hx hby hml hret hlk hown hnm hZ
  refine Go.getS (q := 3) hx hZ hown (host := "") (Or.inl (tw hw 88 rfl)) Via.refl (Sta.ext X0.2 AD) (hb hby d18_0) rfl ?_
  refine Go.if_ne (q := 6) (t := 28) hx (hb hby d18_3) (by decide) rfl rfl (fun hc3 => ?_) (fun hc3 => absurd hc3 (by decide))
  refine Go.iloadN (q := 29) hx (hb hby d18_28) rfl rfl ?_
  refine Go.iconst (q := 30) (z := (1 : Int32)) hx (hb hby d18_29) rfl rfl ?_
  refine Go.ishl (q := 31) hx (hb hby d18_30) rfl ?_
  rw [show (1 : Int32) <<< ((1 : Int32) &&& 31) = (2 : Int32) from by decide]
  refine Go.istoreN (q := 32) (l' := #[.val (.ref b), .val (.int (2 : Int32)), .val (.int x)]) hx (hb hby d18_31) rfl rfl ?_
  refine Go.aloadN (q := 33) hx (hb hby d18_32) rfl (by rfl) rfl ?_
  refine Go.iloadN (q := 34) hx (hb hby d18_33) rfl rfl ?_
  refine Go.iinc (q := 37) (l' := #[.val (.ref b), .val (.int ((2 : Int32) + (1 : Int32))), .val (.int x)]) hx (hb hby d18_34) rfl rfl rfl ?_
  refine Go.iloadN (q := 38) hx (hb hby d18_37) rfl rfl ?_
  refine Go.getS (q := 41) hx hZ hown (host := "") (Or.inl (tw hw 89 rfl)) Via.refl (Sta.ext X0.2 HB) (hb hby d18_38) rfl ?_
  refine Go.ishr (q := 42) hx (hb hby d18_41) rfl ?_
  refine Go.i2b (q := 43) hx (hb hby d18_42) rfl ?_
  refine Go.bastore (q := 44) hx hZ B ⟨by decide, by decide⟩ 2 rfl (ble rfl) gb (by simp) (hb hby d18_43) rfl (fun h430 W431 V432 => ?_)
  refine Go.aloadN (q := 45) hx (hb hby d18_44) rfl (by rfl) rfl ?_
  refine Go.iloadN (q := 46) hx (hb hby d18_45) rfl rfl ?_
  refine Go.iloadN (q := 47) hx (hb hby d18_46) rfl rfl ?_
  refine Go.getS (q := 50) hx hZ hown (host := "") (Or.inl (tw hw 90 rfl)) Via.refl (Sta.ext (X0.wr W431 gb).2 LB) (hb hby d18_47) rfl ?_
  refine Go.ishr (q := 51) hx (hb hby d18_50) rfl ?_
  refine Go.i2b (q := 52) hx (hb hby d18_51) rfl ?_
  refine Go.bastore (q := 53) hx hZ V432 ⟨by decide, by decide⟩ 3 rfl (ble rfl) gb (by simp) (hb hby d18_52) rfl (fun h433 W434 V435 => ?_)
  refine Go.ret0 hx hret hlk (hb hby d18_53) (by decide) (by decide) ?_
  exact ⟨rfl, (((Keep.refl h0 [b]).wr W431 (Or.inl (by simp))).wr W434 (Or.inl (by simp))), V435⟩
theorem rmG3_1 (l : Launch) (Z : State) (a0 : Array Value) (hw : ∀ d ∈ tables_1, d.before a0 Z = true) (hel : EW Z a0 consts_1) (b : Addr) (kb : ClassId) (c0 c1 c2 : Int32) (h0 : Heap) (n0 : Nat) (Z0 : n0 ≤ h0.size) (B : Arv Z h0 b kb .byte (6 : Int32) [(.int (nar .byte (c0 >>> ((0 : Int32) &&& 31)).toInt8.toInt32)), (.int (nar .byte (c0 >>> ((8 : Int32) &&& 31)).toInt8.toInt32)), (.int (nar .byte (c1 >>> ((0 : Int32) &&& 31)).toInt8.toInt32)), (.int (nar .byte (c1 >>> ((8 : Int32) &&& 31)).toInt8.toInt32)), (.int (nar .byte (c2 >>> ((0 : Int32) &&& 31)).toInt8.toInt32)), (.int (nar .byte (c2 >>> ((8 : Int32) &&& 31)).toInt8.toInt32))] (.int (0 : Int32))) (hq1 : Chr c1) (X0 : Old Z n0 h0) (AD : Sta Z Z.heap "java/lang/StringUTF16" "$assertionsDisabled" "Z" (.int (1 : Int32))) (HB : Sta Z Z.heap "java/lang/StringUTF16" "HI_BYTE_SHIFT" "I" (.int (0 : Int32))) (LB : Sta Z Z.heap "java/lang/StringUTF16" "LO_BYTE_SHIFT" "I" (.int (8 : Int32))) :
    Met l Z consts_1 [] (⟨"java/lang/StringUTF16", "getChar", "([BI)C"⟩ : MethodName) jdk_52_method_5_code 2 (Option.some FieldType.char) [] ({ frames := 0, cells := 0, slots := 0, locals := 0 } : Room) #[(.ref b), (.int (1 : Int32))] h0 n0 (fun v h => v = some (.int c1) ∧ h0 = h) := by
  refine Met.of (Ls0 := #[.val (.ref b), .val (.int (1 : Int32))]) pl_8 (by first | (simp [argsToLocals, Value.category]; done) | rfl) hel ?_
  have hSA : ∀ d ∈ Bundle.stringAtoms, d.before a0 Z = true := fun d hd => hw d ((by decide +kernel : ∀ d ∈ Bundle.stringAtoms, d ∈ tables_1) d hd)
  intro p e s m below meth c hx hby hml hret hlk hown hnm hZ
  refine Go.getS (q := 3) hx hZ hown (host := "") (Or.inl (tw hw 88 rfl)) Via.refl (Sta.ext X0.2 AD) (hb hby d19_0) rfl ?_
  refine Go.if_ne (q := 6) (t := 28) hx (hb hby d19_3) (by decide) rfl rfl (fun hc3 => ?_) (fun hc3 => absurd hc3 (by decide))
  refine Go.iloadN (q := 29) hx (hb hby d19_28) rfl rfl ?_
  refine Go.iconst (q := 30) (z := (1 : Int32)) hx (hb hby d19_29) rfl rfl ?_
  refine Go.ishl (q := 31) hx (hb hby d19_30) rfl ?_
  rw [show (1 : Int32) <<< ((1 : Int32) &&& 31) = (2 : Int32) from by decide]
  refine Go.istoreN (q := 32) (l' := #[.val (.ref b), .val (.int (2 : Int32))]) hx (hb hby d19_31) rfl rfl ?_
  refine Go.aloadN (q := 33) hx (hb hby d19_32) rfl (by rfl) rfl ?_
  refine Go.iloadN (q := 34) hx (hb hby d19_33) rfl rfl ?_
  refine Go.iinc (q := 37) (l' := #[.val (.ref b), .val (.int ((2 : Int32) + (1 : Int32)))]) hx (hb hby d19_34) rfl rfl rfl ?_
  refine Go.baload (q := 38) (v := (.int (nar .byte (c1 >>> ((0 : Int32) &&& 31)).toInt8.toInt32))) hx hZ B ⟨by decide, by decide⟩ rfl (hb hby d19_37) rfl ?_
  refine Go.sipush (q := 41) (z := (255 : Int32)) hx (hb hby d19_38) rfl rfl ?_
  refine Go.iand (q := 42) hx (hb hby d19_41) rfl ?_
  refine Go.getS (q := 45) hx hZ hown (host := "") (Or.inl (tw hw 89 rfl)) Via.refl (Sta.ext X0.2 HB) (hb hby d19_42) rfl ?_
  refine Go.ishl (q := 46) hx (hb hby d19_45) rfl ?_
  refine Go.aloadN (q := 47) hx (hb hby d19_46) rfl (by rfl) rfl ?_
  refine Go.iloadN (q := 48) hx (hb hby d19_47) rfl rfl ?_
  refine Go.baload (q := 49) (v := (.int (nar .byte (c1 >>> ((8 : Int32) &&& 31)).toInt8.toInt32))) hx hZ B ⟨by decide, by decide⟩ rfl (hb hby d19_48) rfl ?_
  refine Go.sipush (q := 52) (z := (255 : Int32)) hx (hb hby d19_49) rfl rfl ?_
  refine Go.iand (q := 53) hx (hb hby d19_52) rfl ?_
  refine Go.getS (q := 56) hx hZ hown (host := "") (Or.inl (tw hw 90 rfl)) Via.refl (Sta.ext X0.2 LB) (hb hby d19_53) rfl ?_
  refine Go.ishl (q := 57) hx (hb hby d19_56) rfl ?_
  refine Go.ior (q := 58) hx (hb hby d19_57) rfl ?_
  refine Go.i2c (q := 59) hx (hb hby d19_58) rfl ?_
  refine Go.retN hx (t := .char) hret (by simp) hlk (hb hby d19_59) (by decide) (by decide) ?_
  exact ⟨congrArg (fun z => some (Value.int z)) (utf_ok hq1), rfl⟩
theorem rmP3_2 (l : Launch) (Z : State) (a0 : Array Value) (hw : ∀ d ∈ tables_1, d.before a0 Z = true) (hel : EW Z a0 consts_1) (b : Addr) (kb : ClassId) (x d0 d1 d2 d3 d4 d5 : Int32) (h0 : Heap) (n0 : Nat) (Z0 : n0 ≤ h0.size) (B : Arv Z h0 b kb .byte (6 : Int32) [(.int d0), (.int d1), (.int d2), (.int d3), (.int d4), (.int d5)] (.int (0 : Int32))) (gb : n0 ≤ b) (X0 : Old Z n0 h0) (AD : Sta Z Z.heap "java/lang/StringUTF16" "$assertionsDisabled" "Z" (.int (1 : Int32))) (HB : Sta Z Z.heap "java/lang/StringUTF16" "HI_BYTE_SHIFT" "I" (.int (0 : Int32))) (LB : Sta Z Z.heap "java/lang/StringUTF16" "LO_BYTE_SHIFT" "I" (.int (8 : Int32))) :
    Met l Z consts_1 [b] (⟨"java/lang/StringUTF16", "putChar", "([BII)V"⟩ : MethodName) jdk_52_method_4_code 3 (Option.none : Option FieldType) [] ({ frames := 0, cells := 0, slots := 0, locals := 0 } : Room) #[(.ref b), (.int (2 : Int32)), (.int x)] h0 n0 (fun v h => v = none ∧ Keep h0 h [b] ∧ Arv Z h b kb .byte (6 : Int32) [(.int d0), (.int d1), (.int d2), (.int d3), (.int (nar .byte (x >>> ((0 : Int32) &&& 31)).toInt8.toInt32)), (.int (nar .byte (x >>> ((8 : Int32) &&& 31)).toInt8.toInt32))] (.int (0 : Int32))) := by
  refine Met.of (Ls0 := #[.val (.ref b), .val (.int (2 : Int32)), .val (.int x)]) pl_7 (by first | (simp [argsToLocals, Value.category]; done) | rfl) hel ?_
  have hSA : ∀ d ∈ Bundle.stringAtoms, d.before a0 Z = true := fun d hd => hw d ((by decide +kernel : ∀ d ∈ Bundle.stringAtoms, d ∈ tables_1) d hd)
  intro p e s m below meth c hx hby hml hret hlk hown hnm hZ
  refine Go.getS (q := 3) hx hZ hown (host := "") (Or.inl (tw hw 88 rfl)) Via.refl (Sta.ext X0.2 AD) (hb hby d18_0) rfl ?_
  refine Go.if_ne (q := 6) (t := 28) hx (hb hby d18_3) (by decide) rfl rfl (fun hc3 => ?_) (fun hc3 => absurd hc3 (by decide))
  refine Go.iloadN (q := 29) hx (hb hby d18_28) rfl rfl ?_
  refine Go.iconst (q := 30) (z := (1 : Int32)) hx (hb hby d18_29) rfl rfl ?_
  refine Go.ishl (q := 31) hx (hb hby d18_30) rfl ?_
  rw [show (2 : Int32) <<< ((1 : Int32) &&& 31) = (4 : Int32) from by decide]
  refine Go.istoreN (q := 32) (l' := #[.val (.ref b), .val (.int (4 : Int32)), .val (.int x)]) hx (hb hby d18_31) rfl rfl ?_
  refine Go.aloadN (q := 33) hx (hb hby d18_32) rfl (by rfl) rfl ?_
  refine Go.iloadN (q := 34) hx (hb hby d18_33) rfl rfl ?_
  refine Go.iinc (q := 37) (l' := #[.val (.ref b), .val (.int ((4 : Int32) + (1 : Int32))), .val (.int x)]) hx (hb hby d18_34) rfl rfl rfl ?_
  refine Go.iloadN (q := 38) hx (hb hby d18_37) rfl rfl ?_
  refine Go.getS (q := 41) hx hZ hown (host := "") (Or.inl (tw hw 89 rfl)) Via.refl (Sta.ext X0.2 HB) (hb hby d18_38) rfl ?_
  refine Go.ishr (q := 42) hx (hb hby d18_41) rfl ?_
  refine Go.i2b (q := 43) hx (hb hby d18_42) rfl ?_
  refine Go.bastore (q := 44) hx hZ B ⟨by decide, by decide⟩ 4 rfl (ble rfl) gb (by simp) (hb hby d18_43) rfl (fun h436 W437 V438 => ?_)
  refine Go.aloadN (q := 45) hx (hb hby d18_44) rfl (by rfl) rfl ?_
  refine Go.iloadN (q := 46) hx (hb hby d18_45) rfl rfl ?_
  refine Go.iloadN (q := 47) hx (hb hby d18_46) rfl rfl ?_
  refine Go.getS (q := 50) hx hZ hown (host := "") (Or.inl (tw hw 90 rfl)) Via.refl (Sta.ext (X0.wr W437 gb).2 LB) (hb hby d18_47) rfl ?_
  refine Go.ishr (q := 51) hx (hb hby d18_50) rfl ?_
  refine Go.i2b (q := 52) hx (hb hby d18_51) rfl ?_
  refine Go.bastore (q := 53) hx hZ V438 ⟨by decide, by decide⟩ 5 rfl (ble rfl) gb (by simp) (hb hby d18_52) rfl (fun h439 W440 V441 => ?_)
  refine Go.ret0 hx hret hlk (hb hby d18_53) (by decide) (by decide) ?_
  exact ⟨rfl, (((Keep.refl h0 [b]).wr W437 (Or.inl (by simp))).wr W440 (Or.inl (by simp))), V441⟩
theorem rmG3_2 (l : Launch) (Z : State) (a0 : Array Value) (hw : ∀ d ∈ tables_1, d.before a0 Z = true) (hel : EW Z a0 consts_1) (b : Addr) (kb : ClassId) (c0 c1 c2 : Int32) (h0 : Heap) (n0 : Nat) (Z0 : n0 ≤ h0.size) (B : Arv Z h0 b kb .byte (6 : Int32) [(.int (nar .byte (c0 >>> ((0 : Int32) &&& 31)).toInt8.toInt32)), (.int (nar .byte (c0 >>> ((8 : Int32) &&& 31)).toInt8.toInt32)), (.int (nar .byte (c1 >>> ((0 : Int32) &&& 31)).toInt8.toInt32)), (.int (nar .byte (c1 >>> ((8 : Int32) &&& 31)).toInt8.toInt32)), (.int (nar .byte (c2 >>> ((0 : Int32) &&& 31)).toInt8.toInt32)), (.int (nar .byte (c2 >>> ((8 : Int32) &&& 31)).toInt8.toInt32))] (.int (0 : Int32))) (hq2 : Chr c2) (X0 : Old Z n0 h0) (AD : Sta Z Z.heap "java/lang/StringUTF16" "$assertionsDisabled" "Z" (.int (1 : Int32))) (HB : Sta Z Z.heap "java/lang/StringUTF16" "HI_BYTE_SHIFT" "I" (.int (0 : Int32))) (LB : Sta Z Z.heap "java/lang/StringUTF16" "LO_BYTE_SHIFT" "I" (.int (8 : Int32))) :
    Met l Z consts_1 [] (⟨"java/lang/StringUTF16", "getChar", "([BI)C"⟩ : MethodName) jdk_52_method_5_code 2 (Option.some FieldType.char) [] ({ frames := 0, cells := 0, slots := 0, locals := 0 } : Room) #[(.ref b), (.int (2 : Int32))] h0 n0 (fun v h => v = some (.int c2) ∧ h0 = h) := by
  refine Met.of (Ls0 := #[.val (.ref b), .val (.int (2 : Int32))]) pl_8 (by first | (simp [argsToLocals, Value.category]; done) | rfl) hel ?_
  have hSA : ∀ d ∈ Bundle.stringAtoms, d.before a0 Z = true := fun d hd => hw d ((by decide +kernel : ∀ d ∈ Bundle.stringAtoms, d ∈ tables_1) d hd)
  intro p e s m below meth c hx hby hml hret hlk hown hnm hZ
  refine Go.getS (q := 3) hx hZ hown (host := "") (Or.inl (tw hw 88 rfl)) Via.refl (Sta.ext X0.2 AD) (hb hby d19_0) rfl ?_
  refine Go.if_ne (q := 6) (t := 28) hx (hb hby d19_3) (by decide) rfl rfl (fun hc3 => ?_) (fun hc3 => absurd hc3 (by decide))
  refine Go.iloadN (q := 29) hx (hb hby d19_28) rfl rfl ?_
  refine Go.iconst (q := 30) (z := (1 : Int32)) hx (hb hby d19_29) rfl rfl ?_
  refine Go.ishl (q := 31) hx (hb hby d19_30) rfl ?_
  rw [show (2 : Int32) <<< ((1 : Int32) &&& 31) = (4 : Int32) from by decide]
  refine Go.istoreN (q := 32) (l' := #[.val (.ref b), .val (.int (4 : Int32))]) hx (hb hby d19_31) rfl rfl ?_
  refine Go.aloadN (q := 33) hx (hb hby d19_32) rfl (by rfl) rfl ?_
  refine Go.iloadN (q := 34) hx (hb hby d19_33) rfl rfl ?_
  refine Go.iinc (q := 37) (l' := #[.val (.ref b), .val (.int ((4 : Int32) + (1 : Int32)))]) hx (hb hby d19_34) rfl rfl rfl ?_
  refine Go.baload (q := 38) (v := (.int (nar .byte (c2 >>> ((0 : Int32) &&& 31)).toInt8.toInt32))) hx hZ B ⟨by decide, by decide⟩ rfl (hb hby d19_37) rfl ?_
  refine Go.sipush (q := 41) (z := (255 : Int32)) hx (hb hby d19_38) rfl rfl ?_
  refine Go.iand (q := 42) hx (hb hby d19_41) rfl ?_
  refine Go.getS (q := 45) hx hZ hown (host := "") (Or.inl (tw hw 89 rfl)) Via.refl (Sta.ext X0.2 HB) (hb hby d19_42) rfl ?_
  refine Go.ishl (q := 46) hx (hb hby d19_45) rfl ?_
  refine Go.aloadN (q := 47) hx (hb hby d19_46) rfl (by rfl) rfl ?_
  refine Go.iloadN (q := 48) hx (hb hby d19_47) rfl rfl ?_
  refine Go.baload (q := 49) (v := (.int (nar .byte (c2 >>> ((8 : Int32) &&& 31)).toInt8.toInt32))) hx hZ B ⟨by decide, by decide⟩ rfl (hb hby d19_48) rfl ?_
  refine Go.sipush (q := 52) (z := (255 : Int32)) hx (hb hby d19_49) rfl rfl ?_
  refine Go.iand (q := 53) hx (hb hby d19_52) rfl ?_
  refine Go.getS (q := 56) hx hZ hown (host := "") (Or.inl (tw hw 90 rfl)) Via.refl (Sta.ext X0.2 LB) (hb hby d19_53) rfl ?_
  refine Go.ishl (q := 57) hx (hb hby d19_56) rfl ?_
  refine Go.ior (q := 58) hx (hb hby d19_57) rfl ?_
  refine Go.i2c (q := 59) hx (hb hby d19_58) rfl ?_
  refine Go.retN hx (t := .char) hret (by simp) hlk (hb hby d19_59) (by decide) (by decide) ?_
  exact ⟨congrArg (fun z => some (Value.int z)) (utf_ok hq2), rfl⟩
theorem rmT3 (l : Launch) (Z : State) (a0 : Array Value) (hw : ∀ d ∈ tables_1, d.before a0 Z = true) (hel : EW Z a0 consts_1) (a : Addr) (ka : ClassId) (c0 c1 c2 : Int32) (h0 : Heap) (n0 : Nat) (Z0 : n0 ≤ h0.size) (A : Arv Z h0 a ka .char (3 : Int32) [.int c0, .int c1, .int c2] (.int (0 : Int32))) (X0 : Old Z n0 h0) (AD : Sta Z Z.heap "java/lang/StringUTF16" "$assertionsDisabled" "Z" (.int (1 : Int32))) (HB : Sta Z Z.heap "java/lang/StringUTF16" "HI_BYTE_SHIFT" "I" (.int (0 : Int32))) (LB : Sta Z Z.heap "java/lang/StringUTF16" "LO_BYTE_SHIFT" "I" (.int (8 : Int32))) :
    Met l Z consts_1 [] (⟨"java/lang/StringUTF16", "toBytes", "([CII)[B"⟩ : MethodName) jdk_52_method_14_code 5 (Option.some (FieldType.array FieldType.byte)) [] ({ frames := 2, cells := 1, slots := 6, locals := 36 } : Room) #[(.ref a), (.int (0 : Int32)), (.int (3 : Int32))] h0 n0 (fun v h => ∃ b kb, v = some (.ref b) ∧ h0.size ≤ b ∧ Keep h0 h [] ∧ Arv Z h b kb .byte (6 : Int32) [(.int (nar .byte (c0 >>> ((0 : Int32) &&& 31)).toInt8.toInt32)), (.int (nar .byte (c0 >>> ((8 : Int32) &&& 31)).toInt8.toInt32)), (.int (nar .byte (c1 >>> ((0 : Int32) &&& 31)).toInt8.toInt32)), (.int (nar .byte (c1 >>> ((8 : Int32) &&& 31)).toInt8.toInt32)), (.int (nar .byte (c2 >>> ((0 : Int32) &&& 31)).toInt8.toInt32)), (.int (nar .byte (c2 >>> ((8 : Int32) &&& 31)).toInt8.toInt32))] (.int (0 : Int32))) := by
  refine Met.of (Ls0 := #[.val (.ref a), .val (.int (0 : Int32)), .val (.int (3 : Int32)), .unset, .unset]) pl_9 (by first | (simp [argsToLocals, Value.category]; done) | rfl) hel ?_
  intro p e s m below meth c hx hby hml hret hlk hown hnm hZ
  refine Go.iloadN (q := 1) hx (hb hby d15_0) rfl rfl ?_
  refine Go.callS (q := 4) hx hZ (argsL := [(.int (3 : Int32))]) (rest := []) hown (tw hw 78 rfl) (tw hw 79 rfl) (tw hw 45 rfl) (tw hw 80 rfl) (by decide) (rmNB3 l Z a0 hw hel h0 n0 Z0) (fun _ hx => nomatch hx) (by rw [hml]; rfl) pd_8 rfl rfl (hb hby d15_1) rfl (by decide) (ble rfl) (ce' := 1) (sl' := 6) rfl rfl (by decide) (by decide) (fun v442 h443 hQ444 => ?_)
  have lt450 := (A).lt
  obtain ⟨b445, k446, rfl, g447, K448, V449⟩ := hQ444
  have ne451 : a ≠ b445 := Nat.ne_of_lt (Nat.lt_of_lt_of_le lt450 g447)
  have gz452 : n0 ≤ b445 := Nat.le_trans Z0 g447
  refine Go.safe (x := b445) V449.lt (fun vm hzv => safe_len hzv (tw hw 20 rfl) V449 (by decide)) ?_
  show Go _ _ _ _ _ _ _ _ _ _ _ _ _ _ _ _ _ _ _ _ 1 6 4 #[.val (.ref a), .val (.int (0 : Int32)), .val (.int (3 : Int32)), .unset, .unset] [(.ref b445)]
  refine Go.astoreN (q := 5) (l' := #[.val (.ref a), .val (.int (0 : Int32)), .val (.int (3 : Int32)), .val (.ref b445), .unset]) hx (hb hby d15_4) (by rfl) rfl rfl ?_
  refine Go.iconst (q := 6) (z := (0 : Int32)) hx (hb hby d15_5) rfl rfl ?_
  refine Go.istore (q := 8) (l' := #[.val (.ref a), .val (.int (0 : Int32)), .val (.int (3 : Int32)), .val (.ref b445), .val (.int (0 : Int32))]) hx (hb hby d15_6) rfl rfl ?_
  refine Go.iload (q := 10) hx (hb hby d15_8) rfl rfl ?_
  refine Go.iloadN (q := 11) hx (hb hby d15_10) rfl rfl ?_
  refine Go.icmp_ge (q := 14) (t := 32) hx (hb hby d15_11) (by decide) rfl rfl (fun hc11 => absurd hc11 (by decide)) (fun hc11 => ?_)
  refine Go.aloadN (q := 15) hx (hb hby d15_14) rfl (by rfl) rfl ?_
  refine Go.iload (q := 17) hx (hb hby d15_15) rfl rfl ?_
  refine Go.aloadN (q := 18) hx (hb hby d15_17) rfl (by rfl) rfl ?_
  refine Go.iloadN (q := 19) hx (hb hby d15_18) rfl rfl ?_
  refine Go.caload (q := 20) (v := (.int c0)) hx hZ (A.keep K448 nin0) ⟨by decide, by decide⟩ rfl (hb hby d15_19) rfl ?_
  refine Go.callS (q := 23) hx hZ (argsL := [(.ref b445), (.int (0 : Int32)), (.int c0)]) (rest := []) hown (tw hw 85 rfl) (tw hw 86 rfl) (tw hw 45 rfl) (tw hw 87 rfl) (by decide) (rmP3_0 l Z a0 hw hel b445 k446 c0 (0 : Int32) (0 : Int32) (0 : Int32) (0 : Int32) (0 : Int32) (0 : Int32) h443 n0 (Nat.le_trans Z0 K448.1) V449 gz452 (X0.keep K448 all0) AD HB LB) (by simp) (by rw [hml]; rfl) pd_9 rfl rfl (hb hby d15_20) rfl (by decide) (ble rfl) (ce' := 1) (sl' := 6) rfl rfl (by decide) (by decide) (fun v453 h454 hQ455 => ?_)
  obtain ⟨rfl, K456, V457⟩ := hQ455
  show Go _ _ _ _ _ _ _ _ _ _ _ _ _ _ _ _ _ _ _ _ 1 6 23 #[.val (.ref a), .val (.int (0 : Int32)), .val (.int (3 : Int32)), .val (.ref b445), .val (.int (0 : Int32))] []
  refine Go.iinc (q := 26) (l' := #[.val (.ref a), .val (.int ((0 : Int32) + (1 : Int32))), .val (.int (3 : Int32)), .val (.ref b445), .val (.int (0 : Int32))]) hx (hb hby d15_23) rfl rfl rfl ?_
  refine Go.iinc (q := 29) (l' := #[.val (.ref a), .val (.int ((0 : Int32) + (1 : Int32))), .val (.int (3 : Int32)), .val (.ref b445), .val (.int ((0 : Int32) + (1 : Int32)))]) hx (hb hby d15_26) rfl rfl rfl ?_
  refine Go.goto (q := 8) hx (hb hby d15_29) (by decide) rfl ?_
  rw [show (0 : Int32) + (1 : Int32) = (1 : Int32) from by decide]
  refine Go.iload (q := 10) hx (hb hby d15_8) rfl rfl ?_
  refine Go.iloadN (q := 11) hx (hb hby d15_10) rfl rfl ?_
  refine Go.icmp_ge (q := 14) (t := 32) hx (hb hby d15_11) (by decide) rfl rfl (fun hc11_1 => absurd hc11_1 (by decide)) (fun hc11_1 => ?_)
  refine Go.aloadN (q := 15) hx (hb hby d15_14) rfl (by rfl) rfl ?_
  refine Go.iload (q := 17) hx (hb hby d15_15) rfl rfl ?_
  refine Go.aloadN (q := 18) hx (hb hby d15_17) rfl (by rfl) rfl ?_
  refine Go.iloadN (q := 19) hx (hb hby d15_18) rfl rfl ?_
  refine Go.caload (q := 20) (v := (.int c1)) hx hZ ((A.keep K448 nin0).keep K456 (ninS ne451 nin0)) ⟨by decide, by decide⟩ rfl (hb hby d15_19) rfl ?_
  refine Go.callS (q := 23) hx hZ (argsL := [(.ref b445), (.int (1 : Int32)), (.int c1)]) (rest := []) hown (tw hw 85 rfl) (tw hw 86 rfl) (tw hw 45 rfl) (tw hw 87 rfl) (by decide) (rmP3_1 l Z a0 hw hel b445 k446 c1 (nar .byte (c0 >>> ((0 : Int32) &&& 31)).toInt8.toInt32) (nar .byte (c0 >>> ((8 : Int32) &&& 31)).toInt8.toInt32) (0 : Int32) (0 : Int32) (0 : Int32) (0 : Int32) h454 n0 (Nat.le_trans (Nat.le_trans Z0 K448.1) K456.1) V457 gz452 ((X0.keep K448 all0).keep K456 (allS gz452 all0)) AD HB LB) (by simp) (by rw [hml]; rfl) pd_9 rfl rfl (hb hby d15_20) rfl (by decide) (ble rfl) (ce' := 1) (sl' := 6) rfl rfl (by decide) (by decide) (fun v458 h459 hQ460 => ?_)
  obtain ⟨rfl, K461, V462⟩ := hQ460
  show Go _ _ _ _ _ _ _ _ _ _ _ _ _ _ _ _ _ _ _ _ 1 6 23 #[.val (.ref a), .val (.int (1 : Int32)), .val (.int (3 : Int32)), .val (.ref b445), .val (.int (1 : Int32))] []
  refine Go.iinc (q := 26) (l' := #[.val (.ref a), .val (.int ((1 : Int32) + (1 : Int32))), .val (.int (3 : Int32)), .val (.ref b445), .val (.int (1 : Int32))]) hx (hb hby d15_23) rfl rfl rfl ?_
  refine Go.iinc (q := 29) (l' := #[.val (.ref a), .val (.int ((1 : Int32) + (1 : Int32))), .val (.int (3 : Int32)), .val (.ref b445), .val (.int ((1 : Int32) + (1 : Int32)))]) hx (hb hby d15_26) rfl rfl rfl ?_
  refine Go.goto (q := 8) hx (hb hby d15_29) (by decide) rfl ?_
  rw [show (1 : Int32) + (1 : Int32) = (2 : Int32) from by decide]
  refine Go.iload (q := 10) hx (hb hby d15_8) rfl rfl ?_
  refine Go.iloadN (q := 11) hx (hb hby d15_10) rfl rfl ?_
  refine Go.icmp_ge (q := 14) (t := 32) hx (hb hby d15_11) (by decide) rfl rfl (fun hc11_2 => absurd hc11_2 (by decide)) (fun hc11_2 => ?_)
  refine Go.aloadN (q := 15) hx (hb hby d15_14) rfl (by rfl) rfl ?_
  refine Go.iload (q := 17) hx (hb hby d15_15) rfl rfl ?_
  refine Go.aloadN (q := 18) hx (hb hby d15_17) rfl (by rfl) rfl ?_
  refine Go.iloadN (q := 19) hx (hb hby d15_18) rfl rfl ?_
  refine Go.caload (q := 20) (v := (.int c2)) hx hZ (((A.keep K448 nin0).keep K456 (ninS ne451 nin0)).keep K461 (ninS ne451 nin0)) ⟨by decide, by decide⟩ rfl (hb hby d15_19) rfl ?_
  refine Go.callS (q := 23) hx hZ (argsL := [(.ref b445), (.int (2 : Int32)), (.int c2)]) (rest := []) hown (tw hw 85 rfl) (tw hw 86 rfl) (tw hw 45 rfl) (tw hw 87 rfl) (by decide) (rmP3_2 l Z a0 hw hel b445 k446 c2 (nar .byte (c0 >>> ((0 : Int32) &&& 31)).toInt8.toInt32) (nar .byte (c0 >>> ((8 : Int32) &&& 31)).toInt8.toInt32) (nar .byte (c1 >>> ((0 : Int32) &&& 31)).toInt8.toInt32) (nar .byte (c1 >>> ((8 : Int32) &&& 31)).toInt8.toInt32) (0 : Int32) (0 : Int32) h459 n0 (Nat.le_trans (Nat.le_trans (Nat.le_trans Z0 K448.1) K456.1) K461.1) V462 gz452 (((X0.keep K448 all0).keep K456 (allS gz452 all0)).keep K461 (allS gz452 all0)) AD HB LB) (by simp) (by rw [hml]; rfl) pd_9 rfl rfl (hb hby d15_20) rfl (by decide) (ble rfl) (ce' := 1) (sl' := 6) rfl rfl (by decide) (by decide) (fun v463 h464 hQ465 => ?_)
  obtain ⟨rfl, K466, V467⟩ := hQ465
  show Go _ _ _ _ _ _ _ _ _ _ _ _ _ _ _ _ _ _ _ _ 1 6 23 #[.val (.ref a), .val (.int (2 : Int32)), .val (.int (3 : Int32)), .val (.ref b445), .val (.int (2 : Int32))] []
  refine Go.iinc (q := 26) (l' := #[.val (.ref a), .val (.int ((2 : Int32) + (1 : Int32))), .val (.int (3 : Int32)), .val (.ref b445), .val (.int (2 : Int32))]) hx (hb hby d15_23) rfl rfl rfl ?_
  refine Go.iinc (q := 29) (l' := #[.val (.ref a), .val (.int ((2 : Int32) + (1 : Int32))), .val (.int (3 : Int32)), .val (.ref b445), .val (.int ((2 : Int32) + (1 : Int32)))]) hx (hb hby d15_26) rfl rfl rfl ?_
  refine Go.goto (q := 8) hx (hb hby d15_29) (by decide) rfl ?_
  rw [show (2 : Int32) + (1 : Int32) = (3 : Int32) from by decide]
  refine Go.iload (q := 10) hx (hb hby d15_8) rfl rfl ?_
  refine Go.iloadN (q := 11) hx (hb hby d15_10) rfl rfl ?_
  refine Go.icmp_ge (q := 14) (t := 32) hx (hb hby d15_11) (by decide) rfl rfl (fun hc11_3 => ?_) (fun hc11_3 => absurd hc11_3 (by decide))
  refine Go.aloadN (q := 33) hx (hb hby d15_32) rfl (by rfl) rfl ?_
  refine Go.retA hx hret rfl (by rfl) hlk (hb hby d15_33) (by decide) (by decide) ?_
  exact ⟨b445, _, rfl, g447, (Keep.trans (Keep.trans (Keep.trans (Keep.trans (Keep.refl h0 []) K448 all0) K456 (allS (Or.inr g447) all0)) K461 (allS (Or.inr g447) all0)) K466 (allS (Or.inr g447) all0)), V467⟩
theorem rmCU3_0 (l : Launch) (Z : State) (a0 : Array Value) (hw : ∀ d ∈ tables_1, d.before a0 Z = true) (hel : EW Z a0 consts_1) (a b : Addr) (ka kb : ClassId) (c0 c1 c2 : Int32) (h0 : Heap) (n0 : Nat) (Z0 : n0 ≤ h0.size) (A : Arv Z h0 a ka .char (3 : Int32) [.int c0, .int c1, .int c2] (.int (0 : Int32))) (B : Arv Z h0 b kb .byte (3 : Int32) [(.int (0 : Int32)), (.int (0 : Int32)), (.int (0 : Int32))] (.int (0 : Int32))) (gb : n0 ≤ b) (nab : a ≠ b)  (hk : (255 : Int32) < c0) :
    Met l Z consts_1 [b] (⟨"java/lang/StringUTF16", "compress", "([CI[BII)I"⟩ : MethodName) jdk_52_method_21_code 7 (Option.some FieldType.int) [] ({ frames := 0, cells := 0, slots := 0, locals := 0 } : Room) #[(.ref a), (.int (0 : Int32)), (.ref b), (.int (0 : Int32)), (.int (3 : Int32))] h0 n0 (fun v h => v = some (.int (0 : Int32)) ∧ Keep h0 h [b]) := by
  refine Met.of (Ls0 := #[.val (.ref a), .val (.int (0 : Int32)), .val (.ref b), .val (.int (0 : Int32)), .val (.int (3 : Int32)), .unset, .unset]) pl_3 (by first | (simp [argsToLocals, Value.category]; done) | rfl) hel ?_
  intro p e s m below meth c hx hby hml hret hlk hown hnm hZ
  refine Go.iconst (q := 1) (z := (0 : Int32)) hx (hb hby d8_0) rfl rfl ?_
  refine Go.istore (q := 3) (l' := #[.val (.ref a), .val (.int (0 : Int32)), .val (.ref b), .val (.int (0 : Int32)), .val (.int (3 : Int32)), .val (.int (0 : Int32)), .unset]) hx (hb hby d8_1) rfl rfl ?_
  refine Go.iload (q := 5) hx (hb hby d8_3) rfl rfl ?_
  refine Go.iload (q := 7) hx (hb hby d8_5) rfl rfl ?_
  refine Go.icmp_ge (q := 10) (t := 44) hx (hb hby d8_7) (by decide) rfl rfl (fun hc7 => absurd hc7 (by decide)) (fun hc7 => ?_)
  refine Go.aloadN (q := 11) hx (hb hby d8_10) rfl (by rfl) rfl ?_
  refine Go.iloadN (q := 12) hx (hb hby d8_11) rfl rfl ?_
  refine Go.caload (q := 13) (v := (.int c0)) hx hZ A ⟨by decide, by decide⟩ rfl (hb hby d8_12) rfl ?_
  refine Go.istore (q := 15) (l' := #[.val (.ref a), .val (.int (0 : Int32)), .val (.ref b), .val (.int (0 : Int32)), .val (.int (3 : Int32)), .val (.int (0 : Int32)), .val (.int c0)]) hx (hb hby d8_13) rfl rfl ?_
  refine Go.iload (q := 17) hx (hb hby d8_15) rfl rfl ?_
  refine Go.sipush (q := 20) (z := (255 : Int32)) hx (hb hby d8_17) rfl rfl ?_
  refine Go.icmp_le (q := 23) (t := 26) hx (hb hby d8_20) (by decide) rfl rfl (fun hc20 => absurd hk hc20) (fun hc20 => ?_)
  refine Go.iload (q := 25) hx (hb hby d8_23) rfl rfl ?_
  refine Go.retI hx hret hlk (hb hby d8_25) (by decide) (by decide) ?_
  exact ⟨rfl, (Keep.refl h0 [b])⟩
theorem rmDU3_0 (l : Launch) (Z : State) (a0 : Array Value) (hw : ∀ d ∈ tables_1, d.before a0 Z = true) (hel : EW Z a0 consts_1) (a : Addr) (ka : ClassId) (c0 c1 c2 : Int32) (h0 : Heap) (n0 : Nat) (Z0 : n0 ≤ h0.size) (A : Arv Z h0 a ka .char (3 : Int32) [.int c0, .int c1, .int c2] (.int (0 : Int32))) (hq0 : Chr c0) (hq1 : Chr c1) (hq2 : Chr c2)  (hk : (255 : Int32) < c0) (X0 : Old Z n0 h0) (AD : Sta Z Z.heap "java/lang/StringUTF16" "$assertionsDisabled" "Z" (.int (1 : Int32))) (HB : Sta Z Z.heap "java/lang/StringUTF16" "HI_BYTE_SHIFT" "I" (.int (0 : Int32))) (LB : Sta Z Z.heap "java/lang/StringUTF16" "LO_BYTE_SHIFT" "I" (.int (8 : Int32))) :
    Met l Z consts_1 [] (⟨"java/lang/StringUTF16", "compress", "([CII)[B"⟩ : MethodName) jdk_52_method_16_code 6 (Option.some (FieldType.array FieldType.byte)) [] ({ frames := 3, cells := 2, slots := 9, locals := 58 } : Room) #[(.ref a), (.int (0 : Int32)), (.int (3 : Int32))] h0 n0 (fun v h => ∃ b kb, v = some (.ref b) ∧ h0.size ≤ b ∧ Keep h0 h [] ∧ Arv Z h b kb .byte (6 : Int32) [(.int (nar .byte (c0 >>> ((0 : Int32) &&& 31)).toInt8.toInt32)), (.int (nar .byte (c0 >>> ((8 : Int32) &&& 31)).toInt8.toInt32)), (.int (nar .byte (c1 >>> ((0 : Int32) &&& 31)).toInt8.toInt32)), (.int (nar .byte (c1 >>> ((8 : Int32) &&& 31)).toInt8.toInt32)), (.int (nar .byte (c2 >>> ((0 : Int32) &&& 31)).toInt8.toInt32)), (.int (nar .byte (c2 >>> ((8 : Int32) &&& 31)).toInt8.toInt32))] (.int (0 : Int32))) := by
  refine Met.of (Ls0 := #[.val (.ref a), .val (.int (0 : Int32)), .val (.int (3 : Int32)), .unset, .unset, .unset]) pl_4 (by first | (simp [argsToLocals, Value.category]; done) | rfl) hel ?_
  intro p e s m below meth c hx hby hml hret hlk hown hnm hZ
  refine Go.iloadN (q := 1) hx (hb hby d7_0) rfl rfl ?_
  refine Go.newP (q := 3) (cap := 3) hx hZ (tw hw 21 rfl) (by decide) (by decide) (hb hby d7_1) rfl (by decide) (ce' := 1) (sl' := 3) rfl rfl (by decide) (by decide) (fun h468 a469 k470 g471 E472 A473 => ?_)
  have ne474 : a ≠ a469 := by rw [g471]; exact Nat.ne_of_lt (A).lt
  have gz475 : n0 ≤ a469 := by rw [g471]; exact Z0
  have gk476 : h0.size ≤ a469 := by rw [g471]; exact (Keep.refl h0 []).1
  have V477 : Arv Z h468 a469 k470 .byte (3 : Int32) [(.int (0 : Int32)), (.int (0 : Int32)), (.int (0 : Int32))] (.int (0 : Int32)) := A473.pad (pad_rep [] (.int (0 : Int32)) 3)
  refine Go.astoreN (q := 4) (l' := #[.val (.ref a), .val (.int (0 : Int32)), .val (.int (3 : Int32)), .val (.ref a469), .unset, .unset]) hx (hb hby d7_3) (by rfl) rfl rfl ?_
  refine Go.aloadN (q := 5) hx (hb hby d7_4) rfl (by rfl) rfl ?_
  refine Go.iloadN (q := 6) hx (hb hby d7_5) rfl rfl ?_
  refine Go.aloadN (q := 7) hx (hb hby d7_6) rfl (by rfl) rfl ?_
  refine Go.iconst (q := 8) (z := (0 : Int32)) hx (hb hby d7_7) rfl rfl ?_
  refine Go.iloadN (q := 9) hx (hb hby d7_8) rfl rfl ?_
  refine Go.callS (q := 12) hx hZ (argsL := [(.ref a), (.int (0 : Int32)), (.ref a469), (.int (0 : Int32)), (.int (3 : Int32))]) (rest := []) hown (tw hw 47 rfl) (tw hw 48 rfl) (tw hw 45 rfl) (tw hw 49 rfl) (by decide) (rmCU3_0 l Z a0 hw hel a a469 ka k470 c0 c1 c2 h468 n0 (Nat.le_trans Z0 E472.1) (A.ext E472) V477 gz475 ne474  hk) (by simp) (by rw [hml]; rfl) pd_4 rfl rfl (hb hby d7_9) rfl (by decide) (ble rfl) (ce' := 1) (sl' := 3) rfl rfl (by decide) (by decide) (fun v478 h479 hQ480 => ?_)
  obtain ⟨rfl, K481⟩ := hQ480
  show Go _ _ _ _ _ _ _ _ _ _ _ _ _ _ _ _ _ _ _ _ 1 3 12 #[.val (.ref a), .val (.int (0 : Int32)), .val (.int (3 : Int32)), .val (.ref a469), .unset, .unset] [(.int (0 : Int32))]
  refine Go.istore (q := 14) (l' := #[.val (.ref a), .val (.int (0 : Int32)), .val (.int (3 : Int32)), .val (.ref a469), .val (.int (0 : Int32)), .unset]) hx (hb hby d7_12) rfl rfl ?_
  refine Go.iload (q := 16) hx (hb hby d7_14) rfl rfl ?_
  refine Go.iloadN (q := 17) hx (hb hby d7_16) rfl rfl ?_
  refine Go.icmp_eq (q := 20) (t := 57) hx (hb hby d7_17) (by decide) rfl rfl (fun hc17 => absurd hc17 (by decide)) (fun hc17 => ?_)
  refine Go.aloadN (q := 21) hx (hb hby d7_20) rfl (by rfl) rfl ?_
  refine Go.iloadN (q := 22) hx (hb hby d7_21) rfl rfl ?_
  refine Go.iloadN (q := 23) hx (hb hby d7_22) rfl rfl ?_
  have gk482 := (Keep.trans ((Keep.refl h0 []).ext E472) K481 (allS (Or.inr gk476) all0)).1
  refine Go.callS (q := 26) hx hZ (argsL := [(.ref a), (.int (0 : Int32)), (.int (3 : Int32))]) (rest := []) hown (tw hw 75 rfl) (tw hw 76 rfl) (tw hw 45 rfl) (tw hw 77 rfl) (by decide) (rmT3 l Z a0 hw hel a ka c0 c1 c2 h479 n0 (Nat.le_trans (Nat.le_trans Z0 E472.1) K481.1) ((A.ext E472).keep K481 (ninS ne474 nin0)) ((X0.ext E472).keep K481 (allS gz475 all0)) AD HB LB) (fun _ hx => nomatch hx) (by rw [hml]; rfl) pd_1 rfl rfl (hb hby d7_23) rfl (by decide) (ble rfl) (ce' := 2) (sl' := 9) rfl rfl (by decide) (by decide) (fun v483 h484 hQ485 => ?_)
  obtain ⟨b486, k487, rfl, g488, K489, V490⟩ := hQ485
  show Go _ _ _ _ _ _ _ _ _ _ _ _ _ _ _ _ _ _ _ _ 2 9 26 #[.val (.ref a), .val (.int (0 : Int32)), .val (.int (3 : Int32)), .val (.ref a469), .val (.int (0 : Int32)), .unset] [(.ref b486)]
  refine Go.astore (q := 28) (l' := #[.val (.ref a), .val (.int (0 : Int32)), .val (.int (3 : Int32)), .val (.ref a469), .val (.int (0 : Int32)), .val (.ref b486)]) hx (hb hby d7_26) (by rfl) rfl rfl ?_
  refine Go.aload (q := 30) hx (hb hby d7_28) rfl (by rfl) rfl ?_
  refine Go.iload (q := 32) hx (hb hby d7_30) rfl rfl ?_
  refine Go.callS (q := 35) hx hZ (argsL := [(.ref b486), (.int (0 : Int32))]) (rest := []) hown (tw hw 91 rfl) (tw hw 92 rfl) (tw hw 45 rfl) (tw hw 93 rfl) (by decide) (rmG3_0 l Z a0 hw hel b486 k487 c0 c1 c2 h484 n0 (Nat.le_trans (Nat.le_trans (Nat.le_trans Z0 E472.1) K481.1) K489.1) V490 hq0 (((X0.ext E472).keep K481 (allS gz475 all0)).keep K489 all0) AD HB LB) (fun _ hx => nomatch hx) (by rw [hml]; rfl) pd_5 rfl rfl (hb hby d7_32) rfl (by decide) (ble rfl) (ce' := 2) (sl' := 9) rfl rfl (by decide) (by decide) (fun v491 h492 hQ493 => ?_)
  obtain ⟨rfl, rfl⟩ := hQ493
  show Go _ _ _ _ _ _ _ _ _ _ _ _ _ _ _ _ _ _ _ _ 2 9 35 #[.val (.ref a), .val (.int (0 : Int32)), .val (.int (3 : Int32)), .val (.ref a469), .val (.int (0 : Int32)), .val (.ref b486)] [(.int c0)]
  refine Go.sipush (q := 38) (z := (255 : Int32)) hx (hb hby d7_35) rfl rfl ?_
  refine Go.icmp_gt (q := 41) (t := 54) hx (hb hby d7_38) (by decide) rfl rfl (fun hc38 => ?_) (fun hc38 => absurd hk hc38)
  refine Go.aload (q := 56) hx (hb hby d7_54) rfl (by rfl) rfl ?_
  refine Go.retA hx hret rfl (by rfl) hlk (hb hby d7_56) (by decide) (by decide) ?_
  exact ⟨b486, _, rfl, (Nat.le_trans gk482 g488), (Keep.trans (Keep.trans ((Keep.refl h0 []).ext E472) K481 (allS (Or.inr gk476) all0)) K489 all0), V490⟩
theorem rmCU3_1 (l : Launch) (Z : State) (a0 : Array Value) (hw : ∀ d ∈ tables_1, d.before a0 Z = true) (hel : EW Z a0 consts_1) (a b : Addr) (ka kb : ClassId) (c0 c1 c2 : Int32) (h0 : Heap) (n0 : Nat) (Z0 : n0 ≤ h0.size) (A : Arv Z h0 a ka .char (3 : Int32) [.int c0, .int c1, .int c2] (.int (0 : Int32))) (B : Arv Z h0 b kb .byte (3 : Int32) [(.int (0 : Int32)), (.int (0 : Int32)), (.int (0 : Int32))] (.int (0 : Int32))) (gb : n0 ≤ b) (nab : a ≠ b) (hp0 : ¬ (255 : Int32) < c0) (hk : (255 : Int32) < c1) :
    Met l Z consts_1 [b] (⟨"java/lang/StringUTF16", "compress", "([CI[BII)I"⟩ : MethodName) jdk_52_method_21_code 7 (Option.some FieldType.int) [] ({ frames := 0, cells := 0, slots := 0, locals := 0 } : Room) #[(.ref a), (.int (0 : Int32)), (.ref b), (.int (0 : Int32)), (.int (3 : Int32))] h0 n0 (fun v h => v = some (.int (1 : Int32)) ∧ Keep h0 h [b]) := by
  refine Met.of (Ls0 := #[.val (.ref a), .val (.int (0 : Int32)), .val (.ref b), .val (.int (0 : Int32)), .val (.int (3 : Int32)), .unset, .unset]) pl_3 (by first | (simp [argsToLocals, Value.category]; done) | rfl) hel ?_
  intro p e s m below meth c hx hby hml hret hlk hown hnm hZ
  refine Go.iconst (q := 1) (z := (0 : Int32)) hx (hb hby d8_0) rfl rfl ?_
  refine Go.istore (q := 3) (l' := #[.val (.ref a), .val (.int (0 : Int32)), .val (.ref b), .val (.int (0 : Int32)), .val (.int (3 : Int32)), .val (.int (0 : Int32)), .unset]) hx (hb hby d8_1) rfl rfl ?_
  refine Go.iload (q := 5) hx (hb hby d8_3) rfl rfl ?_
  refine Go.iload (q := 7) hx (hb hby d8_5) rfl rfl ?_
  refine Go.icmp_ge (q := 10) (t := 44) hx (hb hby d8_7) (by decide) rfl rfl (fun hc7 => absurd hc7 (by decide)) (fun hc7 => ?_)
  refine Go.aloadN (q := 11) hx (hb hby d8_10) rfl (by rfl) rfl ?_
  refine Go.iloadN (q := 12) hx (hb hby d8_11) rfl rfl ?_
  refine Go.caload (q := 13) (v := (.int c0)) hx hZ A ⟨by decide, by decide⟩ rfl (hb hby d8_12) rfl ?_
  refine Go.istore (q := 15) (l' := #[.val (.ref a), .val (.int (0 : Int32)), .val (.ref b), .val (.int (0 : Int32)), .val (.int (3 : Int32)), .val (.int (0 : Int32)), .val (.int c0)]) hx (hb hby d8_13) rfl rfl ?_
  refine Go.iload (q := 17) hx (hb hby d8_15) rfl rfl ?_
  refine Go.sipush (q := 20) (z := (255 : Int32)) hx (hb hby d8_17) rfl rfl ?_
  refine Go.icmp_le (q := 23) (t := 26) hx (hb hby d8_20) (by decide) rfl rfl (fun hc20 => ?_) (fun hc20 => absurd hc20 hp0)
  refine Go.aloadN (q := 27) hx (hb hby d8_26) rfl (by rfl) rfl ?_
  refine Go.iloadN (q := 28) hx (hb hby d8_27) rfl rfl ?_
  refine Go.iload (q := 30) hx (hb hby d8_28) rfl rfl ?_
  refine Go.i2b (q := 31) hx (hb hby d8_30) rfl ?_
  refine Go.bastore (q := 32) hx hZ B ⟨by decide, by decide⟩ 0 rfl (ble rfl) gb (by simp) (hb hby d8_31) rfl (fun h494 W495 V496 => ?_)
  refine Go.iinc (q := 35) (l' := #[.val (.ref a), .val (.int ((0 : Int32) + (1 : Int32))), .val (.ref b), .val (.int (0 : Int32)), .val (.int (3 : Int32)), .val (.int (0 : Int32)), .val (.int c0)]) hx (hb hby d8_32) rfl rfl rfl ?_
  refine Go.iinc (q := 38) (l' := #[.val (.ref a), .val (.int ((0 : Int32) + (1 : Int32))), .val (.ref b), .val (.int ((0 : Int32) + (1 : Int32))), .val (.int (3 : Int32)), .val (.int (0 : Int32)), .val (.int c0)]) hx (hb hby d8_35) rfl rfl rfl ?_
  refine Go.iinc (q := 41) (l' := #[.val (.ref a), .val (.int ((0 : Int32) + (1 : Int32))), .val (.ref b), .val (.int ((0 : Int32) + (1 : Int32))), .val (.int (3 : Int32)), .val (.int ((0 : Int32) + (1 : Int32))), .val (.int c0)]) hx (hb hby d8_38) rfl rfl rfl ?_
  refine Go.goto (q := 3) hx (hb hby d8_41) (by decide) rfl ?_
  refine Go.iload (q := 5) hx (hb hby d8_3) rfl rfl ?_
  refine Go.iload (q := 7) hx (hb hby d8_5) rfl rfl ?_
  refine Go.icmp_ge (q := 10) (t := 44) hx (hb hby d8_7) (by decide) rfl rfl (fun hc7_1 => absurd hc7_1 (by decide)) (fun hc7_1 => ?_)
  refine Go.aloadN (q := 11) hx (hb hby d8_10) rfl (by rfl) rfl ?_
  refine Go.iloadN (q := 12) hx (hb hby d8_11) rfl rfl ?_
  refine Go.caload (q := 13) (v := (.int c1)) hx hZ (A.other W495 nab) ⟨by decide, by decide⟩ rfl (hb hby d8_12) rfl ?_
  refine Go.istore (q := 15) (l' := #[.val (.ref a), .val (.int ((0 : Int32) + (1 : Int32))), .val (.ref b), .val (.int ((0 : Int32) + (1 : Int32))), .val (.int (3 : Int32)), .val (.int ((0 : Int32) + (1 : Int32))), .val (.int c1)]) hx (hb hby d8_13) rfl rfl ?_
  refine Go.iload (q := 17) hx (hb hby d8_15) rfl rfl ?_
  refine Go.sipush (q := 20) (z := (255 : Int32)) hx (hb hby d8_17) rfl rfl ?_
  refine Go.icmp_le (q := 23) (t := 26) hx (hb hby d8_20) (by decide) rfl rfl (fun hc20_1 => absurd hk hc20_1) (fun hc20_1 => ?_)
  refine Go.iload (q := 25) hx (hb hby d8_23) rfl rfl ?_
  refine Go.retI hx hret hlk (hb hby d8_25) (by decide) (by decide) ?_
  exact ⟨rfl, ((Keep.refl h0 [b]).wr W495 (Or.inl (by simp)))⟩
theorem rmDU3_1 (l : Launch) (Z : State) (a0 : Array Value) (hw : ∀ d ∈ tables_1, d.before a0 Z = true) (hel : EW Z a0 consts_1) (a : Addr) (ka : ClassId) (c0 c1 c2 : Int32) (h0 : Heap) (n0 : Nat) (Z0 : n0 ≤ h0.size) (A : Arv Z h0 a ka .char (3 : Int32) [.int c0, .int c1, .int c2] (.int (0 : Int32))) (hq0 : Chr c0) (hq1 : Chr c1) (hq2 : Chr c2) (hp0 : ¬ (255 : Int32) < c0) (hk : (255 : Int32) < c1) (X0 : Old Z n0 h0) (AD : Sta Z Z.heap "java/lang/StringUTF16" "$assertionsDisabled" "Z" (.int (1 : Int32))) (HB : Sta Z Z.heap "java/lang/StringUTF16" "HI_BYTE_SHIFT" "I" (.int (0 : Int32))) (LB : Sta Z Z.heap "java/lang/StringUTF16" "LO_BYTE_SHIFT" "I" (.int (8 : Int32))) :
    Met l Z consts_1 [] (⟨"java/lang/StringUTF16", "compress", "([CII)[B"⟩ : MethodName) jdk_52_method_16_code 6 (Option.some (FieldType.array FieldType.byte)) [] ({ frames := 3, cells := 2, slots := 9, locals := 58 } : Room) #[(.ref a), (.int (0 : Int32)), (.int (3 : Int32))] h0 n0 (fun v h => ∃ b kb, v = some (.ref b) ∧ h0.size ≤ b ∧ Keep h0 h [] ∧ Arv Z h b kb .byte (6 : Int32) [(.int (nar .byte (c0 >>> ((0 : Int32) &&& 31)).toInt8.toInt32)), (.int (nar .byte (c0 >>> ((8 : Int32) &&& 31)).toInt8.toInt32)), (.int (nar .byte (c1 >>> ((0 : Int32) &&& 31)).toInt8.toInt32)), (.int (nar .byte (c1 >>> ((8 : Int32) &&& 31)).toInt8.toInt32)), (.int (nar .byte (c2 >>> ((0 : Int32) &&& 31)).toInt8.toInt32)), (.int (nar .byte (c2 >>> ((8 : Int32) &&& 31)).toInt8.toInt32))] (.int (0 : Int32))) := by
  refine Met.of (Ls0 := #[.val (.ref a), .val (.int (0 : Int32)), .val (.int (3 : Int32)), .unset, .unset, .unset]) pl_4 (by first | (simp [argsToLocals, Value.category]; done) | rfl) hel ?_
  intro p e s m below meth c hx hby hml hret hlk hown hnm hZ
  refine Go.iloadN (q := 1) hx (hb hby d7_0) rfl rfl ?_
  refine Go.newP (q := 3) (cap := 3) hx hZ (tw hw 21 rfl) (by decide) (by decide) (hb hby d7_1) rfl (by decide) (ce' := 1) (sl' := 3) rfl rfl (by decide) (by decide) (fun h497 a498 k499 g500 E501 A502 => ?_)
  have ne503 : a ≠ a498 := by rw [g500]; exact Nat.ne_of_lt (A).lt
  have gz504 : n0 ≤ a498 := by rw [g500]; exact Z0
  have gk505 : h0.size ≤ a498 := by rw [g500]; exact (Keep.refl h0 []).1
  have V506 : Arv Z h497 a498 k499 .byte (3 : Int32) [(.int (0 : Int32)), (.int (0 : Int32)), (.int (0 : Int32))] (.int (0 : Int32)) := A502.pad (pad_rep [] (.int (0 : Int32)) 3)
  refine Go.astoreN (q := 4) (l' := #[.val (.ref a), .val (.int (0 : Int32)), .val (.int (3 : Int32)), .val (.ref a498), .unset, .unset]) hx (hb hby d7_3) (by rfl) rfl rfl ?_
  refine Go.aloadN (q := 5) hx (hb hby d7_4) rfl (by rfl) rfl ?_
  refine Go.iloadN (q := 6) hx (hb hby d7_5) rfl rfl ?_
  refine Go.aloadN (q := 7) hx (hb hby d7_6) rfl (by rfl) rfl ?_
  refine Go.iconst (q := 8) (z := (0 : Int32)) hx (hb hby d7_7) rfl rfl ?_
  refine Go.iloadN (q := 9) hx (hb hby d7_8) rfl rfl ?_
  refine Go.callS (q := 12) hx hZ (argsL := [(.ref a), (.int (0 : Int32)), (.ref a498), (.int (0 : Int32)), (.int (3 : Int32))]) (rest := []) hown (tw hw 47 rfl) (tw hw 48 rfl) (tw hw 45 rfl) (tw hw 49 rfl) (by decide) (rmCU3_1 l Z a0 hw hel a a498 ka k499 c0 c1 c2 h497 n0 (Nat.le_trans Z0 E501.1) (A.ext E501) V506 gz504 ne503 hp0 hk) (by simp) (by rw [hml]; rfl) pd_4 rfl rfl (hb hby d7_9) rfl (by decide) (ble rfl) (ce' := 1) (sl' := 3) rfl rfl (by decide) (by decide) (fun v507 h508 hQ509 => ?_)
  obtain ⟨rfl, K510⟩ := hQ509
  show Go _ _ _ _ _ _ _ _ _ _ _ _ _ _ _ _ _ _ _ _ 1 3 12 #[.val (.ref a), .val (.int (0 : Int32)), .val (.int (3 : Int32)), .val (.ref a498), .unset, .unset] [(.int (1 : Int32))]
  refine Go.istore (q := 14) (l' := #[.val (.ref a), .val (.int (0 : Int32)), .val (.int (3 : Int32)), .val (.ref a498), .val (.int (1 : Int32)), .unset]) hx (hb hby d7_12) rfl rfl ?_
  refine Go.iload (q := 16) hx (hb hby d7_14) rfl rfl ?_
  refine Go.iloadN (q := 17) hx (hb hby d7_16) rfl rfl ?_
  refine Go.icmp_eq (q := 20) (t := 57) hx (hb hby d7_17) (by decide) rfl rfl (fun hc17 => absurd hc17 (by decide)) (fun hc17 => ?_)
  refine Go.aloadN (q := 21) hx (hb hby d7_20) rfl (by rfl) rfl ?_
  refine Go.iloadN (q := 22) hx (hb hby d7_21) rfl rfl ?_
  refine Go.iloadN (q := 23) hx (hb hby d7_22) rfl rfl ?_
  have gk511 := (Keep.trans ((Keep.refl h0 []).ext E501) K510 (allS (Or.inr gk505) all0)).1
  refine Go.callS (q := 26) hx hZ (argsL := [(.ref a), (.int (0 : Int32)), (.int (3 : Int32))]) (rest := []) hown (tw hw 75 rfl) (tw hw 76 rfl) (tw hw 45 rfl) (tw hw 77 rfl) (by decide) (rmT3 l Z a0 hw hel a ka c0 c1 c2 h508 n0 (Nat.le_trans (Nat.le_trans Z0 E501.1) K510.1) ((A.ext E501).keep K510 (ninS ne503 nin0)) ((X0.ext E501).keep K510 (allS gz504 all0)) AD HB LB) (fun _ hx => nomatch hx) (by rw [hml]; rfl) pd_1 rfl rfl (hb hby d7_23) rfl (by decide) (ble rfl) (ce' := 2) (sl' := 9) rfl rfl (by decide) (by decide) (fun v512 h513 hQ514 => ?_)
  obtain ⟨b515, k516, rfl, g517, K518, V519⟩ := hQ514
  show Go _ _ _ _ _ _ _ _ _ _ _ _ _ _ _ _ _ _ _ _ 2 9 26 #[.val (.ref a), .val (.int (0 : Int32)), .val (.int (3 : Int32)), .val (.ref a498), .val (.int (1 : Int32)), .unset] [(.ref b515)]
  refine Go.astore (q := 28) (l' := #[.val (.ref a), .val (.int (0 : Int32)), .val (.int (3 : Int32)), .val (.ref a498), .val (.int (1 : Int32)), .val (.ref b515)]) hx (hb hby d7_26) (by rfl) rfl rfl ?_
  refine Go.aload (q := 30) hx (hb hby d7_28) rfl (by rfl) rfl ?_
  refine Go.iload (q := 32) hx (hb hby d7_30) rfl rfl ?_
  refine Go.callS (q := 35) hx hZ (argsL := [(.ref b515), (.int (1 : Int32))]) (rest := []) hown (tw hw 91 rfl) (tw hw 92 rfl) (tw hw 45 rfl) (tw hw 93 rfl) (by decide) (rmG3_1 l Z a0 hw hel b515 k516 c0 c1 c2 h513 n0 (Nat.le_trans (Nat.le_trans (Nat.le_trans Z0 E501.1) K510.1) K518.1) V519 hq1 (((X0.ext E501).keep K510 (allS gz504 all0)).keep K518 all0) AD HB LB) (fun _ hx => nomatch hx) (by rw [hml]; rfl) pd_5 rfl rfl (hb hby d7_32) rfl (by decide) (ble rfl) (ce' := 2) (sl' := 9) rfl rfl (by decide) (by decide) (fun v520 h521 hQ522 => ?_)
  obtain ⟨rfl, rfl⟩ := hQ522
  show Go _ _ _ _ _ _ _ _ _ _ _ _ _ _ _ _ _ _ _ _ 2 9 35 #[.val (.ref a), .val (.int (0 : Int32)), .val (.int (3 : Int32)), .val (.ref a498), .val (.int (1 : Int32)), .val (.ref b515)] [(.int c1)]
  refine Go.sipush (q := 38) (z := (255 : Int32)) hx (hb hby d7_35) rfl rfl ?_
  refine Go.icmp_gt (q := 41) (t := 54) hx (hb hby d7_38) (by decide) rfl rfl (fun hc38 => ?_) (fun hc38 => absurd hk hc38)
  refine Go.aload (q := 56) hx (hb hby d7_54) rfl (by rfl) rfl ?_
  refine Go.retA hx hret rfl (by rfl) hlk (hb hby d7_56) (by decide) (by decide) ?_
  exact ⟨b515, _, rfl, (Nat.le_trans gk511 g517), (Keep.trans (Keep.trans ((Keep.refl h0 []).ext E501) K510 (allS (Or.inr gk505) all0)) K518 all0), V519⟩
theorem rmCU3_2 (l : Launch) (Z : State) (a0 : Array Value) (hw : ∀ d ∈ tables_1, d.before a0 Z = true) (hel : EW Z a0 consts_1) (a b : Addr) (ka kb : ClassId) (c0 c1 c2 : Int32) (h0 : Heap) (n0 : Nat) (Z0 : n0 ≤ h0.size) (A : Arv Z h0 a ka .char (3 : Int32) [.int c0, .int c1, .int c2] (.int (0 : Int32))) (B : Arv Z h0 b kb .byte (3 : Int32) [(.int (0 : Int32)), (.int (0 : Int32)), (.int (0 : Int32))] (.int (0 : Int32))) (gb : n0 ≤ b) (nab : a ≠ b) (hp0 : ¬ (255 : Int32) < c0) (hp1 : ¬ (255 : Int32) < c1) (hk : (255 : Int32) < c2) :
    Met l Z consts_1 [b] (⟨"java/lang/StringUTF16", "compress", "([CI[BII)I"⟩ : MethodName) jdk_52_method_21_code 7 (Option.some FieldType.int) [] ({ frames := 0, cells := 0, slots := 0, locals := 0 } : Room) #[(.ref a), (.int (0 : Int32)), (.ref b), (.int (0 : Int32)), (.int (3 : Int32))] h0 n0 (fun v h => v = some (.int (2 : Int32)) ∧ Keep h0 h [b]) := by
  refine Met.of (Ls0 := #[.val (.ref a), .val (.int (0 : Int32)), .val (.ref b), .val (.int (0 : Int32)), .val (.int (3 : Int32)), .unset, .unset]) pl_3 (by first | (simp [argsToLocals, Value.category]; done) | rfl) hel ?_
  intro p e s m below meth c hx hby hml hret hlk hown hnm hZ
  refine Go.iconst (q := 1) (z := (0 : Int32)) hx (hb hby d8_0) rfl rfl ?_
  refine Go.istore (q := 3) (l' := #[.val (.ref a), .val (.int (0 : Int32)), .val (.ref b), .val (.int (0 : Int32)), .val (.int (3 : Int32)), .val (.int (0 : Int32)), .unset]) hx (hb hby d8_1) rfl rfl ?_
  refine Go.iload (q := 5) hx (hb hby d8_3) rfl rfl ?_
  refine Go.iload (q := 7) hx (hb hby d8_5) rfl rfl ?_
  refine Go.icmp_ge (q := 10) (t := 44) hx (hb hby d8_7) (by decide) rfl rfl (fun hc7 => absurd hc7 (by decide)) (fun hc7 => ?_)
  refine Go.aloadN (q := 11) hx (hb hby d8_10) rfl (by rfl) rfl ?_
  refine Go.iloadN (q := 12) hx (hb hby d8_11) rfl rfl ?_
  refine Go.caload (q := 13) (v := (.int c0)) hx hZ A ⟨by decide, by decide⟩ rfl (hb hby d8_12) rfl ?_
  refine Go.istore (q := 15) (l' := #[.val (.ref a), .val (.int (0 : Int32)), .val (.ref b), .val (.int (0 : Int32)), .val (.int (3 : Int32)), .val (.int (0 : Int32)), .val (.int c0)]) hx (hb hby d8_13) rfl rfl ?_
  refine Go.iload (q := 17) hx (hb hby d8_15) rfl rfl ?_
  refine Go.sipush (q := 20) (z := (255 : Int32)) hx (hb hby d8_17) rfl rfl ?_
  refine Go.icmp_le (q := 23) (t := 26) hx (hb hby d8_20) (by decide) rfl rfl (fun hc20 => ?_) (fun hc20 => absurd hc20 hp0)
  refine Go.aloadN (q := 27) hx (hb hby d8_26) rfl (by rfl) rfl ?_
  refine Go.iloadN (q := 28) hx (hb hby d8_27) rfl rfl ?_
  refine Go.iload (q := 30) hx (hb hby d8_28) rfl rfl ?_
  refine Go.i2b (q := 31) hx (hb hby d8_30) rfl ?_
  refine Go.bastore (q := 32) hx hZ B ⟨by decide, by decide⟩ 0 rfl (ble rfl) gb (by simp) (hb hby d8_31) rfl (fun h523 W524 V525 => ?_)
  refine Go.iinc (q := 35) (l' := #[.val (.ref a), .val (.int ((0 : Int32) + (1 : Int32))), .val (.ref b), .val (.int (0 : Int32)), .val (.int (3 : Int32)), .val (.int (0 : Int32)), .val (.int c0)]) hx (hb hby d8_32) rfl rfl rfl ?_
  refine Go.iinc (q := 38) (l' := #[.val (.ref a), .val (.int ((0 : Int32) + (1 : Int32))), .val (.ref b), .val (.int ((0 : Int32) + (1 : Int32))), .val (.int (3 : Int32)), .val (.int (0 : Int32)), .val (.int c0)]) hx (hb hby d8_35) rfl rfl rfl ?_
  refine Go.iinc (q := 41) (l' := #[.val (.ref a), .val (.int ((0 : Int32) + (1 : Int32))), .val (.ref b), .val (.int ((0 : Int32) + (1 : Int32))), .val (.int (3 : Int32)), .val (.int ((0 : Int32) + (1 : Int32))), .val (.int c0)]) hx (hb hby d8_38) rfl rfl rfl ?_
  refine Go.goto (q := 3) hx (hb hby d8_41) (by decide) rfl ?_
  refine Go.iload (q := 5) hx (hb hby d8_3) rfl rfl ?_
  refine Go.iload (q := 7) hx (hb hby d8_5) rfl rfl ?_
  refine Go.icmp_ge (q := 10) (t := 44) hx (hb hby d8_7) (by decide) rfl rfl (fun hc7_1 => absurd hc7_1 (by decide)) (fun hc7_1 => ?_)
  refine Go.aloadN (q := 11) hx (hb hby d8_10) rfl (by rfl) rfl ?_
  refine Go.iloadN (q := 12) hx (hb hby d8_11) rfl rfl ?_
  refine Go.caload (q := 13) (v := (.int c1)) hx hZ (A.other W524 nab) ⟨by decide, by decide⟩ rfl (hb hby d8_12) rfl ?_
  refine Go.istore (q := 15) (l' := #[.val (.ref a), .val (.int ((0 : Int32) + (1 : Int32))), .val (.ref b), .val (.int ((0 : Int32) + (1 : Int32))), .val (.int (3 : Int32)), .val (.int ((0 : Int32) + (1 : Int32))), .val (.int c1)]) hx (hb hby d8_13) rfl rfl ?_
  refine Go.iload (q := 17) hx (hb hby d8_15) rfl rfl ?_
  refine Go.sipush (q := 20) (z := (255 : Int32)) hx (hb hby d8_17) rfl rfl ?_
  refine Go.icmp_le (q := 23) (t := 26) hx (hb hby d8_20) (by decide) rfl rfl (fun hc20_1 => ?_) (fun hc20_1 => absurd hc20_1 hp1)
  refine Go.aloadN (q := 27) hx (hb hby d8_26) rfl (by rfl) rfl ?_
  refine Go.iloadN (q := 28) hx (hb hby d8_27) rfl rfl ?_
  refine Go.iload (q := 30) hx (hb hby d8_28) rfl rfl ?_
  refine Go.i2b (q := 31) hx (hb hby d8_30) rfl ?_
  refine Go.bastore (q := 32) hx hZ V525 ⟨by decide, by decide⟩ 1 rfl (ble rfl) gb (by simp) (hb hby d8_31) rfl (fun h526 W527 V528 => ?_)
  refine Go.iinc (q := 35) (l' := #[.val (.ref a), .val (.int (((0 : Int32) + (1 : Int32)) + (1 : Int32))), .val (.ref b), .val (.int ((0 : Int32) + (1 : Int32))), .val (.int (3 : Int32)), .val (.int ((0 : Int32) + (1 : Int32))), .val (.int c1)]) hx (hb hby d8_32) rfl rfl rfl ?_
  refine Go.iinc (q := 38) (l' := #[.val (.ref a), .val (.int (((0 : Int32) + (1 : Int32)) + (1 : Int32))), .val (.ref b), .val (.int (((0 : Int32) + (1 : Int32)) + (1 : Int32))), .val (.int (3 : Int32)), .val (.int ((0 : Int32) + (1 : Int32))), .val (.int c1)]) hx (hb hby d8_35) rfl rfl rfl ?_
  refine Go.iinc (q := 41) (l' := #[.val (.ref a), .val (.int (((0 : Int32) + (1 : Int32)) + (1 : Int32))), .val (.ref b), .val (.int (((0 : Int32) + (1 : Int32)) + (1 : Int32))), .val (.int (3 : Int32)), .val (.int (((0 : Int32) + (1 : Int32)) + (1 : Int32))), .val (.int c1)]) hx (hb hby d8_38) rfl rfl rfl ?_
  refine Go.goto (q := 3) hx (hb hby d8_41) (by decide) rfl ?_
  refine Go.iload (q := 5) hx (hb hby d8_3) rfl rfl ?_
  refine Go.iload (q := 7) hx (hb hby d8_5) rfl rfl ?_
  refine Go.icmp_ge (q := 10) (t := 44) hx (hb hby d8_7) (by decide) rfl rfl (fun hc7_2 => absurd hc7_2 (by decide)) (fun hc7_2 => ?_)
  refine Go.aloadN (q := 11) hx (hb hby d8_10) rfl (by rfl) rfl ?_
  refine Go.iloadN (q := 12) hx (hb hby d8_11) rfl rfl ?_
  refine Go.caload (q := 13) (v := (.int c2)) hx hZ ((A.other W524 nab).other W527 nab) ⟨by decide, by decide⟩ rfl (hb hby d8_12) rfl ?_
  refine Go.istore (q := 15) (l' := #[.val (.ref a), .val (.int (((0 : Int32) + (1 : Int32)) + (1 : Int32))), .val (.ref b), .val (.int (((0 : Int32) + (1 : Int32)) + (1 : Int32))), .val (.int (3 : Int32)), .val (.int (((0 : Int32) + (1 : Int32)) + (1 : Int32))), .val (.int c2)]) hx (hb hby d8_13) rfl rfl ?_
  refine Go.iload (q := 17) hx (hb hby d8_15) rfl rfl ?_
  refine Go.sipush (q := 20) (z := (255 : Int32)) hx (hb hby d8_17) rfl rfl ?_
  refine Go.icmp_le (q := 23) (t := 26) hx (hb hby d8_20) (by decide) rfl rfl (fun hc20_2 => absurd hk hc20_2) (fun hc20_2 => ?_)
  refine Go.iload (q := 25) hx (hb hby d8_23) rfl rfl ?_
  refine Go.retI hx hret hlk (hb hby d8_25) (by decide) (by decide) ?_
  exact ⟨rfl, (((Keep.refl h0 [b]).wr W524 (Or.inl (by simp))).wr W527 (Or.inl (by simp)))⟩
theorem rmDU3_2 (l : Launch) (Z : State) (a0 : Array Value) (hw : ∀ d ∈ tables_1, d.before a0 Z = true) (hel : EW Z a0 consts_1) (a : Addr) (ka : ClassId) (c0 c1 c2 : Int32) (h0 : Heap) (n0 : Nat) (Z0 : n0 ≤ h0.size) (A : Arv Z h0 a ka .char (3 : Int32) [.int c0, .int c1, .int c2] (.int (0 : Int32))) (hq0 : Chr c0) (hq1 : Chr c1) (hq2 : Chr c2) (hp0 : ¬ (255 : Int32) < c0) (hp1 : ¬ (255 : Int32) < c1) (hk : (255 : Int32) < c2) (X0 : Old Z n0 h0) (AD : Sta Z Z.heap "java/lang/StringUTF16" "$assertionsDisabled" "Z" (.int (1 : Int32))) (HB : Sta Z Z.heap "java/lang/StringUTF16" "HI_BYTE_SHIFT" "I" (.int (0 : Int32))) (LB : Sta Z Z.heap "java/lang/StringUTF16" "LO_BYTE_SHIFT" "I" (.int (8 : Int32))) :
    Met l Z consts_1 [] (⟨"java/lang/StringUTF16", "compress", "([CII)[B"⟩ : MethodName) jdk_52_method_16_code 6 (Option.some (FieldType.array FieldType.byte)) [] ({ frames := 3, cells := 2, slots := 9, locals := 58 } : Room) #[(.ref a), (.int (0 : Int32)), (.int (3 : Int32))] h0 n0 (fun v h => ∃ b kb, v = some (.ref b) ∧ h0.size ≤ b ∧ Keep h0 h [] ∧ Arv Z h b kb .byte (6 : Int32) [(.int (nar .byte (c0 >>> ((0 : Int32) &&& 31)).toInt8.toInt32)), (.int (nar .byte (c0 >>> ((8 : Int32) &&& 31)).toInt8.toInt32)), (.int (nar .byte (c1 >>> ((0 : Int32) &&& 31)).toInt8.toInt32)), (.int (nar .byte (c1 >>> ((8 : Int32) &&& 31)).toInt8.toInt32)), (.int (nar .byte (c2 >>> ((0 : Int32) &&& 31)).toInt8.toInt32)), (.int (nar .byte (c2 >>> ((8 : Int32) &&& 31)).toInt8.toInt32))] (.int (0 : Int32))) := by
  refine Met.of (Ls0 := #[.val (.ref a), .val (.int (0 : Int32)), .val (.int (3 : Int32)), .unset, .unset, .unset]) pl_4 (by first | (simp [argsToLocals, Value.category]; done) | rfl) hel ?_
  intro p e s m below meth c hx hby hml hret hlk hown hnm hZ
  refine Go.iloadN (q := 1) hx (hb hby d7_0) rfl rfl ?_
  refine Go.newP (q := 3) (cap := 3) hx hZ (tw hw 21 rfl) (by decide) (by decide) (hb hby d7_1) rfl (by decide) (ce' := 1) (sl' := 3) rfl rfl (by decide) (by decide) (fun h529 a530 k531 g532 E533 A534 => ?_)
  have ne535 : a ≠ a530 := by rw [g532]; exact Nat.ne_of_lt (A).lt
  have gz536 : n0 ≤ a530 := by rw [g532]; exact Z0
  have gk537 : h0.size ≤ a530 := by rw [g532]; exact (Keep.refl h0 []).1
  have V538 : Arv Z h529 a530 k531 .byte (3 : Int32) [(.int (0 : Int32)), (.int (0 : Int32)), (.int (0 : Int32))] (.int (0 : Int32)) := A534.pad (pad_rep [] (.int (0 : Int32)) 3)
  refine Go.astoreN (q := 4) (l' := #[.val (.ref a), .val (.int (0 : Int32)), .val (.int (3 : Int32)), .val (.ref a530), .unset, .unset]) hx (hb hby d7_3) (by rfl) rfl rfl ?_
  refine Go.aloadN (q := 5) hx (hb hby d7_4) rfl (by rfl) rfl ?_
  refine Go.iloadN (q := 6) hx (hb hby d7_5) rfl rfl ?_
  refine Go.aloadN (q := 7) hx (hb hby d7_6) rfl (by rfl) rfl ?_
  refine Go.iconst (q := 8) (z := (0 : Int32)) hx (hb hby d7_7) rfl rfl ?_
  refine Go.iloadN (q := 9) hx (hb hby d7_8) rfl rfl ?_
  refine Go.callS (q := 12) hx hZ (argsL := [(.ref a), (.int (0 : Int32)), (.ref a530), (.int (0 : Int32)), (.int (3 : Int32))]) (rest := []) hown (tw hw 47 rfl) (tw hw 48 rfl) (tw hw 45 rfl) (tw hw 49 rfl) (by decide) (rmCU3_2 l Z a0 hw hel a a530 ka k531 c0 c1 c2 h529 n0 (Nat.le_trans Z0 E533.1) (A.ext E533) V538 gz536 ne535 hp0 hp1 hk) (by simp) (by rw [hml]; rfl) pd_4 rfl rfl (hb hby d7_9) rfl (by decide) (ble rfl) (ce' := 1) (sl' := 3) rfl rfl (by decide) (by decide) (fun v539 h540 hQ541 => ?_)
  obtain ⟨rfl, K542⟩ := hQ541
  show Go _ _ _ _ _ _ _ _ _ _ _ _ _ _ _ _ _ _ _ _ 1 3 12 #[.val (.ref a), .val (.int (0 : Int32)), .val (.int (3 : Int32)), .val (.ref a530), .unset, .unset] [(.int (2 : Int32))]
  refine Go.istore (q := 14) (l' := #[.val (.ref a), .val (.int (0 : Int32)), .val (.int (3 : Int32)), .val (.ref a530), .val (.int (2 : Int32)), .unset]) hx (hb hby d7_12) rfl rfl ?_
  refine Go.iload (q := 16) hx (hb hby d7_14) rfl rfl ?_
  refine Go.iloadN (q := 17) hx (hb hby d7_16) rfl rfl ?_
  refine Go.icmp_eq (q := 20) (t := 57) hx (hb hby d7_17) (by decide) rfl rfl (fun hc17 => absurd hc17 (by decide)) (fun hc17 => ?_)
  refine Go.aloadN (q := 21) hx (hb hby d7_20) rfl (by rfl) rfl ?_
  refine Go.iloadN (q := 22) hx (hb hby d7_21) rfl rfl ?_
  refine Go.iloadN (q := 23) hx (hb hby d7_22) rfl rfl ?_
  have gk543 := (Keep.trans ((Keep.refl h0 []).ext E533) K542 (allS (Or.inr gk537) all0)).1
  refine Go.callS (q := 26) hx hZ (argsL := [(.ref a), (.int (0 : Int32)), (.int (3 : Int32))]) (rest := []) hown (tw hw 75 rfl) (tw hw 76 rfl) (tw hw 45 rfl) (tw hw 77 rfl) (by decide) (rmT3 l Z a0 hw hel a ka c0 c1 c2 h540 n0 (Nat.le_trans (Nat.le_trans Z0 E533.1) K542.1) ((A.ext E533).keep K542 (ninS ne535 nin0)) ((X0.ext E533).keep K542 (allS gz536 all0)) AD HB LB) (fun _ hx => nomatch hx) (by rw [hml]; rfl) pd_1 rfl rfl (hb hby d7_23) rfl (by decide) (ble rfl) (ce' := 2) (sl' := 9) rfl rfl (by decide) (by decide) (fun v544 h545 hQ546 => ?_)
  obtain ⟨b547, k548, rfl, g549, K550, V551⟩ := hQ546
  show Go _ _ _ _ _ _ _ _ _ _ _ _ _ _ _ _ _ _ _ _ 2 9 26 #[.val (.ref a), .val (.int (0 : Int32)), .val (.int (3 : Int32)), .val (.ref a530), .val (.int (2 : Int32)), .unset] [(.ref b547)]
  refine Go.astore (q := 28) (l' := #[.val (.ref a), .val (.int (0 : Int32)), .val (.int (3 : Int32)), .val (.ref a530), .val (.int (2 : Int32)), .val (.ref b547)]) hx (hb hby d7_26) (by rfl) rfl rfl ?_
  refine Go.aload (q := 30) hx (hb hby d7_28) rfl (by rfl) rfl ?_
  refine Go.iload (q := 32) hx (hb hby d7_30) rfl rfl ?_
  refine Go.callS (q := 35) hx hZ (argsL := [(.ref b547), (.int (2 : Int32))]) (rest := []) hown (tw hw 91 rfl) (tw hw 92 rfl) (tw hw 45 rfl) (tw hw 93 rfl) (by decide) (rmG3_2 l Z a0 hw hel b547 k548 c0 c1 c2 h545 n0 (Nat.le_trans (Nat.le_trans (Nat.le_trans Z0 E533.1) K542.1) K550.1) V551 hq2 (((X0.ext E533).keep K542 (allS gz536 all0)).keep K550 all0) AD HB LB) (fun _ hx => nomatch hx) (by rw [hml]; rfl) pd_5 rfl rfl (hb hby d7_32) rfl (by decide) (ble rfl) (ce' := 2) (sl' := 9) rfl rfl (by decide) (by decide) (fun v552 h553 hQ554 => ?_)
  obtain ⟨rfl, rfl⟩ := hQ554
  show Go _ _ _ _ _ _ _ _ _ _ _ _ _ _ _ _ _ _ _ _ 2 9 35 #[.val (.ref a), .val (.int (0 : Int32)), .val (.int (3 : Int32)), .val (.ref a530), .val (.int (2 : Int32)), .val (.ref b547)] [(.int c2)]
  refine Go.sipush (q := 38) (z := (255 : Int32)) hx (hb hby d7_35) rfl rfl ?_
  refine Go.icmp_gt (q := 41) (t := 54) hx (hb hby d7_38) (by decide) rfl rfl (fun hc38 => ?_) (fun hc38 => absurd hk hc38)
  refine Go.aload (q := 56) hx (hb hby d7_54) rfl (by rfl) rfl ?_
  refine Go.retA hx hret rfl (by rfl) hlk (hb hby d7_56) (by decide) (by decide) ?_
  exact ⟨b547, _, rfl, (Nat.le_trans gk543 g549), (Keep.trans (Keep.trans ((Keep.refl h0 []).ext E533) K542 (allS (Or.inr gk537) all0)) K550 all0), V551⟩
theorem rmDU3 (l : Launch) (Z : State) (a0 : Array Value) (hw : ∀ d ∈ tables_1, d.before a0 Z = true) (hel : EW Z a0 consts_1) (a : Addr) (ka : ClassId) (c0 c1 c2 : Int32) (h0 : Heap) (n0 : Nat) (Z0 : n0 ≤ h0.size) (A : Arv Z h0 a ka .char (3 : Int32) [.int c0, .int c1, .int c2] (.int (0 : Int32))) (hq0 : Chr c0) (hq1 : Chr c1) (hq2 : Chr c2) (hU : ((255 : Int32) < c0) ∨ (¬ (255 : Int32) < c0 ∧ (255 : Int32) < c1) ∨ (¬ (255 : Int32) < c0 ∧ ¬ (255 : Int32) < c1 ∧ (255 : Int32) < c2)) (X0 : Old Z n0 h0) (AD : Sta Z Z.heap "java/lang/StringUTF16" "$assertionsDisabled" "Z" (.int (1 : Int32))) (HB : Sta Z Z.heap "java/lang/StringUTF16" "HI_BYTE_SHIFT" "I" (.int (0 : Int32))) (LB : Sta Z Z.heap "java/lang/StringUTF16" "LO_BYTE_SHIFT" "I" (.int (8 : Int32))) :
    Met l Z consts_1 [] (⟨"java/lang/StringUTF16", "compress", "([CII)[B"⟩ : MethodName) jdk_52_method_16_code 6 (Option.some (FieldType.array FieldType.byte)) [] ({ frames := 3, cells := 2, slots := 9, locals := 58 } : Room) #[(.ref a), (.int (0 : Int32)), (.int (3 : Int32))] h0 n0 (fun v h => ∃ b kb, v = some (.ref b) ∧ h0.size ≤ b ∧ Keep h0 h [] ∧ Arv Z h b kb .byte (6 : Int32) [(.int (nar .byte (c0 >>> ((0 : Int32) &&& 31)).toInt8.toInt32)), (.int (nar .byte (c0 >>> ((8 : Int32) &&& 31)).toInt8.toInt32)), (.int (nar .byte (c1 >>> ((0 : Int32) &&& 31)).toInt8.toInt32)), (.int (nar .byte (c1 >>> ((8 : Int32) &&& 31)).toInt8.toInt32)), (.int (nar .byte (c2 >>> ((0 : Int32) &&& 31)).toInt8.toInt32)), (.int (nar .byte (c2 >>> ((8 : Int32) &&& 31)).toInt8.toInt32))] (.int (0 : Int32))) := by
  rcases hU with hk | ⟨hp0, hk⟩ | ⟨hp0, hp1, hk⟩
  · exact rmDU3_0 l Z a0 hw hel a ka c0 c1 c2 h0 n0 Z0 A hq0 hq1 hq2  hk X0 AD HB LB
  · exact rmDU3_1 l Z a0 hw hel a ka c0 c1 c2 h0 n0 Z0 A hq0 hq1 hq2 hp0 hk X0 AD HB LB
  · exact rmDU3_2 l Z a0 hw hel a ka c0 c1 c2 h0 n0 Z0 A hq0 hq1 hq2 hp0 hp1 hk X0 AD HB LB
theorem rmKU3 (l : Launch) (Z : State) (a0 : Array Value) (hw : ∀ d ∈ tables_1, d.before a0 Z = true) (hel : EW Z a0 consts_1) (b : Addr) (kb : ClassId) (vs : List Value) (h0 : Heap) (n0 : Nat) (Z0 : n0 ≤ h0.size) (B : Arv Z h0 b kb .byte (6 : Int32) vs (.int (0 : Int32))) :
    Met l Z consts_1 [] (⟨"java/lang/StringUTF16", "coderFromArrayLen", "([BI)B"⟩ : MethodName) jdk_52_method_15_code 2 (Option.some FieldType.byte) [] ({ frames := 0, cells := 0, slots := 0, locals := 0 } : Room) #[(.ref b), (.int (3 : Int32))] h0 n0 (fun v h => v = some (.int (1 : Int32)) ∧ h0 = h) := by
  refine Met.of (Ls0 := #[.val (.ref b), .val (.int (3 : Int32))]) pl_0 (by first | (simp [argsToLocals, Value.category]; done) | rfl) hel ?_
  intro p e s m below meth c hx hby hml hret hlk hown hnm hZ
  refine Go.iloadN (q := 1) hx (hb hby d9_0) rfl rfl ?_
  refine Go.aloadN (q := 2) hx (hb hby d9_1) rfl (by rfl) rfl ?_
  refine Go.alen (q := 3) hx hZ B (hb hby d9_2) rfl ?_
  refine Go.isub (q := 4) hx (hb hby d9_3) rfl ?_
  refine Go.bipush (q := 6) (z := (31 : Int32)) hx (hb hby d9_4) rfl rfl ?_
  refine Go.iushr (q := 7) hx (hb hby d9_6) rfl ?_
  refine Go.i2b (q := 8) hx (hb hby d9_7) rfl ?_
  refine Go.retN hx (t := .byte) hret (by simp) hlk (hb hby d9_8) (by decide) (by decide) ?_
  exact ⟨congrArg (fun z => some (Value.int z)) (by decide), rfl⟩
theorem rmSU3 (l : Launch) (Z : State) (a0 : Array Value) (hw : ∀ d ∈ tables_1, d.before a0 Z = true) (hel : EW Z a0 consts_1) (sa a : Addr) (ka : ClassId) (cst : Int32) (c0 c1 c2 : Int32) (h0 : Heap) (n0 : Nat) (Z0 : n0 ≤ h0.size) (gs : n0 ≤ sa) (nas : a ≠ sa) (E : Exa Z h0 sa "java/lang/String") (F1 : Fld Z h0 sa "java/lang/String" "value" "[B" .null) (F2 : Fld Z h0 sa "java/lang/String" "coder" "B" (.int (0 : Int32))) (A : Arv Z h0 a ka .char (3 : Int32) [.int c0, .int c1, .int c2] (.int (0 : Int32))) (hq0 : Chr c0) (hq1 : Chr c1) (hq2 : Chr c2) (hU : ((255 : Int32) < c0) ∨ (¬ (255 : Int32) < c0 ∧ (255 : Int32) < c1) ∨ (¬ (255 : Int32) < c0 ∧ ¬ (255 : Int32) < c1 ∧ (255 : Int32) < c2)) (X0 : Old Z n0 h0) (SC : Sta Z Z.heap "java/lang/String" "COMPACT_STRINGS" "Z" (.int cst)) (hcs : ¬ cst = (0 : Int32)) (AD : Sta Z Z.heap "java/lang/StringUTF16" "$assertionsDisabled" "Z" (.int (1 : Int32))) (HB : Sta Z Z.heap "java/lang/StringUTF16" "HI_BYTE_SHIFT" "I" (.int (0 : Int32))) (LB : Sta Z Z.heap "java/lang/StringUTF16" "LO_BYTE_SHIFT" "I" (.int (8 : Int32))) :
    Met l Z consts_1 [sa] (⟨"java/lang/String", "<init>", "([CIILjava/lang/Void;)V"⟩ : MethodName) jdk_42_method_149_code 6 (Option.none : Option FieldType) [] ({ frames := 4, cells := 2, slots := 9, locals := 81 } : Room) #[(.ref sa), (.ref a), (.int (0 : Int32)), (.int (3 : Int32)), .null] h0 n0 (fun v h => v = none ∧ Keep h0 h [sa] ∧ ∃ b kb, h0.size ≤ b ∧ Fld Z h sa "java/lang/String" "value" "[B" (.ref b) ∧ Fld Z h sa "java/lang/String" "coder" "B" (.int (1 : Int32)) ∧ Arv Z h b kb .byte (6 : Int32) [(.int (nar .byte (c0 >>> ((0 : Int32) &&& 31)).toInt8.toInt32)), (.int (nar .byte (c0 >>> ((8 : Int32) &&& 31)).toInt8.toInt32)), (.int (nar .byte (c1 >>> ((0 : Int32) &&& 31)).toInt8.toInt32)), (.int (nar .byte (c1 >>> ((8 : Int32) &&& 31)).toInt8.toInt32)), (.int (nar .byte (c2 >>> ((0 : Int32) &&& 31)).toInt8.toInt32)), (.int (nar .byte (c2 >>> ((8 : Int32) &&& 31)).toInt8.toInt32))] (.int (0 : Int32))) := by
  refine Met.of (Ls0 := #[.val (.ref sa), .val (.ref a), .val (.int (0 : Int32)), .val (.int (3 : Int32)), .val .null, .unset]) pl_1 (by first | (simp [argsToLocals, Value.category]; done) | rfl) hel ?_
  have hSA : ∀ d ∈ Bundle.stringAtoms, d.before a0 Z = true := fun d hd => hw d ((by decide +kernel : ∀ d ∈ Bundle.stringAtoms, d ∈ tables_1) d hd)
  intro p e s m below meth c hx hby hml hret hlk hown hnm hZ
  refine Go.aloadN (q := 1) hx (hb hby d2_0) rfl (by rfl) rfl ?_
  refine Go.initO (q := 4) hx hZ hown (tw hw 17 rfl) (tw hw 18 rfl) (tw hw 19 rfl) (by rw [hml]; rfl) (hb hby d2_1) rfl (by decide) (ble rfl) ?_
  refine Go.iloadN (q := 5) hx (hb hby d2_4) rfl rfl ?_
  refine Go.if_ne (q := 8) (t := 27) hx (hb hby d2_5) (by decide) rfl rfl (fun hc5 => ?_) (fun hc5 => absurd hc5 (by decide))
  refine Go.getS (q := 30) hx hZ hown (host := "") (Or.inl (tw hw 42 rfl)) Via.refl (Sta.ext X0.2 SC) (hb hby d2_27) rfl ?_
  refine Go.if_eq (q := 33) (t := 58) hx (hb hby d2_30) (by decide) rfl rfl (fun hc30 => absurd hc30 hcs) (fun hc30 => ?_)
  refine Go.aloadN (q := 34) hx (hb hby d2_33) rfl (by rfl) rfl ?_
  refine Go.iloadN (q := 35) hx (hb hby d2_34) rfl rfl ?_
  refine Go.iloadN (q := 36) hx (hb hby d2_35) rfl rfl ?_
  refine Go.callS (q := 39) hx hZ (argsL := [(.ref a), (.int (0 : Int32)), (.int (3 : Int32))]) (rest := []) hown (tw hw 43 rfl) (tw hw 44 rfl) (tw hw 45 rfl) (tw hw 46 rfl) (by decide) (rmDU3 l Z a0 hw hel a ka c0 c1 c2 h0 n0 Z0 A hq0 hq1 hq2 hU X0 AD HB LB) (fun _ hx => nomatch hx) (by rw [hml]; rfl) pd_1 rfl rfl (hb hby d2_36) rfl (by decide) (ble rfl) (ce' := 2) (sl' := 9) rfl rfl (by decide) (by decide) (fun v555 h556 hQ557 => ?_)
  have lt563 := (E).lt
  obtain ⟨b558, k559, rfl, g560, K561, V562⟩ := hQ557
  have ne564 : sa ≠ b558 := Nat.ne_of_lt (Nat.lt_of_lt_of_le lt563 g560)
  show Go _ _ _ _ _ _ _ _ _ _ _ _ _ _ _ _ _ _ _ _ 2 9 39 #[.val (.ref sa), .val (.ref a), .val (.int (0 : Int32)), .val (.int (3 : Int32)), .val .null, .unset] [(.ref b558)]
  refine Go.astore (q := 41) (l' := #[.val (.ref sa), .val (.ref a), .val (.int (0 : Int32)), .val (.int (3 : Int32)), .val .null, .val (.ref b558)]) hx (hb hby d2_39) (by rfl) rfl rfl ?_
  refine Go.aloadN (q := 42) hx (hb hby d2_41) rfl (by rfl) rfl ?_
  refine Go.aload (q := 44) hx (hb hby d2_42) rfl (by rfl) rfl ?_
  refine Go.iloadN (q := 45) hx (hb hby d2_44) rfl rfl ?_
  refine Go.callS (q := 48) hx hZ (argsL := [(.ref b558), (.int (3 : Int32))]) (rest := [(.ref sa)]) hown (tw hw 50 rfl) (tw hw 51 rfl) (tw hw 45 rfl) (tw hw 52 rfl) (by decide) (rmKU3 l Z a0 hw hel b558 k559 _ h556 n0 (Nat.le_trans Z0 K561.1) V562) (fun _ hx => nomatch hx) (by rw [hml]; rfl) pd_2 rfl rfl (hb hby d2_45) rfl (by decide) (ble rfl) (ce' := 2) (sl' := 9) rfl rfl (by decide) (by decide) (fun v565 h566 hQ567 => ?_)
  obtain ⟨rfl, rfl⟩ := hQ567
  show Go _ _ _ _ _ _ _ _ _ _ _ _ _ _ _ _ _ _ _ _ 2 9 48 #[.val (.ref sa), .val (.ref a), .val (.int (0 : Int32)), .val (.int (3 : Int32)), .val .null, .val (.ref b558)] [(.int (1 : Int32)), (.ref sa)]
  refine Go.putF (q := 51) hx hZ hown (host := "") (Or.inl (tw hw 27 rfl)) Via.refl (F2.keep K561 nin0) (E.keep K561) (Or.inr ⟨(tw hw 23 rfl), rfl, hnm⟩) (tw hw 7 rfl) (ty := .byte) (by decide) rfl rfl gs (by simp) (hb hby d2_48) rfl (fun h568 W569 => ?_)
  refine Go.aloadN (q := 52) hx (hb hby d2_51) rfl (by rfl) rfl ?_
  refine Go.aload (q := 54) hx (hb hby d2_52) rfl (by rfl) rfl ?_
  refine Go.putF (q := 57) hx hZ hown (host := "") (Or.inl (tw hw 26 rfl)) Via.refl (Fld.other W569 (F1.keep K561 nin0) (Or.inr (slot_ne (C := "java/lang/String") (Or.inr (tw hw 22 rfl)) (Or.inr (tw hw 23 rfl)) (by decide) (by decide : _ = some (.array .byte)) (by decide : _ = some .byte)))) (Exa.wr W569 (E.keep K561)) (Or.inr ⟨(tw hw 22 rfl), rfl, hnm⟩) (tw hw 7 rfl) (ty := (.array .byte)) (by decide) rfl rfl gs (by simp) (hb hby d2_54) rfl (fun h570 W571 => ?_)
  refine Go.ret0 hx hret hlk (hb hby d2_57) (by decide) (by decide) ?_
  exact ⟨rfl, (((Keep.trans (Keep.refl h0 [sa]) K561 all0).wr W569 (Or.inl (by simp))).wr W571 (Or.inl (by simp))), b558, k559, g560, (Fld.same W571 (Fld.other W569 (F1.keep K561 nin0) (Or.inr (slot_ne (C := "java/lang/String") (Or.inr (tw hw 22 rfl)) (Or.inr (tw hw 23 rfl)) (by decide) (by decide : _ = some (.array .byte)) (by decide : _ = some .byte))))), (Fld.other W571 (Fld.same W569 (F2.keep K561 nin0)) (Or.inr (slot_ne (C := "java/lang/String") (Or.inr (tw hw 23 rfl)) (Or.inr (tw hw 22 rfl)) (by decide) (by decide : _ = some .byte) (by decide : _ = some (.array .byte))))), ((V562.other W569 ne564.symm).other W571 ne564.symm)⟩
theorem rmIU3 (l : Launch) (Z : State) (a0 : Array Value) (hw : ∀ d ∈ tables_1, d.before a0 Z = true) (hel : EW Z a0 consts_1) (sa a : Addr) (ka : ClassId) (cst : Int32) (c0 c1 c2 : Int32) (h0 : Heap) (n0 : Nat) (Z0 : n0 ≤ h0.size) (gs : n0 ≤ sa) (nas : a ≠ sa) (E : Exa Z h0 sa "java/lang/String") (F1 : Fld Z h0 sa "java/lang/String" "value" "[B" .null) (F2 : Fld Z h0 sa "java/lang/String" "coder" "B" (.int (0 : Int32))) (A : Arv Z h0 a ka .char (3 : Int32) [.int c0, .int c1, .int c2] (.int (0 : Int32))) (hq0 : Chr c0) (hq1 : Chr c1) (hq2 : Chr c2) (hU : ((255 : Int32) < c0) ∨ (¬ (255 : Int32) < c0 ∧ (255 : Int32) < c1) ∨ (¬ (255 : Int32) < c0 ∧ ¬ (255 : Int32) < c1 ∧ (255 : Int32) < c2)) (X0 : Old Z n0 h0) (SC : Sta Z Z.heap "java/lang/String" "COMPACT_STRINGS" "Z" (.int cst)) (hcs : ¬ cst = (0 : Int32)) (AD : Sta Z Z.heap "java/lang/StringUTF16" "$assertionsDisabled" "Z" (.int (1 : Int32))) (HB : Sta Z Z.heap "java/lang/StringUTF16" "HI_BYTE_SHIFT" "I" (.int (0 : Int32))) (LB : Sta Z Z.heap "java/lang/StringUTF16" "LO_BYTE_SHIFT" "I" (.int (8 : Int32))) :
    Met l Z consts_1 [sa] (⟨"java/lang/String", "<init>", "([C)V"⟩ : MethodName) jdk_42_method_3_code 2 (Option.none : Option FieldType) [] ({ frames := 5, cells := 2, slots := 9, locals := 104 } : Room) #[(.ref sa), (.ref a)] h0 n0 (fun v h => v = none ∧ Keep h0 h [sa] ∧ ∃ b kb, h0.size ≤ b ∧ Fld Z h sa "java/lang/String" "value" "[B" (.ref b) ∧ Fld Z h sa "java/lang/String" "coder" "B" (.int (1 : Int32)) ∧ Arv Z h b kb .byte (6 : Int32) [(.int (nar .byte (c0 >>> ((0 : Int32) &&& 31)).toInt8.toInt32)), (.int (nar .byte (c0 >>> ((8 : Int32) &&& 31)).toInt8.toInt32)), (.int (nar .byte (c1 >>> ((0 : Int32) &&& 31)).toInt8.toInt32)), (.int (nar .byte (c1 >>> ((8 : Int32) &&& 31)).toInt8.toInt32)), (.int (nar .byte (c2 >>> ((0 : Int32) &&& 31)).toInt8.toInt32)), (.int (nar .byte (c2 >>> ((8 : Int32) &&& 31)).toInt8.toInt32))] (.int (0 : Int32))) := by
  refine Met.of (Ls0 := #[.val (.ref sa), .val (.ref a)]) pl_2 (by first | (simp [argsToLocals, Value.category]; done) | rfl) hel ?_
  intro p e s m below meth c hx hby hml hret hlk hown hnm hZ
  refine Go.aloadN (q := 1) hx (hb hby d1_0) rfl (by rfl) rfl ?_
  refine Go.aloadN (q := 2) hx (hb hby d1_1) rfl (by rfl) rfl ?_
  refine Go.iconst (q := 3) (z := (0 : Int32)) hx (hb hby d1_2) rfl rfl ?_
  refine Go.aloadN (q := 4) hx (hb hby d1_3) rfl (by rfl) rfl ?_
  refine Go.alen (q := 5) hx hZ A (hb hby d1_4) rfl ?_
  refine Go.aconstNull (q := 6) hx (hb hby d1_5) rfl ?_
  refine Go.callI (q := 9) hx hZ (a := sa) (argsL := [(.ref a), (.int (0 : Int32)), (.int (3 : Int32)), .null]) (rest := []) hown rfl (tw hw 13 rfl) (tw hw 14 rfl) (tw hw 8 rfl) (tw hw 16 rfl) (by decide) (rmSU3 l Z a0 hw hel sa a ka cst c0 c1 c2 h0 n0 Z0 gs nas E F1 F2 A hq0 hq1 hq2 hU X0 SC hcs AD HB LB) (by simp) (by rw [hml]; rfl) pd_3 rfl rfl (hb hby d1_6) rfl (by decide) (ble rfl) (ce' := 2) (sl' := 9) rfl rfl (by decide) (by decide) (fun v572 h573 hQ574 => ?_)
  obtain ⟨rfl, K575, Y576⟩ := hQ574
  show Go _ _ _ _ _ _ _ _ _ _ _ _ _ _ _ _ _ _ _ _ 2 9 9 #[.val (.ref sa), .val (.ref a)] []
  refine Go.ret0 hx hret hlk (hb hby d1_9) (by decide) (by decide) ?_
  exact ⟨rfl, (Keep.trans (Keep.refl h0 [sa]) K575 (allS (Or.inl (by simp)) all0)), Y576⟩
theorem lu3 (c0 c1 c2 : Int32) : (¬ (255 : Int32) < c0 ∧ ¬ (255 : Int32) < c1 ∧ ¬ (255 : Int32) < c2) ∨ (((255 : Int32) < c0) ∨ (¬ (255 : Int32) < c0 ∧ (255 : Int32) < c1) ∨ (¬ (255 : Int32) < c0 ∧ ¬ (255 : Int32) < c1 ∧ (255 : Int32) < c2)) := if h0 : (255 : Int32) < c0 then Or.inr (Or.inl h0) else if h1 : (255 : Int32) < c1 then Or.inr (Or.inr (Or.inl ⟨h0, h1⟩)) else if h2 : (255 : Int32) < c2 then Or.inr (Or.inr (Or.inr ⟨h0, h1, h2⟩)) else Or.inl ⟨h0, h1, h2⟩
theorem rmNL4 (l : Launch) (Z : State) (a0 : Array Value) (hw : ∀ d ∈ tables_1, d.before a0 Z = true) (hel : EW Z a0 consts_1)  (h0 : Heap) (n0 : Nat) (Z0 : n0 ≤ h0.size)  :
    Met l Z consts_1 [] (⟨"java/lang/StringUTF16", "newBytesLength", "(I)I"⟩ : MethodName) jdk_52_method_3_code 1 (Option.some FieldType.int) [] ({ frames := 0, cells := 0, slots := 0, locals := 0 } : Room) #[(.int (4 : Int32))] h0 n0 (fun v h => v = some (.int (8 : Int32)) ∧ h0 = h) := by
  refine Met.of (Ls0 := #[.val (.int (4 : Int32))]) pl_5 (by first | (simp [argsToLocals, Value.category]; done) | rfl) hel ?_
  have hSA : ∀ d ∈ Bundle.stringAtoms, d.before a0 Z = true := fun d hd => hw d ((by decide +kernel : ∀ d ∈ Bundle.stringAtoms, d ∈ tables_1) d hd)
  intro p e s m below meth c hx hby hml hret hlk hown hnm hZ
  refine Go.iloadN (q := 1) hx (hb hby d17_0) rfl rfl ?_
  refine Go.if_ge (q := 4) (t := 12) hx (hb hby d17_1) (by decide) rfl rfl (fun hc1 => ?_) (fun hc1 => absurd hc1 (by decide))
  refine Go.iloadN (q := 13) hx (hb hby d17_12) rfl rfl ?_
  refine Go.ldcInt (q := 15) hx hZ hown (tw hw 84 rfl) (hb hby d17_13) rfl ?_
  refine Go.icmp_lt (q := 18) (t := 55) hx (hb hby d17_15) (by decide) rfl rfl (fun hc15 => ?_) (fun hc15 => absurd hc15 (by decide))
  refine Go.iloadN (q := 56) hx (hb hby d17_55) rfl rfl ?_
  refine Go.iconst (q := 57) (z := (1 : Int32)) hx (hb hby d17_56) rfl rfl ?_
  refine Go.ishl (q := 58) hx (hb hby d17_57) rfl ?_
  rw [show (4 : Int32) <<< ((1 : Int32) &&& 31) = (8 : Int32) from by decide]
  refine Go.retI hx hret hlk (hb hby d17_58) (by decide) (by decide) ?_
  exact ⟨rfl, rfl⟩
theorem rmNB4 (l : Launch) (Z : State) (a0 : Array Value) (hw : ∀ d ∈ tables_1, d.before a0 Z = true) (hel : EW Z a0 consts_1)  (h0 : Heap) (n0 : Nat) (Z0 : n0 ≤ h0.size)  :
    Met l Z consts_1 [] (⟨"java/lang/StringUTF16", "newBytesFor", "(I)[B"⟩ : MethodName) jdk_52_method_2_code 1 (Option.some (FieldType.array FieldType.byte)) [] ({ frames := 1, cells := 1, slots := 8, locals := 18 } : Room) #[(.int (4 : Int32))] h0 n0 (fun v h => ∃ b kb, v = some (.ref b) ∧ h0.size ≤ b ∧ Keep h0 h [] ∧ Arv Z h b kb .byte (8 : Int32) [(.int (0 : Int32)), (.int (0 : Int32)), (.int (0 : Int32)), (.int (0 : Int32)), (.int (0 : Int32)), (.int (0 : Int32)), (.int (0 : Int32)), (.int (0 : Int32))] (.int (0 : Int32))) := by
  refine Met.of (Ls0 := #[.val (.int (4 : Int32))]) pl_6 (by first | (simp [argsToLocals, Value.category]; done) | rfl) hel ?_
  intro p e s m below meth c hx hby hml hret hlk hown hnm hZ
  refine Go.iloadN (q := 1) hx (hb hby d16_0) rfl rfl ?_
  refine Go.callS (q := 4) hx hZ (argsL := [(.int (4 : Int32))]) (rest := []) hown (tw hw 81 rfl) (tw hw 82 rfl) (tw hw 45 rfl) (tw hw 83 rfl) (by decide) (rmNL4 l Z a0 hw hel h0 n0 Z0) (fun _ hx => nomatch hx) (by rw [hml]; rfl) pd_6 rfl rfl (hb hby d16_1) rfl (by decide) (ble rfl) (ce' := 0) (sl' := 0) rfl rfl (by decide) (by decide) (fun v577 h578 hQ579 => ?_)
  obtain ⟨rfl, rfl⟩ := hQ579
  show Go _ _ _ _ _ _ _ _ _ _ _ _ _ _ _ _ _ _ _ _ 0 0 4 #[.val (.int (4 : Int32))] [(.int (8 : Int32))]
  refine Go.newP (q := 6) (cap := 8) hx hZ (tw hw 21 rfl) (by decide) (by decide) (hb hby d16_4) rfl (by decide) (ce' := 1) (sl' := 8) rfl rfl (by decide) (by decide) (fun h580 a581 k582 g583 E584 A585 => ?_)
  have gz586 : n0 ≤ a581 := by rw [g583]; exact Z0
  have gk587 : h0.size ≤ a581 := by rw [g583]; exact (Keep.refl h0 []).1
  have V588 : Arv Z h580 a581 k582 .byte (8 : Int32) [(.int (0 : Int32)), (.int (0 : Int32)), (.int (0 : Int32)), (.int (0 : Int32)), (.int (0 : Int32)), (.int (0 : Int32)), (.int (0 : Int32)), (.int (0 : Int32))] (.int (0 : Int32)) := A585.pad (pad_rep [] (.int (0 : Int32)) 8)
  refine Go.retA hx hret rfl (by rfl) hlk (hb hby d16_6) (by decide) (by decide) ?_
  exact ⟨a581, _, rfl, gk587, ((Keep.refl h0 []).ext E584), V588⟩
theorem rmP4_0 (l : Launch) (Z : State) (a0 : Array Value) (hw : ∀ d ∈ tables_1, d.before a0 Z = true) (hel : EW Z a0 consts_1) (b : Addr) (kb : ClassId) (x d0 d1 d2 d3 d4 d5 d6 d7 : Int32) (h0 : Heap) (n0 : Nat) (Z0 : n0 ≤ h0.size) (B : Arv Z h0 b kb .byte (8 : Int32) [(.int d0), (.int d1), (.int d2), (.int d3), (.int d4), (.int d5), (.int d6), (.int d7)] (.int (0 : Int32))) (gb : n0 ≤ b) (X0 : Old Z n0 h0) (AD : Sta Z Z.heap "java/lang/StringUTF16" "$assertionsDisabled" "Z" (.int (1 : Int32))) (HB : Sta Z Z.heap "java/lang/StringUTF16" "HI_BYTE_SHIFT" "I" (.int (0 : Int32))) (LB : Sta Z Z.heap "java/lang/StringUTF16" "LO_BYTE_SHIFT" "I" (.int (8 : Int32))) :
    Met l Z consts_1 [b] (⟨"java/lang/StringUTF16", "putChar", "([BII)V"⟩ : MethodName) jdk_52_method_4_code 3 (Option.none : Option FieldType) [] ({ frames := 0, cells := 0, slots := 0, locals := 0 } : Room) #[(.ref b), (.int (0 : Int32)), (.int x)] h0 n0 (fun v h => v = none ∧ Keep h0 h [b] ∧ Arv Z h b kb .byte (8 : Int32) [(.int (nar .byte (x >>> ((0 : Int32) &&& 31)).toInt8.toInt32)), (.int (nar .byte (x >>> ((8 : Int32) &&& 31)).toInt8.toInt32)), (.int d2), (.int d3), (.int d4), (.int d5), (.int d6), (.int d7)] (.int (0 : Int32))) := by
  refine Met.of (Ls0 := #[.val (.ref b), .val (.int (0 : Int32)), .val (.int x)]) pl_7 (by first | (simp [argsToLocals, Value.category]; done) | rfl) hel ?_
  have hSA : ∀ d ∈ Bundle.stringAtoms, d.before a0 Z = true := fun d hd => hw d ((by decide +kernel : ∀ d ∈ Bundle.stringAtoms, d ∈ tables_1) d hd)
  intro p e s m below meth c hx hby hml hret hlk hown hnm hZ
  refine Go.getS (q := 3) hx hZ hown (host := "") (Or.inl (tw hw 88 rfl)) Via.refl (Sta.ext X0.2 AD) (hb hby d18_0) rfl ?_
  refine Go.if_ne (q := 6) (t := 28) hx (hb hby d18_3) (by decide) rfl rfl (fun hc3 => ?_) (fun hc3 => absurd hc3 (by decide))
  refine Go.iloadN (q := 29) hx (hb hby d18_28) rfl rfl ?_
  refine Go.iconst (q := 30) (z := (1 : Int32)) hx (hb hby d18_29) rfl rfl ?_
  refine Go.ishl (q := 31) hx (hb hby d18_30) rfl ?_
  rw [show (0 : Int32) <<< ((1 : Int32) &&& 31) = (0 : Int32) from by decide]
  refine Go.istoreN (q := 32) (l' := #[.val (.ref b), .val (.int (0 : Int32)), .val (.int x)]) hx (hb hby d18_31) rfl rfl ?_
  refine Go.aloadN (q := 33) hx (hb hby d18_32) rfl (by rfl) rfl ?_
  refine Go.iloadN (q := 34) hx (hb hby d18_33) rfl rfl ?_
  refine Go.iinc (q := 37) (l' := #[.val (.ref b), .val (.int ((0 : Int32) + (1 : Int32))), .val (.int x)]) hx (hb hby d18_34) rfl rfl rfl ?_
  refine Go.iloadN (q := 38) hx (hb hby d18_37) rfl rfl ?_
  refine Go.getS (q := 41) hx hZ hown (host := "") (Or.inl (tw hw 89 rfl)) Via.refl (Sta.ext X0.2 HB) (hb hby d18_38) rfl ?_
  refine Go.ishr (q := 42) hx (hb hby d18_41) rfl ?_
  refine Go.i2b (q := 43) hx (hb hby d18_42) rfl ?_
  refine Go.bastore (q := 44) hx hZ B ⟨by decide, by decide⟩ 0 rfl (ble rfl) gb (by simp) (hb hby d18_43) rfl (fun h589 W590 V591 => ?_)
  refine Go.aloadN (q := 45) hx (hb hby d18_44) rfl (by rfl) rfl ?_
  refine Go.iloadN (q := 46) hx (hb hby d18_45) rfl rfl ?_
  refine Go.iloadN (q := 47) hx (hb hby d18_46) rfl rfl ?_
  refine Go.getS (q := 50) hx hZ hown (host := "") (Or.inl (tw hw 90 rfl)) Via.refl (Sta.ext (X0.wr W590 gb).2 LB) (hb hby d18_47) rfl ?_
  refine Go.ishr (q := 51) hx (hb hby d18_50) rfl ?_
  refine Go.i2b (q := 52) hx (hb hby d18_51) rfl ?_
  refine Go.bastore (q := 53) hx hZ V591 ⟨by decide, by decide⟩ 1 rfl (ble rfl) gb (by simp) (hb hby d18_52) rfl (fun h592 W593 V594 => ?_)
  refine Go.ret0 hx hret hlk (hb hby d18_53) (by decide) (by decide) ?_
  exact ⟨rfl, (((Keep.refl h0 [b]).wr W590 (Or.inl (by simp))).wr W593 (Or.inl (by simp))), V594⟩
theorem rmG4_0 (l : Launch) (Z : State) (a0 : Array Value) (hw : ∀ d ∈ tables_1, d.before a0 Z = true) (hel : EW Z a0 consts_1) (b : Addr) (kb : ClassId) (c0 c1 c2 c3 : Int32) (h0 : Heap) (n0 : Nat) (Z0 : n0 ≤ h0.size) (B : Arv Z h0 b kb .byte (8 : Int32) [(.int (nar .byte (c0 >>> ((0 : Int32) &&& 31)).toInt8.toInt32)), (.int (nar .byte (c0 >>> ((8 : Int32) &&& 31)).toInt8.toInt32)), (.int (nar .byte (c1 >>> ((0 : Int32) &&& 31)).toInt8.toInt32)), (.int (nar .byte (c1 >>> ((8 : Int32) &&& 31)).toInt8.toInt32)), (.int (nar .byte (c2 >>> ((0 : Int32) &&& 31)).toInt8.toInt32)), (.int (nar .byte (c2 >>> ((8 : Int32) &&& 31)).toInt8.toInt32)), (.int (nar .byte (c3 >>> ((0 : Int32) &&& 31)).toInt8.toInt32)), (.int (nar .byte (c3 >>> ((8 : Int32) &&& 31)).toInt8.toInt32))] (.int (0 : Int32))) (hq0 : Chr c0) (X0 : Old Z n0 h0) (AD : Sta Z Z.heap "java/lang/StringUTF16" "$assertionsDisabled" "Z" (.int (1 : Int32))) (HB : Sta Z Z.heap "java/lang/StringUTF16" "HI_BYTE_SHIFT" "I" (.int (0 : Int32))) (LB : Sta Z Z.heap "java/lang/StringUTF16" "LO_BYTE_SHIFT" "I" (.int (8 : Int32))) :
    Met l Z consts_1 [] (⟨"java/lang/StringUTF16", "getChar", "([BI)C"⟩ : MethodName) jdk_52_method_5_code 2 (Option.some FieldType.char) [] ({ frames := 0, cells := 0, slots := 0, locals := 0 } : Room) #[(.ref b), (.int (0 : Int32))] h0 n0 (fun v h => v = some (.int c0) ∧ h0 = h) := by
  refine Met.of (Ls0 := #[.val (.ref b), .val (.int (0 : Int32))]) pl_8 (by first | (simp [argsToLocals, Value.category]; done) | rfl) hel ?_
  have hSA : ∀ d ∈ Bundle.stringAtoms, d.before a0 Z = true := fun d hd => hw d ((by decide +kernel : ∀ d ∈ Bundle.stringAtoms, d ∈ tables_1) d hd)
  intro p e s m below meth c hx hby hml hret hlk hown hnm hZ
  refine Go.getS (q := 3) hx hZ hown (host := "") (Or.inl (tw hw 88 rfl)) Via.refl (Sta.ext X0.2 AD) (hb hby d19_0) rfl ?_
  refine Go.if_ne (q := 6) (t := 28) hx (hb hby d19_3) (by decide) rfl rfl (fun hc3 => ?_) (fun hc3 => absurd hc3 (by decide))
  refine Go.iloadN (q := 29) hx (hb hby d19_28) rfl rfl ?_
  refine Go.iconst (q := 30) (z := (1 : Int32)) hx (hb hby d19_29) rfl rfl ?_
  refine Go.ishl (q := 31) hx (hb hby d19_30) rfl ?_
  rw [show (0 : Int32) <<< ((1 : Int32) &&& 31) = (0 : Int32) from by decide]
  refine Go.istoreN (q := 32) (l' := #[.val (.ref b), .val (.int (0 : Int32))]) hx (hb hby d19_31) rfl rfl ?_
  refine Go.aloadN (q := 33) hx (hb hby d19_32) rfl (by rfl) rfl ?_
  refine Go.iloadN (q := 34) hx (hb hby d19_33) rfl rfl ?_
  refine Go.iinc (q := 37) (l' := #[.val (.ref b), .val (.int ((0 : Int32) + (1 : Int32)))]) hx (hb hby d19_34) rfl rfl rfl ?_
  refine Go.baload (q := 38) (v := (.int (nar .byte (c0 >>> ((0 : Int32) &&& 31)).toInt8.toInt32))) hx hZ B ⟨by decide, by decide⟩ rfl (hb hby d19_37) rfl ?_
  refine Go.sipush (q := 41) (z := (255 : Int32)) hx (hb hby d19_38) rfl rfl ?_
  refine Go.iand (q := 42) hx (hb hby d19_41) rfl ?_
  refine Go.getS (q := 45) hx hZ hown (host := "") (Or.inl (tw hw 89 rfl)) Via.refl (Sta.ext X0.2 HB) (hb hby d19_42) rfl ?_
  refine Go.ishl (q := 46) hx (hb hby d19_45) rfl ?_
  refine Go.aloadN (q := 47) hx (hb hby d19_46) rfl (by rfl) rfl ?_
  refine Go.iloadN (q := 48) hx (hb hby d19_47) rfl rfl ?_
  refine Go.baload (q := 49) (v := (.int (nar .byte (c0 >>> ((8 : Int32) &&& 31)).toInt8.toInt32))) hx hZ B ⟨by decide, by decide⟩ rfl (hb hby d19_48) rfl ?_
  refine Go.sipush (q := 52) (z := (255 : Int32)) hx (hb hby d19_49) rfl rfl ?_
  refine Go.iand (q := 53) hx (hb hby d19_52) rfl ?_
  refine Go.getS (q := 56) hx hZ hown (host := "") (Or.inl (tw hw 90 rfl)) Via.refl (Sta.ext X0.2 LB) (hb hby d19_53) rfl ?_
  refine Go.ishl (q := 57) hx (hb hby d19_56) rfl ?_
  refine Go.ior (q := 58) hx (hb hby d19_57) rfl ?_
  refine Go.i2c (q := 59) hx (hb hby d19_58) rfl ?_
  refine Go.retN hx (t := .char) hret (by simp) hlk (hb hby d19_59) (by decide) (by decide) ?_
  exact ⟨congrArg (fun z => some (Value.int z)) (utf_ok hq0), rfl⟩
theorem rmP4_1 (l : Launch) (Z : State) (a0 : Array Value) (hw : ∀ d ∈ tables_1, d.before a0 Z = true) (hel : EW Z a0 consts_1) (b : Addr) (kb : ClassId) (x d0 d1 d2 d3 d4 d5 d6 d7 : Int32) (h0 : Heap) (n0 : Nat) (Z0 : n0 ≤ h0.size) (B : Arv Z h0 b kb .byte (8 : Int32) [(.int d0), (.int d1), (.int d2), (.int d3), (.int d4), (.int d5), (.int d6), (.int d7)] (.int (0 : Int32))) (gb : n0 ≤ b) (X0 : Old Z n0 h0) (AD : Sta Z Z.heap "java/lang/StringUTF16" "$assertionsDisabled" "Z" (.int (1 : Int32))) (HB : Sta Z Z.heap "java/lang/StringUTF16" "HI_BYTE_SHIFT" "I" (.int (0 : Int32))) (LB : Sta Z Z.heap "java/lang/StringUTF16" "LO_BYTE_SHIFT" "I" (.int (8 : Int32))) :
    Met l Z consts_1 [b] (⟨"java/lang/StringUTF16", "putChar", "([BII)V"⟩ : MethodName) jdk_52_method_4_code 3 (Option.none : Option FieldType) [] ({ frames := 0, cells := 0, slots := 0, locals := 0 } : Room) #[(.ref b), (.int (1 : Int32)), (.int x)] h0 n0 (fun v h => v = none ∧ Keep h0 h [b] ∧ Arv Z h b kb .byte (8 : Int32) [(.int d0), (.int d1), (.int (nar .byte (x >>> ((0 : Int32) &&& 31)).toInt8.toInt32)), (.int (nar .byte (x >>> ((8 : Int32) &&& 31)).toInt8.toInt32)), (.int d4), (.int d5), (.int d6), (.int d7)] (.int (0 : Int32))) := by
  refine Met.of (Ls0 := #[.val (.ref b), .val (.int (1 : Int32)), .val (.int x)]) pl_7 (by first | (simp [argsToLocals, Value.category]; done) | rfl) hel ?_
  have hSA : ∀ d ∈ Bundle.stringAtoms, d.before a0 Z = true := fun d hd => hw d ((by decide +kernel : ∀ d ∈ Bundle.stringAtoms, d ∈ tables_1) d hd)
  intro p e s m below meth c hx hby hml hret hlk hown hnm hZ
  refine Go.getS (q := 3) hx hZ hown (host := "") (Or.inl (tw hw 88 rfl)) Via.refl (Sta.ext X0.2 AD) (hb hby d18_0) rfl ?_
  refine Go.if_ne (q := 6) (t := 28) hx (hb hby d18_3) (by decide) rfl rfl (fun hc3 => ?_) (fun hc3 => absurd hc3 (by decide))
  refine Go.iloadN (q := 29) hx (hb hby d18_28) rfl rfl ?_
  refine Go.iconst (q := 30) (z := (1 : Int32)) hx (hb hby d18_29) rfl rfl ?_
  refine Go.ishl (q := 31) hx (hb hby d18_30) rfl ?_
  rw [show (1 : Int32) <<< ((1 : Int32) &&& 31) = (2 : Int32) from by decide]
  refine Go.istoreN (q := 32) (l' := #[.val (.ref b), .val (.int (2 : Int32)), .val (.int x)]) hx (hb hby d18_31) rfl rfl ?_
  refine Go.aloadN (q := 33) hx (hb hby d18_32) rfl (by rfl) rfl ?_
  refine Go.iloadN (q := 34) hx (hb hby d18_33) rfl rfl ?_
  refine Go.iinc (q := 37) (l' := #[.val (.ref b), .val (.int ((2 : Int32) + (1 : Int32))), .val (.int x)]) hx (hb hby d18_34) rfl rfl rfl ?_
  refine Go.iloadN (q := 38) hx (hb hby d18_37) rfl rfl ?_
  refine Go.getS (q := 41) hx hZ hown (host := "") (Or.inl (tw hw 89 rfl)) Via.refl (Sta.ext X0.2 HB) (hb hby d18_38) rfl ?_
  refine Go.ishr (q := 42) hx (hb hby d18_41) rfl ?_
  refine Go.i2b (q := 43) hx (hb hby d18_42) rfl ?_
  refine Go.bastore (q := 44) hx hZ B ⟨by decide, by decide⟩ 2 rfl (ble rfl) gb (by simp) (hb hby d18_43) rfl (fun h595 W596 V597 => ?_)
  refine Go.aloadN (q := 45) hx (hb hby d18_44) rfl (by rfl) rfl ?_
  refine Go.iloadN (q := 46) hx (hb hby d18_45) rfl rfl ?_
  refine Go.iloadN (q := 47) hx (hb hby d18_46) rfl rfl ?_
  refine Go.getS (q := 50) hx hZ hown (host := "") (Or.inl (tw hw 90 rfl)) Via.refl (Sta.ext (X0.wr W596 gb).2 LB) (hb hby d18_47) rfl ?_
  refine Go.ishr (q := 51) hx (hb hby d18_50) rfl ?_
  refine Go.i2b (q := 52) hx (hb hby d18_51) rfl ?_
  refine Go.bastore (q := 53) hx hZ V597 ⟨by decide, by decide⟩ 3 rfl (ble rfl) gb (by simp) (hb hby d18_52) rfl (fun h598 W599 V600 => ?_)
  refine Go.ret0 hx hret hlk (hb hby d18_53) (by decide) (by decide) ?_
  exact ⟨rfl, (((Keep.refl h0 [b]).wr W596 (Or.inl (by simp))).wr W599 (Or.inl (by simp))), V600⟩
theorem rmG4_1 (l : Launch) (Z : State) (a0 : Array Value) (hw : ∀ d ∈ tables_1, d.before a0 Z = true) (hel : EW Z a0 consts_1) (b : Addr) (kb : ClassId) (c0 c1 c2 c3 : Int32) (h0 : Heap) (n0 : Nat) (Z0 : n0 ≤ h0.size) (B : Arv Z h0 b kb .byte (8 : Int32) [(.int (nar .byte (c0 >>> ((0 : Int32) &&& 31)).toInt8.toInt32)), (.int (nar .byte (c0 >>> ((8 : Int32) &&& 31)).toInt8.toInt32)), (.int (nar .byte (c1 >>> ((0 : Int32) &&& 31)).toInt8.toInt32)), (.int (nar .byte (c1 >>> ((8 : Int32) &&& 31)).toInt8.toInt32)), (.int (nar .byte (c2 >>> ((0 : Int32) &&& 31)).toInt8.toInt32)), (.int (nar .byte (c2 >>> ((8 : Int32) &&& 31)).toInt8.toInt32)), (.int (nar .byte (c3 >>> ((0 : Int32) &&& 31)).toInt8.toInt32)), (.int (nar .byte (c3 >>> ((8 : Int32) &&& 31)).toInt8.toInt32))] (.int (0 : Int32))) (hq1 : Chr c1) (X0 : Old Z n0 h0) (AD : Sta Z Z.heap "java/lang/StringUTF16" "$assertionsDisabled" "Z" (.int (1 : Int32))) (HB : Sta Z Z.heap "java/lang/StringUTF16" "HI_BYTE_SHIFT" "I" (.int (0 : Int32))) (LB : Sta Z Z.heap "java/lang/StringUTF16" "LO_BYTE_SHIFT" "I" (.int (8 : Int32))) :
    Met l Z consts_1 [] (⟨"java/lang/StringUTF16", "getChar", "([BI)C"⟩ : MethodName) jdk_52_method_5_code 2 (Option.some FieldType.char) [] ({ frames := 0, cells := 0, slots := 0, locals := 0 } : Room) #[(.ref b), (.int (1 : Int32))] h0 n0 (fun v h => v = some (.int c1) ∧ h0 = h) := by
  refine Met.of (Ls0 := #[.val (.ref b), .val (.int (1 : Int32))]) pl_8 (by first | (simp [argsToLocals, Value.category]; done) | rfl) hel ?_
  have hSA : ∀ d ∈ Bundle.stringAtoms, d.before a0 Z = true := fun d hd => hw d ((by decide +kernel : ∀ d ∈ Bundle.stringAtoms, d ∈ tables_1) d hd)
  intro p e s m below meth c hx hby hml hret hlk hown hnm hZ
  refine Go.getS (q := 3) hx hZ hown (host := "") (Or.inl (tw hw 88 rfl)) Via.refl (Sta.ext X0.2 AD) (hb hby d19_0) rfl ?_
  refine Go.if_ne (q := 6) (t := 28) hx (hb hby d19_3) (by decide) rfl rfl (fun hc3 => ?_) (fun hc3 => absurd hc3 (by decide))
  refine Go.iloadN (q := 29) hx (hb hby d19_28) rfl rfl ?_
  refine Go.iconst (q := 30) (z := (1 : Int32)) hx (hb hby d19_29) rfl rfl ?_
  refine Go.ishl (q := 31) hx (hb hby d19_30) rfl ?_
  rw [show (1 : Int32) <<< ((1 : Int32) &&& 31) = (2 : Int32) from by decide]
  refine Go.istoreN (q := 32) (l' := #[.val (.ref b), .val (.int (2 : Int32))]) hx (hb hby d19_31) rfl rfl ?_
  refine Go.aloadN (q := 33) hx (hb hby d19_32) rfl (by rfl) rfl ?_
  refine Go.iloadN (q := 34) hx (hb hby d19_33) rfl rfl ?_
  refine Go.iinc (q := 37) (l' := #[.val (.ref b), .val (.int ((2 : Int32) + (1 : Int32)))]) hx (hb hby d19_34) rfl rfl rfl ?_
  refine Go.baload (q := 38) (v := (.int (nar .byte (c1 >>> ((0 : Int32) &&& 31)).toInt8.toInt32))) hx hZ B ⟨by decide, by decide⟩ rfl (hb hby d19_37) rfl ?_
  refine Go.sipush (q := 41) (z := (255 : Int32)) hx (hb hby d19_38) rfl rfl ?_
  refine Go.iand (q := 42) hx (hb hby d19_41) rfl ?_
  refine Go.getS (q := 45) hx hZ hown (host := "") (Or.inl (tw hw 89 rfl)) Via.refl (Sta.ext X0.2 HB) (hb hby d19_42) rfl ?_
  refine Go.ishl (q := 46) hx (hb hby d19_45) rfl ?_
  refine Go.aloadN (q := 47) hx (hb hby d19_46) rfl (by rfl) rfl ?_
  refine Go.iloadN (q := 48) hx (hb hby d19_47) rfl rfl ?_
  refine Go.baload (q := 49) (v := (.int (nar .byte (c1 >>> ((8 : Int32) &&& 31)).toInt8.toInt32))) hx hZ B ⟨by decide, by decide⟩ rfl (hb hby d19_48) rfl ?_
  refine Go.sipush (q := 52) (z := (255 : Int32)) hx (hb hby d19_49) rfl rfl ?_
  refine Go.iand (q := 53) hx (hb hby d19_52) rfl ?_
  refine Go.getS (q := 56) hx hZ hown (host := "") (Or.inl (tw hw 90 rfl)) Via.refl (Sta.ext X0.2 LB) (hb hby d19_53) rfl ?_
  refine Go.ishl (q := 57) hx (hb hby d19_56) rfl ?_
  refine Go.ior (q := 58) hx (hb hby d19_57) rfl ?_
  refine Go.i2c (q := 59) hx (hb hby d19_58) rfl ?_
  refine Go.retN hx (t := .char) hret (by simp) hlk (hb hby d19_59) (by decide) (by decide) ?_
  exact ⟨congrArg (fun z => some (Value.int z)) (utf_ok hq1), rfl⟩
theorem rmP4_2 (l : Launch) (Z : State) (a0 : Array Value) (hw : ∀ d ∈ tables_1, d.before a0 Z = true) (hel : EW Z a0 consts_1) (b : Addr) (kb : ClassId) (x d0 d1 d2 d3 d4 d5 d6 d7 : Int32) (h0 : Heap) (n0 : Nat) (Z0 : n0 ≤ h0.size) (B : Arv Z h0 b kb .byte (8 : Int32) [(.int d0), (.int d1), (.int d2), (.int d3), (.int d4), (.int d5), (.int d6), (.int d7)] (.int (0 : Int32))) (gb : n0 ≤ b) (X0 : Old Z n0 h0) (AD : Sta Z Z.heap "java/lang/StringUTF16" "$assertionsDisabled" "Z" (.int (1 : Int32))) (HB : Sta Z Z.heap "java/lang/StringUTF16" "HI_BYTE_SHIFT" "I" (.int (0 : Int32))) (LB : Sta Z Z.heap "java/lang/StringUTF16" "LO_BYTE_SHIFT" "I" (.int (8 : Int32))) :
    Met l Z consts_1 [b] (⟨"java/lang/StringUTF16", "putChar", "([BII)V"⟩ : MethodName) jdk_52_method_4_code 3 (Option.none : Option FieldType) [] ({ frames := 0, cells := 0, slots := 0, locals := 0 } : Room) #[(.ref b), (.int (2 : Int32)), (.int x)] h0 n0 (fun v h => v = none ∧ Keep h0 h [b] ∧ Arv Z h b kb .byte (8 : Int32) [(.int d0), (.int d1), (.int d2), (.int d3), (.int (nar .byte (x >>> ((0 : Int32) &&& 31)).toInt8.toInt32)), (.int (nar .byte (x >>> ((8 : Int32) &&& 31)).toInt8.toInt32)), (.int d6), (.int d7)] (.int (0 : Int32))) := by
  refine Met.of (Ls0 := #[.val (.ref b), .val (.int (2 : Int32)), .val (.int x)]) pl_7 (by first | (simp [argsToLocals, Value.category]; done) | rfl) hel ?_
  have hSA : ∀ d ∈ Bundle.stringAtoms, d.before a0 Z = true := fun d hd => hw d ((by decide +kernel : ∀ d ∈ Bundle.stringAtoms, d ∈ tables_1) d hd)
  intro p e s m below meth c hx hby hml hret hlk hown hnm hZ
  refine Go.getS (q := 3) hx hZ hown (host := "") (Or.inl (tw hw 88 rfl)) Via.refl (Sta.ext X0.2 AD) (hb hby d18_0) rfl ?_
  refine Go.if_ne (q := 6) (t := 28) hx (hb hby d18_3) (by decide) rfl rfl (fun hc3 => ?_) (fun hc3 => absurd hc3 (by decide))
  refine Go.iloadN (q := 29) hx (hb hby d18_28) rfl rfl ?_
  refine Go.iconst (q := 30) (z := (1 : Int32)) hx (hb hby d18_29) rfl rfl ?_
  refine Go.ishl (q := 31) hx (hb hby d18_30) rfl ?_
  rw [show (2 : Int32) <<< ((1 : Int32) &&& 31) = (4 : Int32) from by decide]
  refine Go.istoreN (q := 32) (l' := #[.val (.ref b), .val (.int (4 : Int32)), .val (.int x)]) hx (hb hby d18_31) rfl rfl ?_
  refine Go.aloadN (q := 33) hx (hb hby d18_32) rfl (by rfl) rfl ?_
  refine Go.iloadN (q := 34) hx (hb hby d18_33) rfl rfl ?_
  refine Go.iinc (q := 37) (l' := #[.val (.ref b), .val (.int ((4 : Int32) + (1 : Int32))), .val (.int x)]) hx (hb hby d18_34) rfl rfl rfl ?_
  refine Go.iloadN (q := 38) hx (hb hby d18_37) rfl rfl ?_
  refine Go.getS (q := 41) hx hZ hown (host := "") (Or.inl (tw hw 89 rfl)) Via.refl (Sta.ext X0.2 HB) (hb hby d18_38) rfl ?_
  refine Go.ishr (q := 42) hx (hb hby d18_41) rfl ?_
  refine Go.i2b (q := 43) hx (hb hby d18_42) rfl ?_
  refine Go.bastore (q := 44) hx hZ B ⟨by decide, by decide⟩ 4 rfl (ble rfl) gb (by simp) (hb hby d18_43) rfl (fun h601 W602 V603 => ?_)
  refine Go.aloadN (q := 45) hx (hb hby d18_44) rfl (by rfl) rfl ?_
  refine Go.iloadN (q := 46) hx (hb hby d18_45) rfl rfl ?_
  refine Go.iloadN (q := 47) hx (hb hby d18_46) rfl rfl ?_
  refine Go.getS (q := 50) hx hZ hown (host := "") (Or.inl (tw hw 90 rfl)) Via.refl (Sta.ext (X0.wr W602 gb).2 LB) (hb hby d18_47) rfl ?_
  refine Go.ishr (q := 51) hx (hb hby d18_50) rfl ?_
  refine Go.i2b (q := 52) hx (hb hby d18_51) rfl ?_
  refine Go.bastore (q := 53) hx hZ V603 ⟨by decide, by decide⟩ 5 rfl (ble rfl) gb (by simp) (hb hby d18_52) rfl (fun h604 W605 V606 => ?_)
  refine Go.ret0 hx hret hlk (hb hby d18_53) (by decide) (by decide) ?_
  exact ⟨rfl, (((Keep.refl h0 [b]).wr W602 (Or.inl (by simp))).wr W605 (Or.inl (by simp))), V606⟩
theorem rmG4_2 (l : Launch) (Z : State) (a0 : Array Value) (hw : ∀ d ∈ tables_1, d.before a0 Z = true) (hel : EW Z a0 consts_1) (b : Addr) (kb : ClassId) (c0 c1 c2 c3 : Int32) (h0 : Heap) (n0 : Nat) (Z0 : n0 ≤ h0.size) (B : Arv Z h0 b kb .byte (8 : Int32) [(.int (nar .byte (c0 >>> ((0 : Int32) &&& 31)).toInt8.toInt32)), (.int (nar .byte (c0 >>> ((8 : Int32) &&& 31)).toInt8.toInt32)), (.int (nar .byte (c1 >>> ((0 : Int32) &&& 31)).toInt8.toInt32)), (.int (nar .byte (c1 >>> ((8 : Int32) &&& 31)).toInt8.toInt32)), (.int (nar .byte (c2 >>> ((0 : Int32) &&& 31)).toInt8.toInt32)), (.int (nar .byte (c2 >>> ((8 : Int32) &&& 31)).toInt8.toInt32)), (.int (nar .byte (c3 >>> ((0 : Int32) &&& 31)).toInt8.toInt32)), (.int (nar .byte (c3 >>> ((8 : Int32) &&& 31)).toInt8.toInt32))] (.int (0 : Int32))) (hq2 : Chr c2) (X0 : Old Z n0 h0) (AD : Sta Z Z.heap "java/lang/StringUTF16" "$assertionsDisabled" "Z" (.int (1 : Int32))) (HB : Sta Z Z.heap "java/lang/StringUTF16" "HI_BYTE_SHIFT" "I" (.int (0 : Int32))) (LB : Sta Z Z.heap "java/lang/StringUTF16" "LO_BYTE_SHIFT" "I" (.int (8 : Int32))) :
    Met l Z consts_1 [] (⟨"java/lang/StringUTF16", "getChar", "([BI)C"⟩ : MethodName) jdk_52_method_5_code 2 (Option.some FieldType.char) [] ({ frames := 0, cells := 0, slots := 0, locals := 0 } : Room) #[(.ref b), (.int (2 : Int32))] h0 n0 (fun v h => v = some (.int c2) ∧ h0 = h) := by
  refine Met.of (Ls0 := #[.val (.ref b), .val (.int (2 : Int32))]) pl_8 (by first | (simp [argsToLocals, Value.category]; done) | rfl) hel ?_
  have hSA : ∀ d ∈ Bundle.stringAtoms, d.before a0 Z = true := fun d hd => hw d ((by decide +kernel : ∀ d ∈ Bundle.stringAtoms, d ∈ tables_1) d hd)
  intro p e s m below meth c hx hby hml hret hlk hown hnm hZ
  refine Go.getS (q := 3) hx hZ hown (host := "") (Or.inl (tw hw 88 rfl)) Via.refl (Sta.ext X0.2 AD) (hb hby d19_0) rfl ?_
  refine Go.if_ne (q := 6) (t := 28) hx (hb hby d19_3) (by decide) rfl rfl (fun hc3 => ?_) (fun hc3 => absurd hc3 (by decide))
  refine Go.iloadN (q := 29) hx (hb hby d19_28) rfl rfl ?_
  refine Go.iconst (q := 30) (z := (1 : Int32)) hx (hb hby d19_29) rfl rfl ?_
  refine Go.ishl (q := 31) hx (hb hby d19_30) rfl ?_
  rw [show (2 : Int32) <<< ((1 : Int32) &&& 31) = (4 : Int32) from by decide]
  refine Go.istoreN (q := 32) (l' := #[.val (.ref b), .val (.int (4 : Int32))]) hx (hb hby d19_31) rfl rfl ?_
  refine Go.aloadN (q := 33) hx (hb hby d19_32) rfl (by rfl) rfl ?_
  refine Go.iloadN (q := 34) hx (hb hby d19_33) rfl rfl ?_
  refine Go.iinc (q := 37) (l' := #[.val (.ref b), .val (.int ((4 : Int32) + (1 : Int32)))]) hx (hb hby d19_34) rfl rfl rfl ?_
  refine Go.baload (q := 38) (v := (.int (nar .byte (c2 >>> ((0 : Int32) &&& 31)).toInt8.toInt32))) hx hZ B ⟨by decide, by decide⟩ rfl (hb hby d19_37) rfl ?_
  refine Go.sipush (q := 41) (z := (255 : Int32)) hx (hb hby d19_38) rfl rfl ?_
  refine Go.iand (q := 42) hx (hb hby d19_41) rfl ?_
  refine Go.getS (q := 45) hx hZ hown (host := "") (Or.inl (tw hw 89 rfl)) Via.refl (Sta.ext X0.2 HB) (hb hby d19_42) rfl ?_
  refine Go.ishl (q := 46) hx (hb hby d19_45) rfl ?_
  refine Go.aloadN (q := 47) hx (hb hby d19_46) rfl (by rfl) rfl ?_
  refine Go.iloadN (q := 48) hx (hb hby d19_47) rfl rfl ?_
  refine Go.baload (q := 49) (v := (.int (nar .byte (c2 >>> ((8 : Int32) &&& 31)).toInt8.toInt32))) hx hZ B ⟨by decide, by decide⟩ rfl (hb hby d19_48) rfl ?_
  refine Go.sipush (q := 52) (z := (255 : Int32)) hx (hb hby d19_49) rfl rfl ?_
  refine Go.iand (q := 53) hx (hb hby d19_52) rfl ?_
  refine Go.getS (q := 56) hx hZ hown (host := "") (Or.inl (tw hw 90 rfl)) Via.refl (Sta.ext X0.2 LB) (hb hby d19_53) rfl ?_
  refine Go.ishl (q := 57) hx (hb hby d19_56) rfl ?_
  refine Go.ior (q := 58) hx (hb hby d19_57) rfl ?_
  refine Go.i2c (q := 59) hx (hb hby d19_58) rfl ?_
  refine Go.retN hx (t := .char) hret (by simp) hlk (hb hby d19_59) (by decide) (by decide) ?_
  exact ⟨congrArg (fun z => some (Value.int z)) (utf_ok hq2), rfl⟩
theorem rmP4_3 (l : Launch) (Z : State) (a0 : Array Value) (hw : ∀ d ∈ tables_1, d.before a0 Z = true) (hel : EW Z a0 consts_1) (b : Addr) (kb : ClassId) (x d0 d1 d2 d3 d4 d5 d6 d7 : Int32) (h0 : Heap) (n0 : Nat) (Z0 : n0 ≤ h0.size) (B : Arv Z h0 b kb .byte (8 : Int32) [(.int d0), (.int d1), (.int d2), (.int d3), (.int d4), (.int d5), (.int d6), (.int d7)] (.int (0 : Int32))) (gb : n0 ≤ b) (X0 : Old Z n0 h0) (AD : Sta Z Z.heap "java/lang/StringUTF16" "$assertionsDisabled" "Z" (.int (1 : Int32))) (HB : Sta Z Z.heap "java/lang/StringUTF16" "HI_BYTE_SHIFT" "I" (.int (0 : Int32))) (LB : Sta Z Z.heap "java/lang/StringUTF16" "LO_BYTE_SHIFT" "I" (.int (8 : Int32))) :
    Met l Z consts_1 [b] (⟨"java/lang/StringUTF16", "putChar", "([BII)V"⟩ : MethodName) jdk_52_method_4_code 3 (Option.none : Option FieldType) [] ({ frames := 0, cells := 0, slots := 0, locals := 0 } : Room) #[(.ref b), (.int (3 : Int32)), (.int x)] h0 n0 (fun v h => v = none ∧ Keep h0 h [b] ∧ Arv Z h b kb .byte (8 : Int32) [(.int d0), (.int d1), (.int d2), (.int d3), (.int d4), (.int d5), (.int (nar .byte (x >>> ((0 : Int32) &&& 31)).toInt8.toInt32)), (.int (nar .byte (x >>> ((8 : Int32) &&& 31)).toInt8.toInt32))] (.int (0 : Int32))) := by
  refine Met.of (Ls0 := #[.val (.ref b), .val (.int (3 : Int32)), .val (.int x)]) pl_7 (by first | (simp [argsToLocals, Value.category]; done) | rfl) hel ?_
  have hSA : ∀ d ∈ Bundle.stringAtoms, d.before a0 Z = true := fun d hd => hw d ((by decide +kernel : ∀ d ∈ Bundle.stringAtoms, d ∈ tables_1) d hd)
  intro p e s m below meth c hx hby hml hret hlk hown hnm hZ
  refine Go.getS (q := 3) hx hZ hown (host := "") (Or.inl (tw hw 88 rfl)) Via.refl (Sta.ext X0.2 AD) (hb hby d18_0) rfl ?_
  refine Go.if_ne (q := 6) (t := 28) hx (hb hby d18_3) (by decide) rfl rfl (fun hc3 => ?_) (fun hc3 => absurd hc3 (by decide))
  refine Go.iloadN (q := 29) hx (hb hby d18_28) rfl rfl ?_
  refine Go.iconst (q := 30) (z := (1 : Int32)) hx (hb hby d18_29) rfl rfl ?_
  refine Go.ishl (q := 31) hx (hb hby d18_30) rfl ?_
  rw [show (3 : Int32) <<< ((1 : Int32) &&& 31) = (6 : Int32) from by decide]
  refine Go.istoreN (q := 32) (l' := #[.val (.ref b), .val (.int (6 : Int32)), .val (.int x)]) hx (hb hby d18_31) rfl rfl ?_
  refine Go.aloadN (q := 33) hx (hb hby d18_32) rfl (by rfl) rfl ?_
  refine Go.iloadN (q := 34) hx (hb hby d18_33) rfl rfl ?_
  refine Go.iinc (q := 37) (l' := #[.val (.ref b), .val (.int ((6 : Int32) + (1 : Int32))), .val (.int x)]) hx (hb hby d18_34) rfl rfl rfl ?_
  refine Go.iloadN (q := 38) hx (hb hby d18_37) rfl rfl ?_
  refine Go.getS (q := 41) hx hZ hown (host := "") (Or.inl (tw hw 89 rfl)) Via.refl (Sta.ext X0.2 HB) (hb hby d18_38) rfl ?_
  refine Go.ishr (q := 42) hx (hb hby d18_41) rfl ?_
  refine Go.i2b (q := 43) hx (hb hby d18_42) rfl ?_
  refine Go.bastore (q := 44) hx hZ B ⟨by decide, by decide⟩ 6 rfl (ble rfl) gb (by simp) (hb hby d18_43) rfl (fun h607 W608 V609 => ?_)
  refine Go.aloadN (q := 45) hx (hb hby d18_44) rfl (by rfl) rfl ?_
  refine Go.iloadN (q := 46) hx (hb hby d18_45) rfl rfl ?_
  refine Go.iloadN (q := 47) hx (hb hby d18_46) rfl rfl ?_
  refine Go.getS (q := 50) hx hZ hown (host := "") (Or.inl (tw hw 90 rfl)) Via.refl (Sta.ext (X0.wr W608 gb).2 LB) (hb hby d18_47) rfl ?_
  refine Go.ishr (q := 51) hx (hb hby d18_50) rfl ?_
  refine Go.i2b (q := 52) hx (hb hby d18_51) rfl ?_
  refine Go.bastore (q := 53) hx hZ V609 ⟨by decide, by decide⟩ 7 rfl (ble rfl) gb (by simp) (hb hby d18_52) rfl (fun h610 W611 V612 => ?_)
  refine Go.ret0 hx hret hlk (hb hby d18_53) (by decide) (by decide) ?_
  exact ⟨rfl, (((Keep.refl h0 [b]).wr W608 (Or.inl (by simp))).wr W611 (Or.inl (by simp))), V612⟩
theorem rmG4_3 (l : Launch) (Z : State) (a0 : Array Value) (hw : ∀ d ∈ tables_1, d.before a0 Z = true) (hel : EW Z a0 consts_1) (b : Addr) (kb : ClassId) (c0 c1 c2 c3 : Int32) (h0 : Heap) (n0 : Nat) (Z0 : n0 ≤ h0.size) (B : Arv Z h0 b kb .byte (8 : Int32) [(.int (nar .byte (c0 >>> ((0 : Int32) &&& 31)).toInt8.toInt32)), (.int (nar .byte (c0 >>> ((8 : Int32) &&& 31)).toInt8.toInt32)), (.int (nar .byte (c1 >>> ((0 : Int32) &&& 31)).toInt8.toInt32)), (.int (nar .byte (c1 >>> ((8 : Int32) &&& 31)).toInt8.toInt32)), (.int (nar .byte (c2 >>> ((0 : Int32) &&& 31)).toInt8.toInt32)), (.int (nar .byte (c2 >>> ((8 : Int32) &&& 31)).toInt8.toInt32)), (.int (nar .byte (c3 >>> ((0 : Int32) &&& 31)).toInt8.toInt32)), (.int (nar .byte (c3 >>> ((8 : Int32) &&& 31)).toInt8.toInt32))] (.int (0 : Int32))) (hq3 : Chr c3) (X0 : Old Z n0 h0) (AD : Sta Z Z.heap "java/lang/StringUTF16" "$assertionsDisabled" "Z" (.int (1 : Int32))) (HB : Sta Z Z.heap "java/lang/StringUTF16" "HI_BYTE_SHIFT" "I" (.int (0 : Int32))) (LB : Sta Z Z.heap "java/lang/StringUTF16" "LO_BYTE_SHIFT" "I" (.int (8 : Int32))) :
    Met l Z consts_1 [] (⟨"java/lang/StringUTF16", "getChar", "([BI)C"⟩ : MethodName) jdk_52_method_5_code 2 (Option.some FieldType.char) [] ({ frames := 0, cells := 0, slots := 0, locals := 0 } : Room) #[(.ref b), (.int (3 : Int32))] h0 n0 (fun v h => v = some (.int c3) ∧ h0 = h) := by
  refine Met.of (Ls0 := #[.val (.ref b), .val (.int (3 : Int32))]) pl_8 (by first | (simp [argsToLocals, Value.category]; done) | rfl) hel ?_
  have hSA : ∀ d ∈ Bundle.stringAtoms, d.before a0 Z = true := fun d hd => hw d ((by decide +kernel : ∀ d ∈ Bundle.stringAtoms, d ∈ tables_1) d hd)
  intro p e s m below meth c hx hby hml hret hlk hown hnm hZ
  refine Go.getS (q := 3) hx hZ hown (host := "") (Or.inl (tw hw 88 rfl)) Via.refl (Sta.ext X0.2 AD) (hb hby d19_0) rfl ?_
  refine Go.if_ne (q := 6) (t := 28) hx (hb hby d19_3) (by decide) rfl rfl (fun hc3 => ?_) (fun hc3 => absurd hc3 (by decide))
  refine Go.iloadN (q := 29) hx (hb hby d19_28) rfl rfl ?_
  refine Go.iconst (q := 30) (z := (1 : Int32)) hx (hb hby d19_29) rfl rfl ?_
  refine Go.ishl (q := 31) hx (hb hby d19_30) rfl ?_
  rw [show (3 : Int32) <<< ((1 : Int32) &&& 31) = (6 : Int32) from by decide]
  refine Go.istoreN (q := 32) (l' := #[.val (.ref b), .val (.int (6 : Int32))]) hx (hb hby d19_31) rfl rfl ?_
  refine Go.aloadN (q := 33) hx (hb hby d19_32) rfl (by rfl) rfl ?_
  refine Go.iloadN (q := 34) hx (hb hby d19_33) rfl rfl ?_
  refine Go.iinc (q := 37) (l' := #[.val (.ref b), .val (.int ((6 : Int32) + (1 : Int32)))]) hx (hb hby d19_34) rfl rfl rfl ?_
  refine Go.baload (q := 38) (v := (.int (nar .byte (c3 >>> ((0 : Int32) &&& 31)).toInt8.toInt32))) hx hZ B ⟨by decide, by decide⟩ rfl (hb hby d19_37) rfl ?_
  refine Go.sipush (q := 41) (z := (255 : Int32)) hx (hb hby d19_38) rfl rfl ?_
  refine Go.iand (q := 42) hx (hb hby d19_41) rfl ?_
  refine Go.getS (q := 45) hx hZ hown (host := "") (Or.inl (tw hw 89 rfl)) Via.refl (Sta.ext X0.2 HB) (hb hby d19_42) rfl ?_
  refine Go.ishl (q := 46) hx (hb hby d19_45) rfl ?_
  refine Go.aloadN (q := 47) hx (hb hby d19_46) rfl (by rfl) rfl ?_
  refine Go.iloadN (q := 48) hx (hb hby d19_47) rfl rfl ?_
  refine Go.baload (q := 49) (v := (.int (nar .byte (c3 >>> ((8 : Int32) &&& 31)).toInt8.toInt32))) hx hZ B ⟨by decide, by decide⟩ rfl (hb hby d19_48) rfl ?_
  refine Go.sipush (q := 52) (z := (255 : Int32)) hx (hb hby d19_49) rfl rfl ?_
  refine Go.iand (q := 53) hx (hb hby d19_52) rfl ?_
  refine Go.getS (q := 56) hx hZ hown (host := "") (Or.inl (tw hw 90 rfl)) Via.refl (Sta.ext X0.2 LB) (hb hby d19_53) rfl ?_
  refine Go.ishl (q := 57) hx (hb hby d19_56) rfl ?_
  refine Go.ior (q := 58) hx (hb hby d19_57) rfl ?_
  refine Go.i2c (q := 59) hx (hb hby d19_58) rfl ?_
  refine Go.retN hx (t := .char) hret (by simp) hlk (hb hby d19_59) (by decide) (by decide) ?_
  exact ⟨congrArg (fun z => some (Value.int z)) (utf_ok hq3), rfl⟩
theorem rmT4 (l : Launch) (Z : State) (a0 : Array Value) (hw : ∀ d ∈ tables_1, d.before a0 Z = true) (hel : EW Z a0 consts_1) (a : Addr) (ka : ClassId) (c0 c1 c2 c3 : Int32) (h0 : Heap) (n0 : Nat) (Z0 : n0 ≤ h0.size) (A : Arv Z h0 a ka .char (4 : Int32) [.int c0, .int c1, .int c2, .int c3] (.int (0 : Int32))) (X0 : Old Z n0 h0) (AD : Sta Z Z.heap "java/lang/StringUTF16" "$assertionsDisabled" "Z" (.int (1 : Int32))) (HB : Sta Z Z.heap "java/lang/StringUTF16" "HI_BYTE_SHIFT" "I" (.int (0 : Int32))) (LB : Sta Z Z.heap "java/lang/StringUTF16" "LO_BYTE_SHIFT" "I" (.int (8 : Int32))) :
    Met l Z consts_1 [] (⟨"java/lang/StringUTF16", "toBytes", "([CII)[B"⟩ : MethodName) jdk_52_method_14_code 5 (Option.some (FieldType.array FieldType.byte)) [] ({ frames := 2, cells := 1, slots := 8, locals := 36 } : Room) #[(.ref a), (.int (0 : Int32)), (.int (4 : Int32))] h0 n0 (fun v h => ∃ b kb, v = some (.ref b) ∧ h0.size ≤ b ∧ Keep h0 h [] ∧ Arv Z h b kb .byte (8 : Int32) [(.int (nar .byte (c0 >>> ((0 : Int32) &&& 31)).toInt8.toInt32)), (.int (nar .byte (c0 >>> ((8 : Int32) &&& 31)).toInt8.toInt32)), (.int (nar .byte (c1 >>> ((0 : Int32) &&& 31)).toInt8.toInt32)), (.int (nar .byte (c1 >>> ((8 : Int32) &&& 31)).toInt8.toInt32)), (.int (nar .byte (c2 >>> ((0 : Int32) &&& 31)).toInt8.toInt32)), (.int (nar .byte (c2 >>> ((8 : Int32) &&& 31)).toInt8.toInt32)), (.int (nar .byte (c3 >>> ((0 : Int32) &&& 31)).toInt8.toInt32)), (.int (nar .byte (c3 >>> ((8 : Int32) &&& 31)).toInt8.toInt32))] (.int (0 : Int32))) := by
  refine Met.of (Ls0 := #[.val (.ref a), .val (.int (0 : Int32)), .val (.int (4 : Int32)), .unset, .unset]) pl_9 (by first | (simp [argsToLocals, Value.category]; done) | rfl) hel ?_
  intro p e s m below meth c hx hby hml hret hlk hown hnm hZ
  refine Go.iloadN (q := 1) hx (hb hby d15_0) rfl rfl ?_
  refine Go.callS (q := 4) hx hZ (argsL := [(.int (4 : Int32))]) (rest := []) hown (tw hw 78 rfl) (tw hw 79 rfl) (tw hw 45 rfl) (tw hw 80 rfl) (by decide) (rmNB4 l Z a0 hw hel h0 n0 Z0) (fun _ hx => nomatch hx) (by rw [hml]; rfl) pd_8 rfl rfl (hb hby d15_1) rfl (by decide) (ble rfl) (ce' := 1) (sl' := 8) rfl rfl (by decide) (by decide) (fun v613 h614 hQ615 => ?_)
  have lt621 := (A).lt
  obtain ⟨b616, k617, rfl, g618, K619, V620⟩ := hQ615
  have ne622 : a ≠ b616 := Nat.ne_of_lt (Nat.lt_of_lt_of_le lt621 g618)
  have gz623 : n0 ≤ b616 := Nat.le_trans Z0 g618
  refine Go.safe (x := b616) V620.lt (fun vm hzv => safe_len hzv (tw hw 20 rfl) V620 (by decide)) ?_
  show Go _ _ _ _ _ _ _ _ _ _ _ _ _ _ _ _ _ _ _ _ 1 8 4 #[.val (.ref a), .val (.int (0 : Int32)), .val (.int (4 : Int32)), .unset, .unset] [(.ref b616)]
  refine Go.astoreN (q := 5) (l' := #[.val (.ref a), .val (.int (0 : Int32)), .val (.int (4 : Int32)), .val (.ref b616), .unset]) hx (hb hby d15_4) (by rfl) rfl rfl ?_
  refine Go.iconst (q := 6) (z := (0 : Int32)) hx (hb hby d15_5) rfl rfl ?_
  refine Go.istore (q := 8) (l' := #[.val (.ref a), .val (.int (0 : Int32)), .val (.int (4 : Int32)), .val (.ref b616), .val (.int (0 : Int32))]) hx (hb hby d15_6) rfl rfl ?_
  refine Go.iload (q := 10) hx (hb hby d15_8) rfl rfl ?_
  refine Go.iloadN (q := 11) hx (hb hby d15_10) rfl rfl ?_
  refine Go.icmp_ge (q := 14) (t := 32) hx (hb hby d15_11) (by decide) rfl rfl (fun hc11 => absurd hc11 (by decide)) (fun hc11 => ?_)
  refine Go.aloadN (q := 15) hx (hb hby d15_14) rfl (by rfl) rfl ?_
  refine Go.iload (q := 17) hx (hb hby d15_15) rfl rfl ?_
  refine Go.aloadN (q := 18) hx (hb hby d15_17) rfl (by rfl) rfl ?_
  refine Go.iloadN (q := 19) hx (hb hby d15_18) rfl rfl ?_
  refine Go.caload (q := 20) (v := (.int c0)) hx hZ (A.keep K619 nin0) ⟨by decide, by decide⟩ rfl (hb hby d15_19) rfl ?_
  refine Go.callS (q := 23) hx hZ (argsL := [(.ref b616), (.int (0 : Int32)), (.int c0)]) (rest := []) hown (tw hw 85 rfl) (tw hw 86 rfl) (tw hw 45 rfl) (tw hw 87 rfl) (by decide) (rmP4_0 l Z a0 hw hel b616 k617 c0 (0 : Int32) (0 : Int32) (0 : Int32) (0 : Int32) (0 : Int32) (0 : Int32) (0 : Int32) (0 : Int32) h614 n0 (Nat.le_trans Z0 K619.1) V620 gz623 (X0.keep K619 all0) AD HB LB) (by simp) (by rw [hml]; rfl) pd_9 rfl rfl (hb hby d15_20) rfl (by decide) (ble rfl) (ce' := 1) (sl' := 8) rfl rfl (by decide) (by decide) (fun v624 h625 hQ626 => ?_)
  obtain ⟨rfl, K627, V628⟩ := hQ626
  show Go _ _ _ _ _ _ _ _ _ _ _ _ _ _ _ _ _ _ _ _ 1 8 23 #[.val (.ref a), .val (.int (0 : Int32)), .val (.int (4 : Int32)), .val (.ref b616), .val (.int (0 : Int32))] []
  refine Go.iinc (q := 26) (l' := #[.val (.ref a), .val (.int ((0 : Int32) + (1 : Int32))), .val (.int (4 : Int32)), .val (.ref b616), .val (.int (0 : Int32))]) hx (hb hby d15_23) rfl rfl rfl ?_
  refine Go.iinc (q := 29) (l' := #[.val (.ref a), .val (.int ((0 : Int32) + (1 : Int32))), .val (.int (4 : Int32)), .val (.ref b616), .val (.int ((0 : Int32) + (1 : Int32)))]) hx (hb hby d15_26) rfl rfl rfl ?_
  refine Go.goto (q := 8) hx (hb hby d15_29) (by decide) rfl ?_
  rw [show (0 : Int32) + (1 : Int32) = (1 : Int32) from by decide]
  refine Go.iload (q := 10) hx (hb hby d15_8) rfl rfl ?_
  refine Go.iloadN (q := 11) hx (hb hby d15_10) rfl rfl ?_
  refine Go.icmp_ge (q := 14) (t := 32) hx (hb hby d15_11) (by decide) rfl rfl (fun hc11_1 => absurd hc11_1 (by decide)) (fun hc11_1 => ?_)
  refine Go.aloadN (q := 15) hx (hb hby d15_14) rfl (by rfl) rfl ?_
  refine Go.iload (q := 17) hx (hb hby d15_15) rfl rfl ?_
  refine Go.aloadN (q := 18) hx (hb hby d15_17) rfl (by rfl) rfl ?_
  refine Go.iloadN (q := 19) hx (hb hby d15_18) rfl rfl ?_
  refine Go.caload (q := 20) (v := (.int c1)) hx hZ ((A.keep K619 nin0).keep K627 (ninS ne622 nin0)) ⟨by decide, by decide⟩ rfl (hb hby d15_19) rfl ?_
  refine Go.callS (q := 23) hx hZ (argsL := [(.ref b616), (.int (1 : Int32)), (.int c1)]) (rest := []) hown (tw hw 85 rfl) (tw hw 86 rfl) (tw hw 45 rfl) (tw hw 87 rfl) (by decide) (rmP4_1 l Z a0 hw hel b616 k617 c1 (nar .byte (c0 >>> ((0 : Int32) &&& 31)).toInt8.toInt32) (nar .byte (c0 >>> ((8 : Int32) &&& 31)).toInt8.toInt32) (0 : Int32) (0 : Int32) (0 : Int32) (0 : Int32) (0 : Int32) (0 : Int32) h625 n0 (Nat.le_trans (Nat.le_trans Z0 K619.1) K627.1) V628 gz623 ((X0.keep K619 all0).keep K627 (allS gz623 all0)) AD HB LB) (by simp) (by rw [hml]; rfl) pd_9 rfl rfl (hb hby d15_20) rfl (by decide) (ble rfl) (ce' := 1) (sl' := 8) rfl rfl (by decide) (by decide) (fun v629 h630 hQ631 => ?_)
  obtain ⟨rfl, K632, V633⟩ := hQ631
  show Go _ _ _ _ _ _ _ _ _ _ _ _ _ _ _ _ _ _ _ _ 1 8 23 #[.val (.ref a), .val (.int (1 : Int32)), .val (.int (4 : Int32)), .val (.ref b616), .val (.int (1 : Int32))] []
  refine Go.iinc (q := 26) (l' := #[.val (.ref a), .val (.int ((1 : Int32) + (1 : Int32))), .val (.int (4 : Int32)), .val (.ref b616), .val (.int (1 : Int32))]) hx (hb hby d15_23) rfl rfl rfl ?_
  refine Go.iinc (q := 29) (l' := #[.val (.ref a), .val (.int ((1 : Int32) + (1 : Int32))), .val (.int (4 : Int32)), .val (.ref b616), .val (.int ((1 : Int32) + (1 : Int32)))]) hx (hb hby d15_26) rfl rfl rfl ?_
  refine Go.goto (q := 8) hx (hb hby d15_29) (by decide) rfl ?_
  rw [show (1 : Int32) + (1 : Int32) = (2 : Int32) from by decide]
  refine Go.iload (q := 10) hx (hb hby d15_8) rfl rfl ?_
  refine Go.iloadN (q := 11) hx (hb hby d15_10) rfl rfl ?_
  refine Go.icmp_ge (q := 14) (t := 32) hx (hb hby d15_11) (by decide) rfl rfl (fun hc11_2 => absurd hc11_2 (by decide)) (fun hc11_2 => ?_)
  refine Go.aloadN (q := 15) hx (hb hby d15_14) rfl (by rfl) rfl ?_
  refine Go.iload (q := 17) hx (hb hby d15_15) rfl rfl ?_
  refine Go.aloadN (q := 18) hx (hb hby d15_17) rfl (by rfl) rfl ?_
  refine Go.iloadN (q := 19) hx (hb hby d15_18) rfl rfl ?_
  refine Go.caload (q := 20) (v := (.int c2)) hx hZ (((A.keep K619 nin0).keep K627 (ninS ne622 nin0)).keep K632 (ninS ne622 nin0)) ⟨by decide, by decide⟩ rfl (hb hby d15_19) rfl ?_
  refine Go.callS (q := 23) hx hZ (argsL := [(.ref b616), (.int (2 : Int32)), (.int c2)]) (rest := []) hown (tw hw 85 rfl) (tw hw 86 rfl) (tw hw 45 rfl) (tw hw 87 rfl) (by decide) (rmP4_2 l Z a0 hw hel b616 k617 c2 (nar .byte (c0 >>> ((0 : Int32) &&& 31)).toInt8.toInt32) (nar .byte (c0 >>> ((8 : Int32) &&& 31)).toInt8.toInt32) (nar .byte (c1 >>> ((0 : Int32) &&& 31)).toInt8.toInt32) (nar .byte (c1 >>> ((8 : Int32) &&& 31)).toInt8.toInt32) (0 : Int32) (0 : Int32) (0 : Int32) (0 : Int32) h630 n0 (Nat.le_trans (Nat.le_trans (Nat.le_trans Z0 K619.1) K627.1) K632.1) V633 gz623 (((X0.keep K619 all0).keep K627 (allS gz623 all0)).keep K632 (allS gz623 all0)) AD HB LB) (by simp) (by rw [hml]; rfl) pd_9 rfl rfl (hb hby d15_20) rfl (by decide) (ble rfl) (ce' := 1) (sl' := 8) rfl rfl (by decide) (by decide) (fun v634 h635 hQ636 => ?_)
  obtain ⟨rfl, K637, V638⟩ := hQ636
  show Go _ _ _ _ _ _ _ _ _ _ _ _ _ _ _ _ _ _ _ _ 1 8 23 #[.val (.ref a), .val (.int (2 : Int32)), .val (.int (4 : Int32)), .val (.ref b616), .val (.int (2 : Int32))] []
  refine Go.iinc (q := 26) (l' := #[.val (.ref a), .val (.int ((2 : Int32) + (1 : Int32))), .val (.int (4 : Int32)), .val (.ref b616), .val (.int (2 : Int32))]) hx (hb hby d15_23) rfl rfl rfl ?_
  refine Go.iinc (q := 29) (l' := #[.val (.ref a), .val (.int ((2 : Int32) + (1 : Int32))), .val (.int (4 : Int32)), .val (.ref b616), .val (.int ((2 : Int32) + (1 : Int32)))]) hx (hb hby d15_26) rfl rfl rfl ?_
  refine Go.goto (q := 8) hx (hb hby d15_29) (by decide) rfl ?_
  rw [show (2 : Int32) + (1 : Int32) = (3 : Int32) from by decide]
  refine Go.iload (q := 10) hx (hb hby d15_8) rfl rfl ?_
  refine Go.iloadN (q := 11) hx (hb hby d15_10) rfl rfl ?_
  refine Go.icmp_ge (q := 14) (t := 32) hx (hb hby d15_11) (by decide) rfl rfl (fun hc11_3 => absurd hc11_3 (by decide)) (fun hc11_3 => ?_)
  refine Go.aloadN (q := 15) hx (hb hby d15_14) rfl (by rfl) rfl ?_
  refine Go.iload (q := 17) hx (hb hby d15_15) rfl rfl ?_
  refine Go.aloadN (q := 18) hx (hb hby d15_17) rfl (by rfl) rfl ?_
  refine Go.iloadN (q := 19) hx (hb hby d15_18) rfl rfl ?_
  refine Go.caload (q := 20) (v := (.int c3)) hx hZ ((((A.keep K619 nin0).keep K627 (ninS ne622 nin0)).keep K632 (ninS ne622 nin0)).keep K637 (ninS ne622 nin0)) ⟨by decide, by decide⟩ rfl (hb hby d15_19) rfl ?_
  refine Go.callS (q := 23) hx hZ (argsL := [(.ref b616), (.int (3 : Int32)), (.int c3)]) (rest := []) hown (tw hw 85 rfl) (tw hw 86 rfl) (tw hw 45 rfl) (tw hw 87 rfl) (by decide) (rmP4_3 l Z a0 hw hel b616 k617 c3 (nar .byte (c0 >>> ((0 : Int32) &&& 31)).toInt8.toInt32) (nar .byte (c0 >>> ((8 : Int32) &&& 31)).toInt8.toInt32) (nar .byte (c1 >>> ((0 : Int32) &&& 31)).toInt8.toInt32) (nar .byte (c1 >>> ((8 : Int32) &&& 31)).toInt8.toInt32) (nar .byte (c2 >>> ((0 : Int32) &&& 31)).toInt8.toInt32) (nar .byte (c2 >>> ((8 : Int32) &&& 31)).toInt8.toInt32) (0 : Int32) (0 : Int32) h635 n0 (Nat.le_trans (Nat.le_trans (Nat.le_trans (Nat.le_trans Z0 K619.1) K627.1) K632.1) K637.1) V638 gz623 ((((X0.keep K619 all0).keep K627 (allS gz623 all0)).keep K632 (allS gz623 all0)).keep K637 (allS gz623 all0)) AD HB LB) (by simp) (by rw [hml]; rfl) pd_9 rfl rfl (hb hby d15_20) rfl (by decide) (ble rfl) (ce' := 1) (sl' := 8) rfl rfl (by decide) (by decide) (fun v639 h640 hQ641 => ?_)
  obtain ⟨rfl, K642, V643⟩ := hQ641
  show Go _ _ _ _ _ _ _ _ _ _ _ _ _ _ _ _ _ _ _ _ 1 8 23 #[.val (.ref a), .val (.int (3 : Int32)), .val (.int (4 : Int32)), .val (.ref b616), .val (.int (3 : Int32))] []
  refine Go.iinc (q := 26) (l' := #[.val (.ref a), .val (.int ((3 : Int32) + (1 : Int32))), .val (.int (4 : Int32)), .val (.ref b616), .val (.int (3 : Int32))]) hx (hb hby d15_23) rfl rfl rfl ?_
  refine Go.iinc (q := 29) (l' := #[.val (.ref a), .val (.int ((3 : Int32) + (1 : Int32))), .val (.int (4 : Int32)), .val (.ref b616), .val (.int ((3 : Int32) + (1 : Int32)))]) hx (hb hby d15_26) rfl rfl rfl ?_
  refine Go.goto (q := 8) hx (hb hby d15_29) (by decide) rfl ?_
  rw [show (3 : Int32) + (1 : Int32) = (4 : Int32) from by decide]
  refine Go.iload (q := 10) hx (hb hby d15_8) rfl rfl ?_
  refine Go.iloadN (q := 11) hx (hb hby d15_10) rfl rfl ?_
  refine Go.icmp_ge (q := 14) (t := 32) hx (hb hby d15_11) (by decide) rfl rfl (fun hc11_4 => ?_) (fun hc11_4 => absurd hc11_4 (by decide))
  refine Go.aloadN (q := 33) hx (hb hby d15_32) rfl (by rfl) rfl ?_
  refine Go.retA hx hret rfl (by rfl) hlk (hb hby d15_33) (by decide) (by decide) ?_
  exact ⟨b616, _, rfl, g618, (Keep.trans (Keep.trans (Keep.trans (Keep.trans (Keep.trans (Keep.refl h0 []) K619 all0) K627 (allS (Or.inr g618) all0)) K632 (allS (Or.inr g618) all0)) K637 (allS (Or.inr g618) all0)) K642 (allS (Or.inr g618) all0)), V643⟩
theorem rmCU4_0 (l : Launch) (Z : State) (a0 : Array Value) (hw : ∀ d ∈ tables_1, d.before a0 Z = true) (hel : EW Z a0 consts_1) (a b : Addr) (ka kb : ClassId) (c0 c1 c2 c3 : Int32) (h0 : Heap) (n0 : Nat) (Z0 : n0 ≤ h0.size) (A : Arv Z h0 a ka .char (4 : Int32) [.int c0, .int c1, .int c2, .int c3] (.int (0 : Int32))) (B : Arv Z h0 b kb .byte (4 : Int32) [(.int (0 : Int32)), (.int (0 : Int32)), (.int (0 : Int32)), (.int (0 : Int32))] (.int (0 : Int32))) (gb : n0 ≤ b) (nab : a ≠ b)  (hk : (255 : Int32) < c0) :
    Met l Z consts_1 [b] (⟨"java/lang/StringUTF16", "compress", "([CI[BII)I"⟩ : MethodName) jdk_52_method_21_code 7 (Option.some FieldType.int) [] ({ frames := 0, cells := 0, slots := 0, locals := 0 } : Room) #[(.ref a), (.int (0 : Int32)), (.ref b), (.int (0 : Int32)), (.int (4 : Int32))] h0 n0 (fun v h => v = some (.int (0 : Int32)) ∧ Keep h0 h [b]) := by
  refine Met.of (Ls0 := #[.val (.ref a), .val (.int (0 : Int32)), .val (.ref b), .val (.int (0 : Int32)), .val (.int (4 : Int32)), .unset, .unset]) pl_3 (by first | (simp [argsToLocals, Value.category]; done) | rfl) hel ?_
  intro p e s m below meth c hx hby hml hret hlk hown hnm hZ
  refine Go.iconst (q := 1) (z := (0 : Int32)) hx (hb hby d8_0) rfl rfl ?_
  refine Go.istore (q := 3) (l' := #[.val (.ref a), .val (.int (0 : Int32)), .val (.ref b), .val (.int (0 : Int32)), .val (.int (4 : Int32)), .val (.int (0 : Int32)), .unset]) hx (hb hby d8_1) rfl rfl ?_
  refine Go.iload (q := 5) hx (hb hby d8_3) rfl rfl ?_
  refine Go.iload (q := 7) hx (hb hby d8_5) rfl rfl ?_
  refine Go.icmp_ge (q := 10) (t := 44) hx (hb hby d8_7) (by decide) rfl rfl (fun hc7 => absurd hc7 (by decide)) (fun hc7 => ?_)
  refine Go.aloadN (q := 11) hx (hb hby d8_10) rfl (by rfl) rfl ?_
  refine Go.iloadN (q := 12) hx (hb hby d8_11) rfl rfl ?_
  refine Go.caload (q := 13) (v := (.int c0)) hx hZ A ⟨by decide, by decide⟩ rfl (hb hby d8_12) rfl ?_
  refine Go.istore (q := 15) (l' := #[.val (.ref a), .val (.int (0 : Int32)), .val (.ref b), .val (.int (0 : Int32)), .val (.int (4 : Int32)), .val (.int (0 : Int32)), .val (.int c0)]) hx (hb hby d8_13) rfl rfl ?_
  refine Go.iload (q := 17) hx (hb hby d8_15) rfl rfl ?_
  refine Go.sipush (q := 20) (z := (255 : Int32)) hx (hb hby d8_17) rfl rfl ?_
  refine Go.icmp_le (q := 23) (t := 26) hx (hb hby d8_20) (by decide) rfl rfl (fun hc20 => absurd hk hc20) (fun hc20 => ?_)
  refine Go.iload (q := 25) hx (hb hby d8_23) rfl rfl ?_
  refine Go.retI hx hret hlk (hb hby d8_25) (by decide) (by decide) ?_
  exact ⟨rfl, (Keep.refl h0 [b])⟩
theorem rmDU4_0 (l : Launch) (Z : State) (a0 : Array Value) (hw : ∀ d ∈ tables_1, d.before a0 Z = true) (hel : EW Z a0 consts_1) (a : Addr) (ka : ClassId) (c0 c1 c2 c3 : Int32) (h0 : Heap) (n0 : Nat) (Z0 : n0 ≤ h0.size) (A : Arv Z h0 a ka .char (4 : Int32) [.int c0, .int c1, .int c2, .int c3] (.int (0 : Int32))) (hq0 : Chr c0) (hq1 : Chr c1) (hq2 : Chr c2) (hq3 : Chr c3)  (hk : (255 : Int32) < c0) (X0 : Old Z n0 h0) (AD : Sta Z Z.heap "java/lang/StringUTF16" "$assertionsDisabled" "Z" (.int (1 : Int32))) (HB : Sta Z Z.heap "java/lang/StringUTF16" "HI_BYTE_SHIFT" "I" (.int (0 : Int32))) (LB : Sta Z Z.heap "java/lang/StringUTF16" "LO_BYTE_SHIFT" "I" (.int (8 : Int32))) :
    Met l Z consts_1 [] (⟨"java/lang/StringUTF16", "compress", "([CII)[B"⟩ : MethodName) jdk_52_method_16_code 6 (Option.some (FieldType.array FieldType.byte)) [] ({ frames := 3, cells := 2, slots := 12, locals := 58 } : Room) #[(.ref a), (.int (0 : Int32)), (.int (4 : Int32))] h0 n0 (fun v h => ∃ b kb, v = some (.ref b) ∧ h0.size ≤ b ∧ Keep h0 h [] ∧ Arv Z h b kb .byte (8 : Int32) [(.int (nar .byte (c0 >>> ((0 : Int32) &&& 31)).toInt8.toInt32)), (.int (nar .byte (c0 >>> ((8 : Int32) &&& 31)).toInt8.toInt32)), (.int (nar .byte (c1 >>> ((0 : Int32) &&& 31)).toInt8.toInt32)), (.int (nar .byte (c1 >>> ((8 : Int32) &&& 31)).toInt8.toInt32)), (.int (nar .byte (c2 >>> ((0 : Int32) &&& 31)).toInt8.toInt32)), (.int (nar .byte (c2 >>> ((8 : Int32) &&& 31)).toInt8.toInt32)), (.int (nar .byte (c3 >>> ((0 : Int32) &&& 31)).toInt8.toInt32)), (.int (nar .byte (c3 >>> ((8 : Int32) &&& 31)).toInt8.toInt32))] (.int (0 : Int32))) := by
  refine Met.of (Ls0 := #[.val (.ref a), .val (.int (0 : Int32)), .val (.int (4 : Int32)), .unset, .unset, .unset]) pl_4 (by first | (simp [argsToLocals, Value.category]; done) | rfl) hel ?_
  intro p e s m below meth c hx hby hml hret hlk hown hnm hZ
  refine Go.iloadN (q := 1) hx (hb hby d7_0) rfl rfl ?_
  refine Go.newP (q := 3) (cap := 4) hx hZ (tw hw 21 rfl) (by decide) (by decide) (hb hby d7_1) rfl (by decide) (ce' := 1) (sl' := 4) rfl rfl (by decide) (by decide) (fun h644 a645 k646 g647 E648 A649 => ?_)
  have ne650 : a ≠ a645 := by rw [g647]; exact Nat.ne_of_lt (A).lt
  have gz651 : n0 ≤ a645 := by rw [g647]; exact Z0
  have gk652 : h0.size ≤ a645 := by rw [g647]; exact (Keep.refl h0 []).1
  have V653 : Arv Z h644 a645 k646 .byte (4 : Int32) [(.int (0 : Int32)), (.int (0 : Int32)), (.int (0 : Int32)), (.int (0 : Int32))] (.int (0 : Int32)) := A649.pad (pad_rep [] (.int (0 : Int32)) 4)
  refine Go.astoreN (q := 4) (l' := #[.val (.ref a), .val (.int (0 : Int32)), .val (.int (4 : Int32)), .val (.ref a645), .unset, .unset]) hx (hb hby d7_3) (by rfl) rfl rfl ?_
  refine Go.aloadN (q := 5) hx (hb hby d7_4) rfl (by rfl) rfl ?_
  refine Go.iloadN (q := 6) hx (hb hby d7_5) rfl rfl ?_
  refine Go.aloadN (q := 7) hx (hb hby d7_6) rfl (by rfl) rfl ?_
  refine Go.iconst (q := 8) (z := (0 : Int32)) hx (hb hby d7_7) rfl rfl ?_
  refine Go.iloadN (q := 9) hx (hb hby d7_8) rfl rfl ?_
  refine Go.callS (q := 12) hx hZ (argsL := [(.ref a), (.int (0 : Int32)), (.ref a645), (.int (0 : Int32)), (.int (4 : Int32))]) (rest := []) hown (tw hw 47 rfl) (tw hw 48 rfl) (tw hw 45 rfl) (tw hw 49 rfl) (by decide) (rmCU4_0 l Z a0 hw hel a a645 ka k646 c0 c1 c2 c3 h644 n0 (Nat.le_trans Z0 E648.1) (A.ext E648) V653 gz651 ne650  hk) (by simp) (by rw [hml]; rfl) pd_4 rfl rfl (hb hby d7_9) rfl (by decide) (ble rfl) (ce' := 1) (sl' := 4) rfl rfl (by decide) (by decide) (fun v654 h655 hQ656 => ?_)
  obtain ⟨rfl, K657⟩ := hQ656
  show Go _ _ _ _ _ _ _ _ _ _ _ _ _ _ _ _ _ _ _ _ 1 4 12 #[.val (.ref a), .val (.int (0 : Int32)), .val (.int (4 : Int32)), .val (.ref a645), .unset, .unset] [(.int (0 : Int32))]
  refine Go.istore (q := 14) (l' := #[.val (.ref a), .val (.int (0 : Int32)), .val (.int (4 : Int32)), .val (.ref a645), .val (.int (0 : Int32)), .unset]) hx (hb hby d7_12) rfl rfl ?_
  refine Go.iload (q := 16) hx (hb hby d7_14) rfl rfl ?_
  refine Go.iloadN (q := 17) hx (hb hby d7_16) rfl rfl ?_
  refine Go.icmp_eq (q := 20) (t := 57) hx (hb hby d7_17) (by decide) rfl rfl (fun hc17 => absurd hc17 (by decide)) (fun hc17 => ?_)
  refine Go.aloadN (q := 21) hx (hb hby d7_20) rfl (by rfl) rfl ?_
  refine Go.iloadN (q := 22) hx (hb hby d7_21) rfl rfl ?_
  refine Go.iloadN (q := 23) hx (hb hby d7_22) rfl rfl ?_
  have gk658 := (Keep.trans ((Keep.refl h0 []).ext E648) K657 (allS (Or.inr gk652) all0)).1
  refine Go.callS (q := 26) hx hZ (argsL := [(.ref a), (.int (0 : Int32)), (.int (4 : Int32))]) (rest := []) hown (tw hw 75 rfl) (tw hw 76 rfl) (tw hw 45 rfl) (tw hw 77 rfl) (by decide) (rmT4 l Z a0 hw hel a ka c0 c1 c2 c3 h655 n0 (Nat.le_trans (Nat.le_trans Z0 E648.1) K657.1) ((A.ext E648).keep K657 (ninS ne650 nin0)) ((X0.ext E648).keep K657 (allS gz651 all0)) AD HB LB) (fun _ hx => nomatch hx) (by rw [hml]; rfl) pd_1 rfl rfl (hb hby d7_23) rfl (by decide) (ble rfl) (ce' := 2) (sl' := 12) rfl rfl (by decide) (by decide) (fun v659 h660 hQ661 => ?_)
  obtain ⟨b662, k663, rfl, g664, K665, V666⟩ := hQ661
  show Go _ _ _ _ _ _ _ _ _ _ _ _ _ _ _ _ _ _ _ _ 2 12 26 #[.val (.ref a), .val (.int (0 : Int32)), .val (.int (4 : Int32)), .val (.ref a645), .val (.int (0 : Int32)), .unset] [(.ref b662)]
  refine Go.astore (q := 28) (l' := #[.val (.ref a), .val (.int (0 : Int32)), .val (.int (4 : Int32)), .val (.ref a645), .val (.int (0 : Int32)), .val (.ref b662)]) hx (hb hby d7_26) (by rfl) rfl rfl ?_
  refine Go.aload (q := 30) hx (hb hby d7_28) rfl (by rfl) rfl ?_
  refine Go.iload (q := 32) hx (hb hby d7_30) rfl rfl ?_
  refine Go.callS (q := 35) hx hZ (argsL := [(.ref b662), (.int (0 : Int32))]) (rest := []) hown (tw hw 91 rfl) (tw hw 92 rfl) (tw hw 45 rfl) (tw hw 93 rfl) (by decide) (rmG4_0 l Z a0 hw hel b662 k663 c0 c1 c2 c3 h660 n0 (Nat.le_trans (Nat.le_trans (Nat.le_trans Z0 E648.1) K657.1) K665.1) V666 hq0 (((X0.ext E648).keep K657 (allS gz651 all0)).keep K665 all0) AD HB LB) (fun _ hx => nomatch hx) (by rw [hml]; rfl) pd_5 rfl rfl (hb hby d7_32) rfl (by decide) (ble rfl) (ce' := 2) (sl' := 12) rfl rfl (by decide) (by decide) (fun v667 h668 hQ669 => ?_)
  obtain ⟨rfl, rfl⟩ := hQ669
  show Go _ _ _ _ _ _ _ _ _ _ _ _ _ _ _ _ _ _ _ _ 2 12 35 #[.val (.ref a), .val (.int (0 : Int32)), .val (.int (4 : Int32)), .val (.ref a645), .val (.int (0 : Int32)), .val (.ref b662)] [(.int c0)]
  refine Go.sipush (q := 38) (z := (255 : Int32)) hx (hb hby d7_35) rfl rfl ?_
  refine Go.icmp_gt (q := 41) (t := 54) hx (hb hby d7_38) (by decide) rfl rfl (fun hc38 => ?_) (fun hc38 => absurd hk hc38)
  refine Go.aload (q := 56) hx (hb hby d7_54) rfl (by rfl) rfl ?_
  refine Go.retA hx hret rfl (by rfl) hlk (hb hby d7_56) (by decide) (by decide) ?_
  exact ⟨b662, _, rfl, (Nat.le_trans gk658 g664), (Keep.trans (Keep.trans ((Keep.refl h0 []).ext E648) K657 (allS (Or.inr gk652) all0)) K665 all0), V666⟩
theorem rmCU4_1 (l : Launch) (Z : State) (a0 : Array Value) (hw : ∀ d ∈ tables_1, d.before a0 Z = true) (hel : EW Z a0 consts_1) (a b : Addr) (ka kb : ClassId) (c0 c1 c2 c3 : Int32) (h0 : Heap) (n0 : Nat) (Z0 : n0 ≤ h0.size) (A : Arv Z h0 a ka .char (4 : Int32) [.int c0, .int c1, .int c2, .int c3] (.int (0 : Int32))) (B : Arv Z h0 b kb .byte (4 : Int32) [(.int (0 : Int32)), (.int (0 : Int32)), (.int (0 : Int32)), (.int (0 : Int32))] (.int (0 : Int32))) (gb : n0 ≤ b) (nab : a ≠ b) (hp0 : ¬ (255 : Int32) < c0) (hk : (255 : Int32) < c1) :
    Met l Z consts_1 [b] (⟨"java/lang/StringUTF16", "compress", "([CI[BII)I"⟩ : MethodName) jdk_52_method_21_code 7 (Option.some FieldType.int) [] ({ frames := 0, cells := 0, slots := 0, locals := 0 } : Room) #[(.ref a), (.int (0 : Int32)), (.ref b), (.int (0 : Int32)), (.int (4 : Int32))] h0 n0 (fun v h => v = some (.int (1 : Int32)) ∧ Keep h0 h [b]) := by
  refine Met.of (Ls0 := #[.val (.ref a), .val (.int (0 : Int32)), .val (.ref b), .val (.int (0 : Int32)), .val (.int (4 : Int32)), .unset, .unset]) pl_3 (by first | (simp [argsToLocals, Value.category]; done) | rfl) hel ?_
  intro p e s m below meth c hx hby hml hret hlk hown hnm hZ
  refine Go.iconst (q := 1) (z := (0 : Int32)) hx (hb hby d8_0) rfl rfl ?_
  refine Go.istore (q := 3) (l' := #[.val (.ref a), .val (.int (0 : Int32)), .val (.ref b), .val (.int (0 : Int32)), .val (.int (4 : Int32)), .val (.int (0 : Int32)), .unset]) hx (hb hby d8_1) rfl rfl ?_
  refine Go.iload (q := 5) hx (hb hby d8_3) rfl rfl ?_
  refine Go.iload (q := 7) hx (hb hby d8_5) rfl rfl ?_
  refine Go.icmp_ge (q := 10) (t := 44) hx (hb hby d8_7) (by decide) rfl rfl (fun hc7 => absurd hc7 (by decide)) (fun hc7 => ?_)
  refine Go.aloadN (q := 11) hx (hb hby d8_10) rfl (by rfl) rfl ?_
  refine Go.iloadN (q := 12) hx (hb hby d8_11) rfl rfl ?_
  refine Go.caload (q := 13) (v := (.int c0)) hx hZ A ⟨by decide, by decide⟩ rfl (hb hby d8_12) rfl ?_
  refine Go.istore (q := 15) (l' := #[.val (.ref a), .val (.int (0 : Int32)), .val (.ref b), .val (.int (0 : Int32)), .val (.int (4 : Int32)), .val (.int (0 : Int32)), .val (.int c0)]) hx (hb hby d8_13) rfl rfl ?_
  refine Go.iload (q := 17) hx (hb hby d8_15) rfl rfl ?_
  refine Go.sipush (q := 20) (z := (255 : Int32)) hx (hb hby d8_17) rfl rfl ?_
  refine Go.icmp_le (q := 23) (t := 26) hx (hb hby d8_20) (by decide) rfl rfl (fun hc20 => ?_) (fun hc20 => absurd hc20 hp0)
  refine Go.aloadN (q := 27) hx (hb hby d8_26) rfl (by rfl) rfl ?_
  refine Go.iloadN (q := 28) hx (hb hby d8_27) rfl rfl ?_
  refine Go.iload (q := 30) hx (hb hby d8_28) rfl rfl ?_
  refine Go.i2b (q := 31) hx (hb hby d8_30) rfl ?_
  refine Go.bastore (q := 32) hx hZ B ⟨by decide, by decide⟩ 0 rfl (ble rfl) gb (by simp) (hb hby d8_31) rfl (fun h670 W671 V672 => ?_)
  refine Go.iinc (q := 35) (l' := #[.val (.ref a), .val (.int ((0 : Int32) + (1 : Int32))), .val (.ref b), .val (.int (0 : Int32)), .val (.int (4 : Int32)), .val (.int (0 : Int32)), .val (.int c0)]) hx (hb hby d8_32) rfl rfl rfl ?_
  refine Go.iinc (q := 38) (l' := #[.val (.ref a), .val (.int ((0 : Int32) + (1 : Int32))), .val (.ref b), .val (.int ((0 : Int32) + (1 : Int32))), .val (.int (4 : Int32)), .val (.int (0 : Int32)), .val (.int c0)]) hx (hb hby d8_35) rfl rfl rfl ?_
  refine Go.iinc (q := 41) (l' := #[.val (.ref a), .val (.int ((0 : Int32) + (1 : Int32))), .val (.ref b), .val (.int ((0 : Int32) + (1 : Int32))), .val (.int (4 : Int32)), .val (.int ((0 : Int32) + (1 : Int32))), .val (.int c0)]) hx (hb hby d8_38) rfl rfl rfl ?_
  refine Go.goto (q := 3) hx (hb hby d8_41) (by decide) rfl ?_
  refine Go.iload (q := 5) hx (hb hby d8_3) rfl rfl ?_
  refine Go.iload (q := 7) hx (hb hby d8_5) rfl rfl ?_
  refine Go.icmp_ge (q := 10) (t := 44) hx (hb hby d8_7) (by decide) rfl rfl (fun hc7_1 => absurd hc7_1 (by decide)) (fun hc7_1 => ?_)
  refine Go.aloadN (q := 11) hx (hb hby d8_10) rfl (by rfl) rfl ?_
  refine Go.iloadN (q := 12) hx (hb hby d8_11) rfl rfl ?_
  refine Go.caload (q := 13) (v := (.int c1)) hx hZ (A.other W671 nab) ⟨by decide, by decide⟩ rfl (hb hby d8_12) rfl ?_
  refine Go.istore (q := 15) (l' := #[.val (.ref a), .val (.int ((0 : Int32) + (1 : Int32))), .val (.ref b), .val (.int ((0 : Int32) + (1 : Int32))), .val (.int (4 : Int32)), .val (.int ((0 : Int32) + (1 : Int32))), .val (.int c1)]) hx (hb hby d8_13) rfl rfl ?_
  refine Go.iload (q := 17) hx (hb hby d8_15) rfl rfl ?_
  refine Go.sipush (q := 20) (z := (255 : Int32)) hx (hb hby d8_17) rfl rfl ?_
  refine Go.icmp_le (q := 23) (t := 26) hx (hb hby d8_20) (by decide) rfl rfl (fun hc20_1 => absurd hk hc20_1) (fun hc20_1 => ?_)
  refine Go.iload (q := 25) hx (hb hby d8_23) rfl rfl ?_
  refine Go.retI hx hret hlk (hb hby d8_25) (by decide) (by decide) ?_
  exact ⟨rfl, ((Keep.refl h0 [b]).wr W671 (Or.inl (by simp)))⟩
theorem rmDU4_1 (l : Launch) (Z : State) (a0 : Array Value) (hw : ∀ d ∈ tables_1, d.before a0 Z = true) (hel : EW Z a0 consts_1) (a : Addr) (ka : ClassId) (c0 c1 c2 c3 : Int32) (h0 : Heap) (n0 : Nat) (Z0 : n0 ≤ h0.size) (A : Arv Z h0 a ka .char (4 : Int32) [.int c0, .int c1, .int c2, .int c3] (.int (0 : Int32))) (hq0 : Chr c0) (hq1 : Chr c1) (hq2 : Chr c2) (hq3 : Chr c3) (hp0 : ¬ (255 : Int32) < c0) (hk : (255 : Int32) < c1) (X0 : Old Z n0 h0) (AD : Sta Z Z.heap "java/lang/StringUTF16" "$assertionsDisabled" "Z" (.int (1 : Int32))) (HB : Sta Z Z.heap "java/lang/StringUTF16" "HI_BYTE_SHIFT" "I" (.int (0 : Int32))) (LB : Sta Z Z.heap "java/lang/StringUTF16" "LO_BYTE_SHIFT" "I" (.int (8 : Int32))) :
    Met l Z consts_1 [] (⟨"java/lang/StringUTF16", "compress", "([CII)[B"⟩ : MethodName) jdk_52_method_16_code 6 (Option.some (FieldType.array FieldType.byte)) [] ({ frames := 3, cells := 2, slots := 12, locals := 58 } : Room) #[(.ref a), (.int (0 : Int32)), (.int (4 : Int32))] h0 n0 (fun v h => ∃ b kb, v = some (.ref b) ∧ h0.size ≤ b ∧ Keep h0 h [] ∧ Arv Z h b kb .byte (8 : Int32) [(.int (nar .byte (c0 >>> ((0 : Int32) &&& 31)).toInt8.toInt32)), (.int (nar .byte (c0 >>> ((8 : Int32) &&& 31)).toInt8.toInt32)), (.int (nar .byte (c1 >>> ((0 : Int32) &&& 31)).toInt8.toInt32)), (.int (nar .byte (c1 >>> ((8 : Int32) &&& 31)).toInt8.toInt32)), (.int (nar .byte (c2 >>> ((0 : Int32) &&& 31)).toInt8.toInt32)), (.int (nar .byte (c2 >>> ((8 : Int32) &&& 31)).toInt8.toInt32)), (.int (nar .byte (c3 >>> ((0 : Int32) &&& 31)).toInt8.toInt32)), (.int (nar .byte (c3 >>> ((8 : Int32) &&& 31)).toInt8.toInt32))] (.int (0 : Int32))) := by
  refine Met.of (Ls0 := #[.val (.ref a), .val (.int (0 : Int32)), .val (.int (4 : Int32)), .unset, .unset, .unset]) pl_4 (by first | (simp [argsToLocals, Value.category]; done) | rfl) hel ?_
  intro p e s m below meth c hx hby hml hret hlk hown hnm hZ
  refine Go.iloadN (q := 1) hx (hb hby d7_0) rfl rfl ?_
  refine Go.newP (q := 3) (cap := 4) hx hZ (tw hw 21 rfl) (by decide) (by decide) (hb hby d7_1) rfl (by decide) (ce' := 1) (sl' := 4) rfl rfl (by decide) (by decide) (fun h673 a674 k675 g676 E677 A678 => ?_)
  have ne679 : a ≠ a674 := by rw [g676]; exact Nat.ne_of_lt (A).lt
  have gz680 : n0 ≤ a674 := by rw [g676]; exact Z0
  have gk681 : h0.size ≤ a674 := by rw [g676]; exact (Keep.refl h0 []).1
  have V682 : Arv Z h673 a674 k675 .byte (4 : Int32) [(.int (0 : Int32)), (.int (0 : Int32)), (.int (0 : Int32)), (.int (0 : Int32))] (.int (0 : Int32)) := A678.pad (pad_rep [] (.int (0 : Int32)) 4)
  refine Go.astoreN (q := 4) (l' := #[.val (.ref a), .val (.int (0 : Int32)), .val (.int (4 : Int32)), .val (.ref a674), .unset, .unset]) hx (hb hby d7_3) (by rfl) rfl rfl ?_
  refine Go.aloadN (q := 5) hx (hb hby d7_4) rfl (by rfl) rfl ?_
  refine Go.iloadN (q := 6) hx (hb hby d7_5) rfl rfl ?_
  refine Go.aloadN (q := 7) hx (hb hby d7_6) rfl (by rfl) rfl ?_
  refine Go.iconst (q := 8) (z := (0 : Int32)) hx (hb hby d7_7) rfl rfl ?_
  refine Go.iloadN (q := 9) hx (hb hby d7_8) rfl rfl ?_
  refine Go.callS (q := 12) hx hZ (argsL := [(.ref a), (.int (0 : Int32)), (.ref a674), (.int (0 : Int32)), (.int (4 : Int32))]) (rest := []) hown (tw hw 47 rfl) (tw hw 48 rfl) (tw hw 45 rfl) (tw hw 49 rfl) (by decide) (rmCU4_1 l Z a0 hw hel a a674 ka k675 c0 c1 c2 c3 h673 n0 (Nat.le_trans Z0 E677.1) (A.ext E677) V682 gz680 ne679 hp0 hk) (by simp) (by rw [hml]; rfl) pd_4 rfl rfl (hb hby d7_9) rfl (by decide) (ble rfl) (ce' := 1) (sl' := 4) rfl rfl (by decide) (by decide) (fun v683 h684 hQ685 => ?_)
  obtain ⟨rfl, K686⟩ := hQ685
  show Go _ _ _ _ _ _ _ _ _ _ _ _ _ _ _ _ _ _ _ _ 1 4 12 #[.val (.ref a), .val (.int (0 : Int32)), .val (.int (4 : Int32)), .val (.ref a674), .unset, .unset] [(.int (1 : Int32))]
  refine Go.istore (q := 14) (l' := #[.val (.ref a), .val (.int (0 : Int32)), .val (.int (4 : Int32)), .val (.ref a674), .val (.int (1 : Int32)), .unset]) hx (hb hby d7_12) rfl rfl ?_
  refine Go.iload (q := 16) hx (hb hby d7_14) rfl rfl ?_
  refine Go.iloadN (q := 17) hx (hb hby d7_16) rfl rfl ?_
  refine Go.icmp_eq (q := 20) (t := 57) hx (hb hby d7_17) (by decide) rfl rfl (fun hc17 => absurd hc17 (by decide)) (fun hc17 => ?_)
  refine Go.aloadN (q := 21) hx (hb hby d7_20) rfl (by rfl) rfl ?_
  refine Go.iloadN (q := 22) hx (hb hby d7_21) rfl rfl ?_
  refine Go.iloadN (q := 23) hx (hb hby d7_22) rfl rfl ?_
  have gk687 := (Keep.trans ((Keep.refl h0 []).ext E677) K686 (allS (Or.inr gk681) all0)).1
  refine Go.callS (q := 26) hx hZ (argsL := [(.ref a), (.int (0 : Int32)), (.int (4 : Int32))]) (rest := []) hown (tw hw 75 rfl) (tw hw 76 rfl) (tw hw 45 rfl) (tw hw 77 rfl) (by decide) (rmT4 l Z a0 hw hel a ka c0 c1 c2 c3 h684 n0 (Nat.le_trans (Nat.le_trans Z0 E677.1) K686.1) ((A.ext E677).keep K686 (ninS ne679 nin0)) ((X0.ext E677).keep K686 (allS gz680 all0)) AD HB LB) (fun _ hx => nomatch hx) (by rw [hml]; rfl) pd_1 rfl rfl (hb hby d7_23) rfl (by decide) (ble rfl) (ce' := 2) (sl' := 12) rfl rfl (by decide) (by decide) (fun v688 h689 hQ690 => ?_)
  obtain ⟨b691, k692, rfl, g693, K694, V695⟩ := hQ690
  show Go _ _ _ _ _ _ _ _ _ _ _ _ _ _ _ _ _ _ _ _ 2 12 26 #[.val (.ref a), .val (.int (0 : Int32)), .val (.int (4 : Int32)), .val (.ref a674), .val (.int (1 : Int32)), .unset] [(.ref b691)]
  refine Go.astore (q := 28) (l' := #[.val (.ref a), .val (.int (0 : Int32)), .val (.int (4 : Int32)), .val (.ref a674), .val (.int (1 : Int32)), .val (.ref b691)]) hx (hb hby d7_26) (by rfl) rfl rfl ?_
  refine Go.aload (q := 30) hx (hb hby d7_28) rfl (by rfl) rfl ?_
  refine Go.iload (q := 32) hx (hb hby d7_30) rfl rfl ?_
  refine Go.callS (q := 35) hx hZ (argsL := [(.ref b691), (.int (1 : Int32))]) (rest := []) hown (tw hw 91 rfl) (tw hw 92 rfl) (tw hw 45 rfl) (tw hw 93 rfl) (by decide) (rmG4_1 l Z a0 hw hel b691 k692 c0 c1 c2 c3 h689 n0 (Nat.le_trans (Nat.le_trans (Nat.le_trans Z0 E677.1) K686.1) K694.1) V695 hq1 (((X0.ext E677).keep K686 (allS gz680 all0)).keep K694 all0) AD HB LB) (fun _ hx => nomatch hx) (by rw [hml]; rfl) pd_5 rfl rfl (hb hby d7_32) rfl (by decide) (ble rfl) (ce' := 2) (sl' := 12) rfl rfl (by decide) (by decide) (fun v696 h697 hQ698 => ?_)
  obtain ⟨rfl, rfl⟩ := hQ698
  show Go _ _ _ _ _ _ _ _ _ _ _ _ _ _ _ _ _ _ _ _ 2 12 35 #[.val (.ref a), .val (.int (0 : Int32)), .val (.int (4 : Int32)), .val (.ref a674), .val (.int (1 : Int32)), .val (.ref b691)] [(.int c1)]
  refine Go.sipush (q := 38) (z := (255 : Int32)) hx (hb hby d7_35) rfl rfl ?_
  refine Go.icmp_gt (q := 41) (t := 54) hx (hb hby d7_38) (by decide) rfl rfl (fun hc38 => ?_) (fun hc38 => absurd hk hc38)
  refine Go.aload (q := 56) hx (hb hby d7_54) rfl (by rfl) rfl ?_
  refine Go.retA hx hret rfl (by rfl) hlk (hb hby d7_56) (by decide) (by decide) ?_
  exact ⟨b691, _, rfl, (Nat.le_trans gk687 g693), (Keep.trans (Keep.trans ((Keep.refl h0 []).ext E677) K686 (allS (Or.inr gk681) all0)) K694 all0), V695⟩
theorem rmCU4_2 (l : Launch) (Z : State) (a0 : Array Value) (hw : ∀ d ∈ tables_1, d.before a0 Z = true) (hel : EW Z a0 consts_1) (a b : Addr) (ka kb : ClassId) (c0 c1 c2 c3 : Int32) (h0 : Heap) (n0 : Nat) (Z0 : n0 ≤ h0.size) (A : Arv Z h0 a ka .char (4 : Int32) [.int c0, .int c1, .int c2, .int c3] (.int (0 : Int32))) (B : Arv Z h0 b kb .byte (4 : Int32) [(.int (0 : Int32)), (.int (0 : Int32)), (.int (0 : Int32)), (.int (0 : Int32))] (.int (0 : Int32))) (gb : n0 ≤ b) (nab : a ≠ b) (hp0 : ¬ (255 : Int32) < c0) (hp1 : ¬ (255 : Int32) < c1) (hk : (255 : Int32) < c2) :
    Met l Z consts_1 [b] (⟨"java/lang/StringUTF16", "compress", "([CI[BII)I"⟩ : MethodName) jdk_52_method_21_code 7 (Option.some FieldType.int) [] ({ frames := 0, cells := 0, slots := 0, locals := 0 } : Room) #[(.ref a), (.int (0 : Int32)), (.ref b), (.int (0 : Int32)), (.int (4 : Int32))] h0 n0 (fun v h => v = some (.int (2 : Int32)) ∧ Keep h0 h [b]) := by
  refine Met.of (Ls0 := #[.val (.ref a), .val (.int (0 : Int32)), .val (.ref b), .val (.int (0 : Int32)), .val (.int (4 : Int32)), .unset, .unset]) pl_3 (by first | (simp [argsToLocals, Value.category]; done) | rfl) hel ?_
  intro p e s m below meth c hx hby hml hret hlk hown hnm hZ
  refine Go.iconst (q := 1) (z := (0 : Int32)) hx (hb hby d8_0) rfl rfl ?_
  refine Go.istore (q := 3) (l' := #[.val (.ref a), .val (.int (0 : Int32)), .val (.ref b), .val (.int (0 : Int32)), .val (.int (4 : Int32)), .val (.int (0 : Int32)), .unset]) hx (hb hby d8_1) rfl rfl ?_
  refine Go.iload (q := 5) hx (hb hby d8_3) rfl rfl ?_
  refine Go.iload (q := 7) hx (hb hby d8_5) rfl rfl ?_
  refine Go.icmp_ge (q := 10) (t := 44) hx (hb hby d8_7) (by decide) rfl rfl (fun hc7 => absurd hc7 (by decide)) (fun hc7 => ?_)
  refine Go.aloadN (q := 11) hx (hb hby d8_10) rfl (by rfl) rfl ?_
  refine Go.iloadN (q := 12) hx (hb hby d8_11) rfl rfl ?_
  refine Go.caload (q := 13) (v := (.int c0)) hx hZ A ⟨by decide, by decide⟩ rfl (hb hby d8_12) rfl ?_
  refine Go.istore (q := 15) (l' := #[.val (.ref a), .val (.int (0 : Int32)), .val (.ref b), .val (.int (0 : Int32)), .val (.int (4 : Int32)), .val (.int (0 : Int32)), .val (.int c0)]) hx (hb hby d8_13) rfl rfl ?_
  refine Go.iload (q := 17) hx (hb hby d8_15) rfl rfl ?_
  refine Go.sipush (q := 20) (z := (255 : Int32)) hx (hb hby d8_17) rfl rfl ?_
  refine Go.icmp_le (q := 23) (t := 26) hx (hb hby d8_20) (by decide) rfl rfl (fun hc20 => ?_) (fun hc20 => absurd hc20 hp0)
  refine Go.aloadN (q := 27) hx (hb hby d8_26) rfl (by rfl) rfl ?_
  refine Go.iloadN (q := 28) hx (hb hby d8_27) rfl rfl ?_
  refine Go.iload (q := 30) hx (hb hby d8_28) rfl rfl ?_
  refine Go.i2b (q := 31) hx (hb hby d8_30) rfl ?_
  refine Go.bastore (q := 32) hx hZ B ⟨by decide, by decide⟩ 0 rfl (ble rfl) gb (by simp) (hb hby d8_31) rfl (fun h699 W700 V701 => ?_)
  refine Go.iinc (q := 35) (l' := #[.val (.ref a), .val (.int ((0 : Int32) + (1 : Int32))), .val (.ref b), .val (.int (0 : Int32)), .val (.int (4 : Int32)), .val (.int (0 : Int32)), .val (.int c0)]) hx (hb hby d8_32) rfl rfl rfl ?_
  refine Go.iinc (q := 38) (l' := #[.val (.ref a), .val (.int ((0 : Int32) + (1 : Int32))), .val (.ref b), .val (.int ((0 : Int32) + (1 : Int32))), .val (.int (4 : Int32)), .val (.int (0 : Int32)), .val (.int c0)]) hx (hb hby d8_35) rfl rfl rfl ?_
  refine Go.iinc (q := 41) (l' := #[.val (.ref a), .val (.int ((0 : Int32) + (1 : Int32))), .val (.ref b), .val (.int ((0 : Int32) + (1 : Int32))), .val (.int (4 : Int32)), .val (.int ((0 : Int32) + (1 : Int32))), .val (.int c0)]) hx (hb hby d8_38) rfl rfl rfl ?_
  refine Go.goto (q := 3) hx (hb hby d8_41) (by decide) rfl ?_
  refine Go.iload (q := 5) hx (hb hby d8_3) rfl rfl ?_
  refine Go.iload (q := 7) hx (hb hby d8_5) rfl rfl ?_
  refine Go.icmp_ge (q := 10) (t := 44) hx (hb hby d8_7) (by decide) rfl rfl (fun hc7_1 => absurd hc7_1 (by decide)) (fun hc7_1 => ?_)
  refine Go.aloadN (q := 11) hx (hb hby d8_10) rfl (by rfl) rfl ?_
  refine Go.iloadN (q := 12) hx (hb hby d8_11) rfl rfl ?_
  refine Go.caload (q := 13) (v := (.int c1)) hx hZ (A.other W700 nab) ⟨by decide, by decide⟩ rfl (hb hby d8_12) rfl ?_
  refine Go.istore (q := 15) (l' := #[.val (.ref a), .val (.int ((0 : Int32) + (1 : Int32))), .val (.ref b), .val (.int ((0 : Int32) + (1 : Int32))), .val (.int (4 : Int32)), .val (.int ((0 : Int32) + (1 : Int32))), .val (.int c1)]) hx (hb hby d8_13) rfl rfl ?_
  refine Go.iload (q := 17) hx (hb hby d8_15) rfl rfl ?_
  refine Go.sipush (q := 20) (z := (255 : Int32)) hx (hb hby d8_17) rfl rfl ?_
  refine Go.icmp_le (q := 23) (t := 26) hx (hb hby d8_20) (by decide) rfl rfl (fun hc20_1 => ?_) (fun hc20_1 => absurd hc20_1 hp1)
  refine Go.aloadN (q := 27) hx (hb hby d8_26) rfl (by rfl) rfl ?_
  refine Go.iloadN (q := 28) hx (hb hby d8_27) rfl rfl ?_
  refine Go.iload (q := 30) hx (hb hby d8_28) rfl rfl ?_
  refine Go.i2b (q := 31) hx (hb hby d8_30) rfl ?_
  refine Go.bastore (q := 32) hx hZ V701 ⟨by decide, by decide⟩ 1 rfl (ble rfl) gb (by simp) (hb hby d8_31) rfl (fun h702 W703 V704 => ?_)
  refine Go.iinc (q := 35) (l' := #[.val (.ref a), .val (.int (((0 : Int32) + (1 : Int32)) + (1 : Int32))), .val (.ref b), .val (.int ((0 : Int32) + (1 : Int32))), .val (.int (4 : Int32)), .val (.int ((0 : Int32) + (1 : Int32))), .val (.int c1)]) hx (hb hby d8_32) rfl rfl rfl ?_
  refine Go.iinc (q := 38) (l' := #[.val (.ref a), .val (.int (((0 : Int32) + (1 : Int32)) + (1 : Int32))), .val (.ref b), .val (.int (((0 : Int32) + (1 : Int32)) + (1 : Int32))), .val (.int (4 : Int32)), .val (.int ((0 : Int32) + (1 : Int32))), .val (.int c1)]) hx (hb hby d8_35) rfl rfl rfl ?_
  refine Go.iinc (q := 41) (l' := #[.val (.ref a), .val (.int (((0 : Int32) + (1 : Int32)) + (1 : Int32))), .val (.ref b), .val (.int (((0 : Int32) + (1 : Int32)) + (1 : Int32))), .val (.int (4 : Int32)), .val (.int (((0 : Int32) + (1 : Int32)) + (1 : Int32))), .val (.int c1)]) hx (hb hby d8_38) rfl rfl rfl ?_
  refine Go.goto (q := 3) hx (hb hby d8_41) (by decide) rfl ?_
  refine Go.iload (q := 5) hx (hb hby d8_3) rfl rfl ?_
  refine Go.iload (q := 7) hx (hb hby d8_5) rfl rfl ?_
  refine Go.icmp_ge (q := 10) (t := 44) hx (hb hby d8_7) (by decide) rfl rfl (fun hc7_2 => absurd hc7_2 (by decide)) (fun hc7_2 => ?_)
  refine Go.aloadN (q := 11) hx (hb hby d8_10) rfl (by rfl) rfl ?_
  refine Go.iloadN (q := 12) hx (hb hby d8_11) rfl rfl ?_
  refine Go.caload (q := 13) (v := (.int c2)) hx hZ ((A.other W700 nab).other W703 nab) ⟨by decide, by decide⟩ rfl (hb hby d8_12) rfl ?_
  refine Go.istore (q := 15) (l' := #[.val (.ref a), .val (.int (((0 : Int32) + (1 : Int32)) + (1 : Int32))), .val (.ref b), .val (.int (((0 : Int32) + (1 : Int32)) + (1 : Int32))), .val (.int (4 : Int32)), .val (.int (((0 : Int32) + (1 : Int32)) + (1 : Int32))), .val (.int c2)]) hx (hb hby d8_13) rfl rfl ?_
  refine Go.iload (q := 17) hx (hb hby d8_15) rfl rfl ?_
  refine Go.sipush (q := 20) (z := (255 : Int32)) hx (hb hby d8_17) rfl rfl ?_
  refine Go.icmp_le (q := 23) (t := 26) hx (hb hby d8_20) (by decide) rfl rfl (fun hc20_2 => absurd hk hc20_2) (fun hc20_2 => ?_)
  refine Go.iload (q := 25) hx (hb hby d8_23) rfl rfl ?_
  refine Go.retI hx hret hlk (hb hby d8_25) (by decide) (by decide) ?_
  exact ⟨rfl, (((Keep.refl h0 [b]).wr W700 (Or.inl (by simp))).wr W703 (Or.inl (by simp)))⟩
theorem rmDU4_2 (l : Launch) (Z : State) (a0 : Array Value) (hw : ∀ d ∈ tables_1, d.before a0 Z = true) (hel : EW Z a0 consts_1) (a : Addr) (ka : ClassId) (c0 c1 c2 c3 : Int32) (h0 : Heap) (n0 : Nat) (Z0 : n0 ≤ h0.size) (A : Arv Z h0 a ka .char (4 : Int32) [.int c0, .int c1, .int c2, .int c3] (.int (0 : Int32))) (hq0 : Chr c0) (hq1 : Chr c1) (hq2 : Chr c2) (hq3 : Chr c3) (hp0 : ¬ (255 : Int32) < c0) (hp1 : ¬ (255 : Int32) < c1) (hk : (255 : Int32) < c2) (X0 : Old Z n0 h0) (AD : Sta Z Z.heap "java/lang/StringUTF16" "$assertionsDisabled" "Z" (.int (1 : Int32))) (HB : Sta Z Z.heap "java/lang/StringUTF16" "HI_BYTE_SHIFT" "I" (.int (0 : Int32))) (LB : Sta Z Z.heap "java/lang/StringUTF16" "LO_BYTE_SHIFT" "I" (.int (8 : Int32))) :
    Met l Z consts_1 [] (⟨"java/lang/StringUTF16", "compress", "([CII)[B"⟩ : MethodName) jdk_52_method_16_code 6 (Option.some (FieldType.array FieldType.byte)) [] ({ frames := 3, cells := 2, slots := 12, locals := 58 } : Room) #[(.ref a), (.int (0 : Int32)), (.int (4 : Int32))] h0 n0 (fun v h => ∃ b kb, v = some (.ref b) ∧ h0.size ≤ b ∧ Keep h0 h [] ∧ Arv Z h b kb .byte (8 : Int32) [(.int (nar .byte (c0 >>> ((0 : Int32) &&& 31)).toInt8.toInt32)), (.int (nar .byte (c0 >>> ((8 : Int32) &&& 31)).toInt8.toInt32)), (.int (nar .byte (c1 >>> ((0 : Int32) &&& 31)).toInt8.toInt32)), (.int (nar .byte (c1 >>> ((8 : Int32) &&& 31)).toInt8.toInt32)), (.int (nar .byte (c2 >>> ((0 : Int32) &&& 31)).toInt8.toInt32)), (.int (nar .byte (c2 >>> ((8 : Int32) &&& 31)).toInt8.toInt32)), (.int (nar .byte (c3 >>> ((0 : Int32) &&& 31)).toInt8.toInt32)), (.int (nar .byte (c3 >>> ((8 : Int32) &&& 31)).toInt8.toInt32))] (.int (0 : Int32))) := by
  refine Met.of (Ls0 := #[.val (.ref a), .val (.int (0 : Int32)), .val (.int (4 : Int32)), .unset, .unset, .unset]) pl_4 (by first | (simp [argsToLocals, Value.category]; done) | rfl) hel ?_
  intro p e s m below meth c hx hby hml hret hlk hown hnm hZ
  refine Go.iloadN (q := 1) hx (hb hby d7_0) rfl rfl ?_
  refine Go.newP (q := 3) (cap := 4) hx hZ (tw hw 21 rfl) (by decide) (by decide) (hb hby d7_1) rfl (by decide) (ce' := 1) (sl' := 4) rfl rfl (by decide) (by decide) (fun h705 a706 k707 g708 E709 A710 => ?_)
  have ne711 : a ≠ a706 := by rw [g708]; exact Nat.ne_of_lt (A).lt
  have gz712 : n0 ≤ a706 := by rw [g708]; exact Z0
  have gk713 : h0.size ≤ a706 := by rw [g708]; exact (Keep.refl h0 []).1
  have V714 : Arv Z h705 a706 k707 .byte (4 : Int32) [(.int (0 : Int32)), (.int (0 : Int32)), (.int (0 : Int32)), (.int (0 : Int32))] (.int (0 : Int32)) := A710.pad (pad_rep [] (.int (0 : Int32)) 4)
  refine Go.astoreN (q := 4) (l' := #[.val (.ref a), .val (.int (0 : Int32)), .val (.int (4 : Int32)), .val (.ref a706), .unset, .unset]) hx (hb hby d7_3) (by rfl) rfl rfl ?_
  refine Go.aloadN (q := 5) hx (hb hby d7_4) rfl (by rfl) rfl ?_
  refine Go.iloadN (q := 6) hx (hb hby d7_5) rfl rfl ?_
  refine Go.aloadN (q := 7) hx (hb hby d7_6) rfl (by rfl) rfl ?_
  refine Go.iconst (q := 8) (z := (0 : Int32)) hx (hb hby d7_7) rfl rfl ?_
  refine Go.iloadN (q := 9) hx (hb hby d7_8) rfl rfl ?_
  refine Go.callS (q := 12) hx hZ (argsL := [(.ref a), (.int (0 : Int32)), (.ref a706), (.int (0 : Int32)), (.int (4 : Int32))]) (rest := []) hown (tw hw 47 rfl) (tw hw 48 rfl) (tw hw 45 rfl) (tw hw 49 rfl) (by decide) (rmCU4_2 l Z a0 hw hel a a706 ka k707 c0 c1 c2 c3 h705 n0 (Nat.le_trans Z0 E709.1) (A.ext E709) V714 gz712 ne711 hp0 hp1 hk) (by simp) (by rw [hml]; rfl) pd_4 rfl rfl (hb hby d7_9) rfl (by decide) (ble rfl) (ce' := 1) (sl' := 4) rfl rfl (by decide) (by decide) (fun v715 h716 hQ717 => ?_)
  obtain ⟨rfl, K718⟩ := hQ717
  show Go _ _ _ _ _ _ _ _ _ _ _ _ _ _ _ _ _ _ _ _ 1 4 12 #[.val (.ref a), .val (.int (0 : Int32)), .val (.int (4 : Int32)), .val (.ref a706), .unset, .unset] [(.int (2 : Int32))]
  refine Go.istore (q := 14) (l' := #[.val (.ref a), .val (.int (0 : Int32)), .val (.int (4 : Int32)), .val (.ref a706), .val (.int (2 : Int32)), .unset]) hx (hb hby d7_12) rfl rfl ?_
  refine Go.iload (q := 16) hx (hb hby d7_14) rfl rfl ?_
  refine Go.iloadN (q := 17) hx (hb hby d7_16) rfl rfl ?_
  refine Go.icmp_eq (q := 20) (t := 57) hx (hb hby d7_17) (by decide) rfl rfl (fun hc17 => absurd hc17 (by decide)) (fun hc17 => ?_)
  refine Go.aloadN (q := 21) hx (hb hby d7_20) rfl (by rfl) rfl ?_
  refine Go.iloadN (q := 22) hx (hb hby d7_21) rfl rfl ?_
  refine Go.iloadN (q := 23) hx (hb hby d7_22) rfl rfl ?_
  have gk719 := (Keep.trans ((Keep.refl h0 []).ext E709) K718 (allS (Or.inr gk713) all0)).1
  refine Go.callS (q := 26) hx hZ (argsL := [(.ref a), (.int (0 : Int32)), (.int (4 : Int32))]) (rest := []) hown (tw hw 75 rfl) (tw hw 76 rfl) (tw hw 45 rfl) (tw hw 77 rfl) (by decide) (rmT4 l Z a0 hw hel a ka c0 c1 c2 c3 h716 n0 (Nat.le_trans (Nat.le_trans Z0 E709.1) K718.1) ((A.ext E709).keep K718 (ninS ne711 nin0)) ((X0.ext E709).keep K718 (allS gz712 all0)) AD HB LB) (fun _ hx => nomatch hx) (by rw [hml]; rfl) pd_1 rfl rfl (hb hby d7_23) rfl (by decide) (ble rfl) (ce' := 2) (sl' := 12) rfl rfl (by decide) (by decide) (fun v720 h721 hQ722 => ?_)
  obtain ⟨b723, k724, rfl, g725, K726, V727⟩ := hQ722
  show Go _ _ _ _ _ _ _ _ _ _ _ _ _ _ _ _ _ _ _ _ 2 12 26 #[.val (.ref a), .val (.int (0 : Int32)), .val (.int (4 : Int32)), .val (.ref a706), .val (.int (2 : Int32)), .unset] [(.ref b723)]
  refine Go.astore (q := 28) (l' := #[.val (.ref a), .val (.int (0 : Int32)), .val (.int (4 : Int32)), .val (.ref a706), .val (.int (2 : Int32)), .val (.ref b723)]) hx (hb hby d7_26) (by rfl) rfl rfl ?_
  refine Go.aload (q := 30) hx (hb hby d7_28) rfl (by rfl) rfl ?_
  refine Go.iload (q := 32) hx (hb hby d7_30) rfl rfl ?_
  refine Go.callS (q := 35) hx hZ (argsL := [(.ref b723), (.int (2 : Int32))]) (rest := []) hown (tw hw 91 rfl) (tw hw 92 rfl) (tw hw 45 rfl) (tw hw 93 rfl) (by decide) (rmG4_2 l Z a0 hw hel b723 k724 c0 c1 c2 c3 h721 n0 (Nat.le_trans (Nat.le_trans (Nat.le_trans Z0 E709.1) K718.1) K726.1) V727 hq2 (((X0.ext E709).keep K718 (allS gz712 all0)).keep K726 all0) AD HB LB) (fun _ hx => nomatch hx) (by rw [hml]; rfl) pd_5 rfl rfl (hb hby d7_32) rfl (by decide) (ble rfl) (ce' := 2) (sl' := 12) rfl rfl (by decide) (by decide) (fun v728 h729 hQ730 => ?_)
  obtain ⟨rfl, rfl⟩ := hQ730
  show Go _ _ _ _ _ _ _ _ _ _ _ _ _ _ _ _ _ _ _ _ 2 12 35 #[.val (.ref a), .val (.int (0 : Int32)), .val (.int (4 : Int32)), .val (.ref a706), .val (.int (2 : Int32)), .val (.ref b723)] [(.int c2)]
  refine Go.sipush (q := 38) (z := (255 : Int32)) hx (hb hby d7_35) rfl rfl ?_
  refine Go.icmp_gt (q := 41) (t := 54) hx (hb hby d7_38) (by decide) rfl rfl (fun hc38 => ?_) (fun hc38 => absurd hk hc38)
  refine Go.aload (q := 56) hx (hb hby d7_54) rfl (by rfl) rfl ?_
  refine Go.retA hx hret rfl (by rfl) hlk (hb hby d7_56) (by decide) (by decide) ?_
  exact ⟨b723, _, rfl, (Nat.le_trans gk719 g725), (Keep.trans (Keep.trans ((Keep.refl h0 []).ext E709) K718 (allS (Or.inr gk713) all0)) K726 all0), V727⟩
theorem rmCU4_3 (l : Launch) (Z : State) (a0 : Array Value) (hw : ∀ d ∈ tables_1, d.before a0 Z = true) (hel : EW Z a0 consts_1) (a b : Addr) (ka kb : ClassId) (c0 c1 c2 c3 : Int32) (h0 : Heap) (n0 : Nat) (Z0 : n0 ≤ h0.size) (A : Arv Z h0 a ka .char (4 : Int32) [.int c0, .int c1, .int c2, .int c3] (.int (0 : Int32))) (B : Arv Z h0 b kb .byte (4 : Int32) [(.int (0 : Int32)), (.int (0 : Int32)), (.int (0 : Int32)), (.int (0 : Int32))] (.int (0 : Int32))) (gb : n0 ≤ b) (nab : a ≠ b) (hp0 : ¬ (255 : Int32) < c0) (hp1 : ¬ (255 : Int32) < c1) (hp2 : ¬ (255 : Int32) < c2) (hk : (255 : Int32) < c3) :
    Met l Z consts_1 [b] (⟨"java/lang/StringUTF16", "compress", "([CI[BII)I"⟩ : MethodName) jdk_52_method_21_code 7 (Option.some FieldType.int) [] ({ frames := 0, cells := 0, slots := 0, locals := 0 } : Room) #[(.ref a), (.int (0 : Int32)), (.ref b), (.int (0 : Int32)), (.int (4 : Int32))] h0 n0 (fun v h => v = some (.int (3 : Int32)) ∧ Keep h0 h [b]) := by
  refine Met.of (Ls0 := #[.val (.ref a), .val (.int (0 : Int32)), .val (.ref b), .val (.int (0 : Int32)), .val (.int (4 : Int32)), .unset, .unset]) pl_3 (by first | (simp [argsToLocals, Value.category]; done) | rfl) hel ?_
  intro p e s m below meth c hx hby hml hret hlk hown hnm hZ
  refine Go.iconst (q := 1) (z := (0 : Int32)) hx (hb hby d8_0) rfl rfl ?_
  refine Go.istore (q := 3) (l' := #[.val (.ref a), .val (.int (0 : Int32)), .val (.ref b), .val (.int (0 : Int32)), .val (.int (4 : Int32)), .val (.int (0 : Int32)), .unset]) hx (hb hby d8_1) rfl rfl ?_
  refine Go.iload (q := 5) hx (hb hby d8_3) rfl rfl ?_
  refine Go.iload (q := 7) hx (hb hby d8_5) rfl rfl ?_
  refine Go.icmp_ge (q := 10) (t := 44) hx (hb hby d8_7) (by decide) rfl rfl (fun hc7 => absurd hc7 (by decide)) (fun hc7 => ?_)
  refine Go.aloadN (q := 11) hx (hb hby d8_10) rfl (by rfl) rfl ?_
  refine Go.iloadN (q := 12) hx (hb hby d8_11) rfl rfl ?_
  refine Go.caload (q := 13) (v := (.int c0)) hx hZ A ⟨by decide, by decide⟩ rfl (hb hby d8_12) rfl ?_
  refine Go.istore (q := 15) (l' := #[.val (.ref a), .val (.int (0 : Int32)), .val (.ref b), .val (.int (0 : Int32)), .val (.int (4 : Int32)), .val (.int (0 : Int32)), .val (.int c0)]) hx (hb hby d8_13) rfl rfl ?_
  refine Go.iload (q := 17) hx (hb hby d8_15) rfl rfl ?_
  refine Go.sipush (q := 20) (z := (255 : Int32)) hx (hb hby d8_17) rfl rfl ?_
  refine Go.icmp_le (q := 23) (t := 26) hx (hb hby d8_20) (by decide) rfl rfl (fun hc20 => ?_) (fun hc20 => absurd hc20 hp0)
  refine Go.aloadN (q := 27) hx (hb hby d8_26) rfl (by rfl) rfl ?_
  refine Go.iloadN (q := 28) hx (hb hby d8_27) rfl rfl ?_
  refine Go.iload (q := 30) hx (hb hby d8_28) rfl rfl ?_
  refine Go.i2b (q := 31) hx (hb hby d8_30) rfl ?_
  refine Go.bastore (q := 32) hx hZ B ⟨by decide, by decide⟩ 0 rfl (ble rfl) gb (by simp) (hb hby d8_31) rfl (fun h731 W732 V733 => ?_)
  refine Go.iinc (q := 35) (l' := #[.val (.ref a), .val (.int ((0 : Int32) + (1 : Int32))), .val (.ref b), .val (.int (0 : Int32)), .val (.int (4 : Int32)), .val (.int (0 : Int32)), .val (.int c0)]) hx (hb hby d8_32) rfl rfl rfl ?_
  refine Go.iinc (q := 38) (l' := #[.val (.ref a), .val (.int ((0 : Int32) + (1 : Int32))), .val (.ref b), .val (.int ((0 : Int32) + (1 : Int32))), .val (.int (4 : Int32)), .val (.int (0 : Int32)), .val (.int c0)]) hx (hb hby d8_35) rfl rfl rfl ?_
  refine Go.iinc (q := 41) (l' := #[.val (.ref a), .val (.int ((0 : Int32) + (1 : Int32))), .val (.ref b), .val (.int ((0 : Int32) + (1 : Int32))), .val (.int (4 : Int32)), .val (.int ((0 : Int32) + (1 : Int32))), .val (.int c0)]) hx (hb hby d8_38) rfl rfl rfl ?_
  refine Go.goto (q := 3) hx (hb hby d8_41) (by decide) rfl ?_
  refine Go.iload (q := 5) hx (hb hby d8_3) rfl rfl ?_
  refine Go.iload (q := 7) hx (hb hby d8_5) rfl rfl ?_
  refine Go.icmp_ge (q := 10) (t := 44) hx (hb hby d8_7) (by decide) rfl rfl (fun hc7_1 => absurd hc7_1 (by decide)) (fun hc7_1 => ?_)
  refine Go.aloadN (q := 11) hx (hb hby d8_10) rfl (by rfl) rfl ?_
  refine Go.iloadN (q := 12) hx (hb hby d8_11) rfl rfl ?_
  refine Go.caload (q := 13) (v := (.int c1)) hx hZ (A.other W732 nab) ⟨by decide, by decide⟩ rfl (hb hby d8_12) rfl ?_
  refine Go.istore (q := 15) (l' := #[.val (.ref a), .val (.int ((0 : Int32) + (1 : Int32))), .val (.ref b), .val (.int ((0 : Int32) + (1 : Int32))), .val (.int (4 : Int32)), .val (.int ((0 : Int32) + (1 : Int32))), .val (.int c1)]) hx (hb hby d8_13) rfl rfl ?_
  refine Go.iload (q := 17) hx (hb hby d8_15) rfl rfl ?_
  refine Go.sipush (q := 20) (z := (255 : Int32)) hx (hb hby d8_17) rfl rfl ?_
  refine Go.icmp_le (q := 23) (t := 26) hx (hb hby d8_20) (by decide) rfl rfl (fun hc20_1 => ?_) (fun hc20_1 => absurd hc20_1 hp1)
  refine Go.aloadN (q := 27) hx (hb hby d8_26) rfl (by rfl) rfl ?_
  refine Go.iloadN (q := 28) hx (hb hby d8_27) rfl rfl ?_
  refine Go.iload (q := 30) hx (hb hby d8_28) rfl rfl ?_
  refine Go.i2b (q := 31) hx (hb hby d8_30) rfl ?_
  refine Go.bastore (q := 32) hx hZ V733 ⟨by decide, by decide⟩ 1 rfl (ble rfl) gb (by simp) (hb hby d8_31) rfl (fun h734 W735 V736 => ?_)
  refine Go.iinc (q := 35) (l' := #[.val (.ref a), .val (.int (((0 : Int32) + (1 : Int32)) + (1 : Int32))), .val (.ref b), .val (.int ((0 : Int32) + (1 : Int32))), .val (.int (4 : Int32)), .val (.int ((0 : Int32) + (1 : Int32))), .val (.int c1)]) hx (hb hby d8_32) rfl rfl rfl ?_
  refine Go.iinc (q := 38) (l' := #[.val (.ref a), .val (.int (((0 : Int32) + (1 : Int32)) + (1 : Int32))), .val (.ref b), .val (.int (((0 : Int32) + (1 : Int32)) + (1 : Int32))), .val (.int (4 : Int32)), .val (.int ((0 : Int32) + (1 : Int32))), .val (.int c1)]) hx (hb hby d8_35) rfl rfl rfl ?_
  refine Go.iinc (q := 41) (l' := #[.val (.ref a), .val (.int (((0 : Int32) + (1 : Int32)) + (1 : Int32))), .val (.ref b), .val (.int (((0 : Int32) + (1 : Int32)) + (1 : Int32))), .val (.int (4 : Int32)), .val (.int (((0 : Int32) + (1 : Int32)) + (1 : Int32))), .val (.int c1)]) hx (hb hby d8_38) rfl rfl rfl ?_
  refine Go.goto (q := 3) hx (hb hby d8_41) (by decide) rfl ?_
  refine Go.iload (q := 5) hx (hb hby d8_3) rfl rfl ?_
  refine Go.iload (q := 7) hx (hb hby d8_5) rfl rfl ?_
  refine Go.icmp_ge (q := 10) (t := 44) hx (hb hby d8_7) (by decide) rfl rfl (fun hc7_2 => absurd hc7_2 (by decide)) (fun hc7_2 => ?_)
  refine Go.aloadN (q := 11) hx (hb hby d8_10) rfl (by rfl) rfl ?_
  refine Go.iloadN (q := 12) hx (hb hby d8_11) rfl rfl ?_
  refine Go.caload (q := 13) (v := (.int c2)) hx hZ ((A.other W732 nab).other W735 nab) ⟨by decide, by decide⟩ rfl (hb hby d8_12) rfl ?_
  refine Go.istore (q := 15) (l' := #[.val (.ref a), .val (.int (((0 : Int32) + (1 : Int32)) + (1 : Int32))), .val (.ref b), .val (.int (((0 : Int32) + (1 : Int32)) + (1 : Int32))), .val (.int (4 : Int32)), .val (.int (((0 : Int32) + (1 : Int32)) + (1 : Int32))), .val (.int c2)]) hx (hb hby d8_13) rfl rfl ?_
  refine Go.iload (q := 17) hx (hb hby d8_15) rfl rfl ?_
  refine Go.sipush (q := 20) (z := (255 : Int32)) hx (hb hby d8_17) rfl rfl ?_
  refine Go.icmp_le (q := 23) (t := 26) hx (hb hby d8_20) (by decide) rfl rfl (fun hc20_2 => ?_) (fun hc20_2 => absurd hc20_2 hp2)
  refine Go.aloadN (q := 27) hx (hb hby d8_26) rfl (by rfl) rfl ?_
  refine Go.iloadN (q := 28) hx (hb hby d8_27) rfl rfl ?_
  refine Go.iload (q := 30) hx (hb hby d8_28) rfl rfl ?_
  refine Go.i2b (q := 31) hx (hb hby d8_30) rfl ?_
  refine Go.bastore (q := 32) hx hZ V736 ⟨by decide, by decide⟩ 2 rfl (ble rfl) gb (by simp) (hb hby d8_31) rfl (fun h737 W738 V739 => ?_)
  refine Go.iinc (q := 35) (l' := #[.val (.ref a), .val (.int ((((0 : Int32) + (1 : Int32)) + (1 : Int32)) + (1 : Int32))), .val (.ref b), .val (.int (((0 : Int32) + (1 : Int32)) + (1 : Int32))), .val (.int (4 : Int32)), .val (.int (((0 : Int32) + (1 : Int32)) + (1 : Int32))), .val (.int c2)]) hx (hb hby d8_32) rfl rfl rfl ?_
  refine Go.iinc (q := 38) (l' := #[.val (.ref a), .val (.int ((((0 : Int32) + (1 : Int32)) + (1 : Int32)) + (1 : Int32))), .val (.ref b), .val (.int ((((0 : Int32) + (1 : Int32)) + (1 : Int32)) + (1 : Int32))), .val (.int (4 : Int32)), .val (.int (((0 : Int32) + (1 : Int32)) + (1 : Int32))), .val (.int c2)]) hx (hb hby d8_35) rfl rfl rfl ?_
  refine Go.iinc (q := 41) (l' := #[.val (.ref a), .val (.int ((((0 : Int32) + (1 : Int32)) + (1 : Int32)) + (1 : Int32))), .val (.ref b), .val (.int ((((0 : Int32) + (1 : Int32)) + (1 : Int32)) + (1 : Int32))), .val (.int (4 : Int32)), .val (.int ((((0 : Int32) + (1 : Int32)) + (1 : Int32)) + (1 : Int32))), .val (.int c2)]) hx (hb hby d8_38) rfl rfl rfl ?_
  refine Go.goto (q := 3) hx (hb hby d8_41) (by decide) rfl ?_
  refine Go.iload (q := 5) hx (hb hby d8_3) rfl rfl ?_
  refine Go.iload (q := 7) hx (hb hby d8_5) rfl rfl ?_
  refine Go.icmp_ge (q := 10) (t := 44) hx (hb hby d8_7) (by decide) rfl rfl (fun hc7_3 => absurd hc7_3 (by decide)) (fun hc7_3 => ?_)
  refine Go.aloadN (q := 11) hx (hb hby d8_10) rfl (by rfl) rfl ?_
  refine Go.iloadN (q := 12) hx (hb hby d8_11) rfl rfl ?_
  refine Go.caload (q := 13) (v := (.int c3)) hx hZ (((A.other W732 nab).other W735 nab).other W738 nab) ⟨by decide, by decide⟩ rfl (hb hby d8_12) rfl ?_
  refine Go.istore (q := 15) (l' := #[.val (.ref a), .val (.int ((((0 : Int32) + (1 : Int32)) + (1 : Int32)) + (1 : Int32))), .val (.ref b), .val (.int ((((0 : Int32) + (1 : Int32)) + (1 : Int32)) + (1 : Int32))), .val (.int (4 : Int32)), .val (.int ((((0 : Int32) + (1 : Int32)) + (1 : Int32)) + (1 : Int32))), .val (.int c3)]) hx (hb hby d8_13) rfl rfl ?_
  refine Go.iload (q := 17) hx (hb hby d8_15) rfl rfl ?_
  refine Go.sipush (q := 20) (z := (255 : Int32)) hx (hb hby d8_17) rfl rfl ?_
  refine Go.icmp_le (q := 23) (t := 26) hx (hb hby d8_20) (by decide) rfl rfl (fun hc20_3 => absurd hk hc20_3) (fun hc20_3 => ?_)
  refine Go.iload (q := 25) hx (hb hby d8_23) rfl rfl ?_
  refine Go.retI hx hret hlk (hb hby d8_25) (by decide) (by decide) ?_
  exact ⟨rfl, ((((Keep.refl h0 [b]).wr W732 (Or.inl (by simp))).wr W735 (Or.inl (by simp))).wr W738 (Or.inl (by simp)))⟩
theorem rmDU4_3 (l : Launch) (Z : State) (a0 : Array Value) (hw : ∀ d ∈ tables_1, d.before a0 Z = true) (hel : EW Z a0 consts_1) (a : Addr) (ka : ClassId) (c0 c1 c2 c3 : Int32) (h0 : Heap) (n0 : Nat) (Z0 : n0 ≤ h0.size) (A : Arv Z h0 a ka .char (4 : Int32) [.int c0, .int c1, .int c2, .int c3] (.int (0 : Int32))) (hq0 : Chr c0) (hq1 : Chr c1) (hq2 : Chr c2) (hq3 : Chr c3) (hp0 : ¬ (255 : Int32) < c0) (hp1 : ¬ (255 : Int32) < c1) (hp2 : ¬ (255 : Int32) < c2) (hk : (255 : Int32) < c3) (X0 : Old Z n0 h0) (AD : Sta Z Z.heap "java/lang/StringUTF16" "$assertionsDisabled" "Z" (.int (1 : Int32))) (HB : Sta Z Z.heap "java/lang/StringUTF16" "HI_BYTE_SHIFT" "I" (.int (0 : Int32))) (LB : Sta Z Z.heap "java/lang/StringUTF16" "LO_BYTE_SHIFT" "I" (.int (8 : Int32))) :
    Met l Z consts_1 [] (⟨"java/lang/StringUTF16", "compress", "([CII)[B"⟩ : MethodName) jdk_52_method_16_code 6 (Option.some (FieldType.array FieldType.byte)) [] ({ frames := 3, cells := 2, slots := 12, locals := 58 } : Room) #[(.ref a), (.int (0 : Int32)), (.int (4 : Int32))] h0 n0 (fun v h => ∃ b kb, v = some (.ref b) ∧ h0.size ≤ b ∧ Keep h0 h [] ∧ Arv Z h b kb .byte (8 : Int32) [(.int (nar .byte (c0 >>> ((0 : Int32) &&& 31)).toInt8.toInt32)), (.int (nar .byte (c0 >>> ((8 : Int32) &&& 31)).toInt8.toInt32)), (.int (nar .byte (c1 >>> ((0 : Int32) &&& 31)).toInt8.toInt32)), (.int (nar .byte (c1 >>> ((8 : Int32) &&& 31)).toInt8.toInt32)), (.int (nar .byte (c2 >>> ((0 : Int32) &&& 31)).toInt8.toInt32)), (.int (nar .byte (c2 >>> ((8 : Int32) &&& 31)).toInt8.toInt32)), (.int (nar .byte (c3 >>> ((0 : Int32) &&& 31)).toInt8.toInt32)), (.int (nar .byte (c3 >>> ((8 : Int32) &&& 31)).toInt8.toInt32))] (.int (0 : Int32))) := by
  refine Met.of (Ls0 := #[.val (.ref a), .val (.int (0 : Int32)), .val (.int (4 : Int32)), .unset, .unset, .unset]) pl_4 (by first | (simp [argsToLocals, Value.category]; done) | rfl) hel ?_
  intro p e s m below meth c hx hby hml hret hlk hown hnm hZ
  refine Go.iloadN (q := 1) hx (hb hby d7_0) rfl rfl ?_
  refine Go.newP (q := 3) (cap := 4) hx hZ (tw hw 21 rfl) (by decide) (by decide) (hb hby d7_1) rfl (by decide) (ce' := 1) (sl' := 4) rfl rfl (by decide) (by decide) (fun h740 a741 k742 g743 E744 A745 => ?_)
  have ne746 : a ≠ a741 := by rw [g743]; exact Nat.ne_of_lt (A).lt
  have gz747 : n0 ≤ a741 := by rw [g743]; exact Z0
  have gk748 : h0.size ≤ a741 := by rw [g743]; exact (Keep.refl h0 []).1
  have V749 : Arv Z h740 a741 k742 .byte (4 : Int32) [(.int (0 : Int32)), (.int (0 : Int32)), (.int (0 : Int32)), (.int (0 : Int32))] (.int (0 : Int32)) := A745.pad (pad_rep [] (.int (0 : Int32)) 4)
  refine Go.astoreN (q := 4) (l' := #[.val (.ref a), .val (.int (0 : Int32)), .val (.int (4 : Int32)), .val (.ref a741), .unset, .unset]) hx (hb hby d7_3) (by rfl) rfl rfl ?_
  refine Go.aloadN (q := 5) hx (hb hby d7_4) rfl (by rfl) rfl ?_
  refine Go.iloadN (q := 6) hx (hb hby d7_5) rfl rfl ?_
  refine Go.aloadN (q := 7) hx (hb hby d7_6) rfl (by rfl) rfl ?_
  refine Go.iconst (q := 8) (z := (0 : Int32)) hx (hb hby d7_7) rfl rfl ?_
  refine Go.iloadN (q := 9) hx (hb hby d7_8) rfl rfl ?_
  refine Go.callS (q := 12) hx hZ (argsL := [(.ref a), (.int (0 : Int32)), (.ref a741), (.int (0 : Int32)), (.int (4 : Int32))]) (rest := []) hown (tw hw 47 rfl) (tw hw 48 rfl) (tw hw 45 rfl) (tw hw 49 rfl) (by decide) (rmCU4_3 l Z a0 hw hel a a741 ka k742 c0 c1 c2 c3 h740 n0 (Nat.le_trans Z0 E744.1) (A.ext E744) V749 gz747 ne746 hp0 hp1 hp2 hk) (by simp) (by rw [hml]; rfl) pd_4 rfl rfl (hb hby d7_9) rfl (by decide) (ble rfl) (ce' := 1) (sl' := 4) rfl rfl (by decide) (by decide) (fun v750 h751 hQ752 => ?_)
  obtain ⟨rfl, K753⟩ := hQ752
  show Go _ _ _ _ _ _ _ _ _ _ _ _ _ _ _ _ _ _ _ _ 1 4 12 #[.val (.ref a), .val (.int (0 : Int32)), .val (.int (4 : Int32)), .val (.ref a741), .unset, .unset] [(.int (3 : Int32))]
  refine Go.istore (q := 14) (l' := #[.val (.ref a), .val (.int (0 : Int32)), .val (.int (4 : Int32)), .val (.ref a741), .val (.int (3 : Int32)), .unset]) hx (hb hby d7_12) rfl rfl ?_
  refine Go.iload (q := 16) hx (hb hby d7_14) rfl rfl ?_
  refine Go.iloadN (q := 17) hx (hb hby d7_16) rfl rfl ?_
  refine Go.icmp_eq (q := 20) (t := 57) hx (hb hby d7_17) (by decide) rfl rfl (fun hc17 => absurd hc17 (by decide)) (fun hc17 => ?_)
  refine Go.aloadN (q := 21) hx (hb hby d7_20) rfl (by rfl) rfl ?_
  refine Go.iloadN (q := 22) hx (hb hby d7_21) rfl rfl ?_
  refine Go.iloadN (q := 23) hx (hb hby d7_22) rfl rfl ?_
  have gk754 := (Keep.trans ((Keep.refl h0 []).ext E744) K753 (allS (Or.inr gk748) all0)).1
  refine Go.callS (q := 26) hx hZ (argsL := [(.ref a), (.int (0 : Int32)), (.int (4 : Int32))]) (rest := []) hown (tw hw 75 rfl) (tw hw 76 rfl) (tw hw 45 rfl) (tw hw 77 rfl) (by decide) (rmT4 l Z a0 hw hel a ka c0 c1 c2 c3 h751 n0 (Nat.le_trans (Nat.le_trans Z0 E744.1) K753.1) ((A.ext E744).keep K753 (ninS ne746 nin0)) ((X0.ext E744).keep K753 (allS gz747 all0)) AD HB LB) (fun _ hx => nomatch hx) (by rw [hml]; rfl) pd_1 rfl rfl (hb hby d7_23) rfl (by decide) (ble rfl) (ce' := 2) (sl' := 12) rfl rfl (by decide) (by decide) (fun v755 h756 hQ757 => ?_)
  obtain ⟨b758, k759, rfl, g760, K761, V762⟩ := hQ757
  show Go _ _ _ _ _ _ _ _ _ _ _ _ _ _ _ _ _ _ _ _ 2 12 26 #[.val (.ref a), .val (.int (0 : Int32)), .val (.int (4 : Int32)), .val (.ref a741), .val (.int (3 : Int32)), .unset] [(.ref b758)]
  refine Go.astore (q := 28) (l' := #[.val (.ref a), .val (.int (0 : Int32)), .val (.int (4 : Int32)), .val (.ref a741), .val (.int (3 : Int32)), .val (.ref b758)]) hx (hb hby d7_26) (by rfl) rfl rfl ?_
  refine Go.aload (q := 30) hx (hb hby d7_28) rfl (by rfl) rfl ?_
  refine Go.iload (q := 32) hx (hb hby d7_30) rfl rfl ?_
  refine Go.callS (q := 35) hx hZ (argsL := [(.ref b758), (.int (3 : Int32))]) (rest := []) hown (tw hw 91 rfl) (tw hw 92 rfl) (tw hw 45 rfl) (tw hw 93 rfl) (by decide) (rmG4_3 l Z a0 hw hel b758 k759 c0 c1 c2 c3 h756 n0 (Nat.le_trans (Nat.le_trans (Nat.le_trans Z0 E744.1) K753.1) K761.1) V762 hq3 (((X0.ext E744).keep K753 (allS gz747 all0)).keep K761 all0) AD HB LB) (fun _ hx => nomatch hx) (by rw [hml]; rfl) pd_5 rfl rfl (hb hby d7_32) rfl (by decide) (ble rfl) (ce' := 2) (sl' := 12) rfl rfl (by decide) (by decide) (fun v763 h764 hQ765 => ?_)
  obtain ⟨rfl, rfl⟩ := hQ765
  show Go _ _ _ _ _ _ _ _ _ _ _ _ _ _ _ _ _ _ _ _ 2 12 35 #[.val (.ref a), .val (.int (0 : Int32)), .val (.int (4 : Int32)), .val (.ref a741), .val (.int (3 : Int32)), .val (.ref b758)] [(.int c3)]
  refine Go.sipush (q := 38) (z := (255 : Int32)) hx (hb hby d7_35) rfl rfl ?_
  refine Go.icmp_gt (q := 41) (t := 54) hx (hb hby d7_38) (by decide) rfl rfl (fun hc38 => ?_) (fun hc38 => absurd hk hc38)
  refine Go.aload (q := 56) hx (hb hby d7_54) rfl (by rfl) rfl ?_
  refine Go.retA hx hret rfl (by rfl) hlk (hb hby d7_56) (by decide) (by decide) ?_
  exact ⟨b758, _, rfl, (Nat.le_trans gk754 g760), (Keep.trans (Keep.trans ((Keep.refl h0 []).ext E744) K753 (allS (Or.inr gk748) all0)) K761 all0), V762⟩
theorem rmDU4 (l : Launch) (Z : State) (a0 : Array Value) (hw : ∀ d ∈ tables_1, d.before a0 Z = true) (hel : EW Z a0 consts_1) (a : Addr) (ka : ClassId) (c0 c1 c2 c3 : Int32) (h0 : Heap) (n0 : Nat) (Z0 : n0 ≤ h0.size) (A : Arv Z h0 a ka .char (4 : Int32) [.int c0, .int c1, .int c2, .int c3] (.int (0 : Int32))) (hq0 : Chr c0) (hq1 : Chr c1) (hq2 : Chr c2) (hq3 : Chr c3) (hU : ((255 : Int32) < c0) ∨ (¬ (255 : Int32) < c0 ∧ (255 : Int32) < c1) ∨ (¬ (255 : Int32) < c0 ∧ ¬ (255 : Int32) < c1 ∧ (255 : Int32) < c2) ∨ (¬ (255 : Int32) < c0 ∧ ¬ (255 : Int32) < c1 ∧ ¬ (255 : Int32) < c2 ∧ (255 : Int32) < c3)) (X0 : Old Z n0 h0) (AD : Sta Z Z.heap "java/lang/StringUTF16" "$assertionsDisabled" "Z" (.int (1 : Int32))) (HB : Sta Z Z.heap "java/lang/StringUTF16" "HI_BYTE_SHIFT" "I" (.int (0 : Int32))) (LB : Sta Z Z.heap "java/lang/StringUTF16" "LO_BYTE_SHIFT" "I" (.int (8 : Int32))) :
    Met l Z consts_1 [] (⟨"java/lang/StringUTF16", "compress", "([CII)[B"⟩ : MethodName) jdk_52_method_16_code 6 (Option.some (FieldType.array FieldType.byte)) [] ({ frames := 3, cells := 2, slots := 12, locals := 58 } : Room) #[(.ref a), (.int (0 : Int32)), (.int (4 : Int32))] h0 n0 (fun v h => ∃ b kb, v = some (.ref b) ∧ h0.size ≤ b ∧ Keep h0 h [] ∧ Arv Z h b kb .byte (8 : Int32) [(.int (nar .byte (c0 >>> ((0 : Int32) &&& 31)).toInt8.toInt32)), (.int (nar .byte (c0 >>> ((8 : Int32) &&& 31)).toInt8.toInt32)), (.int (nar .byte (c1 >>> ((0 : Int32) &&& 31)).toInt8.toInt32)), (.int (nar .byte (c1 >>> ((8 : Int32) &&& 31)).toInt8.toInt32)), (.int (nar .byte (c2 >>> ((0 : Int32) &&& 31)).toInt8.toInt32)), (.int (nar .byte (c2 >>> ((8 : Int32) &&& 31)).toInt8.toInt32)), (.int (nar .byte (c3 >>> ((0 : Int32) &&& 31)).toInt8.toInt32)), (.int (nar .byte (c3 >>> ((8 : Int32) &&& 31)).toInt8.toInt32))] (.int (0 : Int32))) := by
  rcases hU with hk | ⟨hp0, hk⟩ | ⟨hp0, hp1, hk⟩ | ⟨hp0, hp1, hp2, hk⟩
  · exact rmDU4_0 l Z a0 hw hel a ka c0 c1 c2 c3 h0 n0 Z0 A hq0 hq1 hq2 hq3  hk X0 AD HB LB
  · exact rmDU4_1 l Z a0 hw hel a ka c0 c1 c2 c3 h0 n0 Z0 A hq0 hq1 hq2 hq3 hp0 hk X0 AD HB LB
  · exact rmDU4_2 l Z a0 hw hel a ka c0 c1 c2 c3 h0 n0 Z0 A hq0 hq1 hq2 hq3 hp0 hp1 hk X0 AD HB LB
  · exact rmDU4_3 l Z a0 hw hel a ka c0 c1 c2 c3 h0 n0 Z0 A hq0 hq1 hq2 hq3 hp0 hp1 hp2 hk X0 AD HB LB
theorem rmKU4 (l : Launch) (Z : State) (a0 : Array Value) (hw : ∀ d ∈ tables_1, d.before a0 Z = true) (hel : EW Z a0 consts_1) (b : Addr) (kb : ClassId) (vs : List Value) (h0 : Heap) (n0 : Nat) (Z0 : n0 ≤ h0.size) (B : Arv Z h0 b kb .byte (8 : Int32) vs (.int (0 : Int32))) :
    Met l Z consts_1 [] (⟨"java/lang/StringUTF16", "coderFromArrayLen", "([BI)B"⟩ : MethodName) jdk_52_method_15_code 2 (Option.some FieldType.byte) [] ({ frames := 0, cells := 0, slots := 0, locals := 0 } : Room) #[(.ref b), (.int (4 : Int32))] h0 n0 (fun v h => v = some (.int (1 : Int32)) ∧ h0 = h) := by
  refine Met.of (Ls0 := #[.val (.ref b), .val (.int (4 : Int32))]) pl_0 (by first | (simp [argsToLocals, Value.category]; done) | rfl) hel ?_
  intro p e s m below meth c hx hby hml hret hlk hown hnm hZ
  refine Go.iloadN (q := 1) hx (hb hby d9_0) rfl rfl ?_
  refine Go.aloadN (q := 2) hx (hb hby d9_1) rfl (by rfl) rfl ?_
  refine Go.alen (q := 3) hx hZ B (hb hby d9_2) rfl ?_
  refine Go.isub (q := 4) hx (hb hby d9_3) rfl ?_
  refine Go.bipush (q := 6) (z := (31 : Int32)) hx (hb hby d9_4) rfl rfl ?_
  refine Go.iushr (q := 7) hx (hb hby d9_6) rfl ?_
  refine Go.i2b (q := 8) hx (hb hby d9_7) rfl ?_
  refine Go.retN hx (t := .byte) hret (by simp) hlk (hb hby d9_8) (by decide) (by decide) ?_
  exact ⟨congrArg (fun z => some (Value.int z)) (by decide), rfl⟩
theorem rmSU4 (l : Launch) (Z : State) (a0 : Array Value) (hw : ∀ d ∈ tables_1, d.before a0 Z = true) (hel : EW Z a0 consts_1) (sa a : Addr) (ka : ClassId) (cst : Int32) (c0 c1 c2 c3 : Int32) (h0 : Heap) (n0 : Nat) (Z0 : n0 ≤ h0.size) (gs : n0 ≤ sa) (nas : a ≠ sa) (E : Exa Z h0 sa "java/lang/String") (F1 : Fld Z h0 sa "java/lang/String" "value" "[B" .null) (F2 : Fld Z h0 sa "java/lang/String" "coder" "B" (.int (0 : Int32))) (A : Arv Z h0 a ka .char (4 : Int32) [.int c0, .int c1, .int c2, .int c3] (.int (0 : Int32))) (hq0 : Chr c0) (hq1 : Chr c1) (hq2 : Chr c2) (hq3 : Chr c3) (hU : ((255 : Int32) < c0) ∨ (¬ (255 : Int32) < c0 ∧ (255 : Int32) < c1) ∨ (¬ (255 : Int32) < c0 ∧ ¬ (255 : Int32) < c1 ∧ (255 : Int32) < c2) ∨ (¬ (255 : Int32) < c0 ∧ ¬ (255 : Int32) < c1 ∧ ¬ (255 : Int32) < c2 ∧ (255 : Int32) < c3)) (X0 : Old Z n0 h0) (SC : Sta Z Z.heap "java/lang/String" "COMPACT_STRINGS" "Z" (.int cst)) (hcs : ¬ cst = (0 : Int32)) (AD : Sta Z Z.heap "java/lang/StringUTF16" "$assertionsDisabled" "Z" (.int (1 : Int32))) (HB : Sta Z Z.heap "java/lang/StringUTF16" "HI_BYTE_SHIFT" "I" (.int (0 : Int32))) (LB : Sta Z Z.heap "java/lang/StringUTF16" "LO_BYTE_SHIFT" "I" (.int (8 : Int32))) :
    Met l Z consts_1 [sa] (⟨"java/lang/String", "<init>", "([CIILjava/lang/Void;)V"⟩ : MethodName) jdk_42_method_149_code 6 (Option.none : Option FieldType) [] ({ frames := 4, cells := 2, slots := 12, locals := 81 } : Room) #[(.ref sa), (.ref a), (.int (0 : Int32)), (.int (4 : Int32)), .null] h0 n0 (fun v h => v = none ∧ Keep h0 h [sa] ∧ ∃ b kb, h0.size ≤ b ∧ Fld Z h sa "java/lang/String" "value" "[B" (.ref b) ∧ Fld Z h sa "java/lang/String" "coder" "B" (.int (1 : Int32)) ∧ Arv Z h b kb .byte (8 : Int32) [(.int (nar .byte (c0 >>> ((0 : Int32) &&& 31)).toInt8.toInt32)), (.int (nar .byte (c0 >>> ((8 : Int32) &&& 31)).toInt8.toInt32)), (.int (nar .byte (c1 >>> ((0 : Int32) &&& 31)).toInt8.toInt32)), (.int (nar .byte (c1 >>> ((8 : Int32) &&& 31)).toInt8.toInt32)), (.int (nar .byte (c2 >>> ((0 : Int32) &&& 31)).toInt8.toInt32)), (.int (nar .byte (c2 >>> ((8 : Int32) &&& 31)).toInt8.toInt32)), (.int (nar .byte (c3 >>> ((0 : Int32) &&& 31)).toInt8.toInt32)), (.int (nar .byte (c3 >>> ((8 : Int32) &&& 31)).toInt8.toInt32))] (.int (0 : Int32))) := by
  refine Met.of (Ls0 := #[.val (.ref sa), .val (.ref a), .val (.int (0 : Int32)), .val (.int (4 : Int32)), .val .null, .unset]) pl_1 (by first | (simp [argsToLocals, Value.category]; done) | rfl) hel ?_
  have hSA : ∀ d ∈ Bundle.stringAtoms, d.before a0 Z = true := fun d hd => hw d ((by decide +kernel : ∀ d ∈ Bundle.stringAtoms, d ∈ tables_1) d hd)
  intro p e s m below meth c hx hby hml hret hlk hown hnm hZ
  refine Go.aloadN (q := 1) hx (hb hby d2_0) rfl (by rfl) rfl ?_
  refine Go.initO (q := 4) hx hZ hown (tw hw 17 rfl) (tw hw 18 rfl) (tw hw 19 rfl) (by rw [hml]; rfl) (hb hby d2_1) rfl (by decide) (ble rfl) ?_
  refine Go.iloadN (q := 5) hx (hb hby d2_4) rfl rfl ?_
  refine Go.if_ne (q := 8) (t := 27) hx (hb hby d2_5) (by decide) rfl rfl (fun hc5 => ?_) (fun hc5 => absurd hc5 (by decide))
  refine Go.getS (q := 30) hx hZ hown (host := "") (Or.inl (tw hw 42 rfl)) Via.refl (Sta.ext X0.2 SC) (hb hby d2_27) rfl ?_
  refine Go.if_eq (q := 33) (t := 58) hx (hb hby d2_30) (by decide) rfl rfl (fun hc30 => absurd hc30 hcs) (fun hc30 => ?_)
  refine Go.aloadN (q := 34) hx (hb hby d2_33) rfl (by rfl) rfl ?_
  refine Go.iloadN (q := 35) hx (hb hby d2_34) rfl rfl ?_
  refine Go.iloadN (q := 36) hx (hb hby d2_35) rfl rfl ?_
  refine Go.callS (q := 39) hx hZ (argsL := [(.ref a), (.int (0 : Int32)), (.int (4 : Int32))]) (rest := []) hown (tw hw 43 rfl) (tw hw 44 rfl) (tw hw 45 rfl) (tw hw 46 rfl) (by decide) (rmDU4 l Z a0 hw hel a ka c0 c1 c2 c3 h0 n0 Z0 A hq0 hq1 hq2 hq3 hU X0 AD HB LB) (fun _ hx => nomatch hx) (by rw [hml]; rfl) pd_1 rfl rfl (hb hby d2_36) rfl (by decide) (ble rfl) (ce' := 2) (sl' := 12) rfl rfl (by decide) (by decide) (fun v766 h767 hQ768 => ?_)
  have lt774 := (E).lt
  obtain ⟨b769, k770, rfl, g771, K772, V773⟩ := hQ768
  have ne775 : sa ≠ b769 := Nat.ne_of_lt (Nat.lt_of_lt_of_le lt774 g771)
  show Go _ _ _ _ _ _ _ _ _ _ _ _ _ _ _ _ _ _ _ _ 2 12 39 #[.val (.ref sa), .val (.ref a), .val (.int (0 : Int32)), .val (.int (4 : Int32)), .val .null, .unset] [(.ref b769)]
  refine Go.astore (q := 41) (l' := #[.val (.ref sa), .val (.ref a), .val (.int (0 : Int32)), .val (.int (4 : Int32)), .val .null, .val (.ref b769)]) hx (hb hby d2_39) (by rfl) rfl rfl ?_
  refine Go.aloadN (q := 42) hx (hb hby d2_41) rfl (by rfl) rfl ?_
  refine Go.aload (q := 44) hx (hb hby d2_42) rfl (by rfl) rfl ?_
  refine Go.iloadN (q := 45) hx (hb hby d2_44) rfl rfl ?_
  refine Go.callS (q := 48) hx hZ (argsL := [(.ref b769), (.int (4 : Int32))]) (rest := [(.ref sa)]) hown (tw hw 50 rfl) (tw hw 51 rfl) (tw hw 45 rfl) (tw hw 52 rfl) (by decide) (rmKU4 l Z a0 hw hel b769 k770 _ h767 n0 (Nat.le_trans Z0 K772.1) V773) (fun _ hx => nomatch hx) (by rw [hml]; rfl) pd_2 rfl rfl (hb hby d2_45) rfl (by decide) (ble rfl) (ce' := 2) (sl' := 12) rfl rfl (by decide) (by decide) (fun v776 h777 hQ778 => ?_)
  obtain ⟨rfl, rfl⟩ := hQ778
  show Go _ _ _ _ _ _ _ _ _ _ _ _ _ _ _ _ _ _ _ _ 2 12 48 #[.val (.ref sa), .val (.ref a), .val (.int (0 : Int32)), .val (.int (4 : Int32)), .val .null, .val (.ref b769)] [(.int (1 : Int32)), (.ref sa)]
  refine Go.putF (q := 51) hx hZ hown (host := "") (Or.inl (tw hw 27 rfl)) Via.refl (F2.keep K772 nin0) (E.keep K772) (Or.inr ⟨(tw hw 23 rfl), rfl, hnm⟩) (tw hw 7 rfl) (ty := .byte) (by decide) rfl rfl gs (by simp) (hb hby d2_48) rfl (fun h779 W780 => ?_)
  refine Go.aloadN (q := 52) hx (hb hby d2_51) rfl (by rfl) rfl ?_
  refine Go.aload (q := 54) hx (hb hby d2_52) rfl (by rfl) rfl ?_
  refine Go.putF (q := 57) hx hZ hown (host := "") (Or.inl (tw hw 26 rfl)) Via.refl (Fld.other W780 (F1.keep K772 nin0) (Or.inr (slot_ne (C := "java/lang/String") (Or.inr (tw hw 22 rfl)) (Or.inr (tw hw 23 rfl)) (by decide) (by decide : _ = some (.array .byte)) (by decide : _ = some .byte)))) (Exa.wr W780 (E.keep K772)) (Or.inr ⟨(tw hw 22 rfl), rfl, hnm⟩) (tw hw 7 rfl) (ty := (.array .byte)) (by decide) rfl rfl gs (by simp) (hb hby d2_54) rfl (fun h781 W782 => ?_)
  refine Go.ret0 hx hret hlk (hb hby d2_57) (by decide) (by decide) ?_
  exact ⟨rfl, (((Keep.trans (Keep.refl h0 [sa]) K772 all0).wr W780 (Or.inl (by simp))).wr W782 (Or.inl (by simp))), b769, k770, g771, (Fld.same W782 (Fld.other W780 (F1.keep K772 nin0) (Or.inr (slot_ne (C := "java/lang/String") (Or.inr (tw hw 22 rfl)) (Or.inr (tw hw 23 rfl)) (by decide) (by decide : _ = some (.array .byte)) (by decide : _ = some .byte))))), (Fld.other W782 (Fld.same W780 (F2.keep K772 nin0)) (Or.inr (slot_ne (C := "java/lang/String") (Or.inr (tw hw 23 rfl)) (Or.inr (tw hw 22 rfl)) (by decide) (by decide : _ = some .byte) (by decide : _ = some (.array .byte))))), ((V773.other W780 ne775.symm).other W782 ne775.symm)⟩
theorem rmIU4 (l : Launch) (Z : State) (a0 : Array Value) (hw : ∀ d ∈ tables_1, d.before a0 Z = true) (hel : EW Z a0 consts_1) (sa a : Addr) (ka : ClassId) (cst : Int32) (c0 c1 c2 c3 : Int32) (h0 : Heap) (n0 : Nat) (Z0 : n0 ≤ h0.size) (gs : n0 ≤ sa) (nas : a ≠ sa) (E : Exa Z h0 sa "java/lang/String") (F1 : Fld Z h0 sa "java/lang/String" "value" "[B" .null) (F2 : Fld Z h0 sa "java/lang/String" "coder" "B" (.int (0 : Int32))) (A : Arv Z h0 a ka .char (4 : Int32) [.int c0, .int c1, .int c2, .int c3] (.int (0 : Int32))) (hq0 : Chr c0) (hq1 : Chr c1) (hq2 : Chr c2) (hq3 : Chr c3) (hU : ((255 : Int32) < c0) ∨ (¬ (255 : Int32) < c0 ∧ (255 : Int32) < c1) ∨ (¬ (255 : Int32) < c0 ∧ ¬ (255 : Int32) < c1 ∧ (255 : Int32) < c2) ∨ (¬ (255 : Int32) < c0 ∧ ¬ (255 : Int32) < c1 ∧ ¬ (255 : Int32) < c2 ∧ (255 : Int32) < c3)) (X0 : Old Z n0 h0) (SC : Sta Z Z.heap "java/lang/String" "COMPACT_STRINGS" "Z" (.int cst)) (hcs : ¬ cst = (0 : Int32)) (AD : Sta Z Z.heap "java/lang/StringUTF16" "$assertionsDisabled" "Z" (.int (1 : Int32))) (HB : Sta Z Z.heap "java/lang/StringUTF16" "HI_BYTE_SHIFT" "I" (.int (0 : Int32))) (LB : Sta Z Z.heap "java/lang/StringUTF16" "LO_BYTE_SHIFT" "I" (.int (8 : Int32))) :
    Met l Z consts_1 [sa] (⟨"java/lang/String", "<init>", "([C)V"⟩ : MethodName) jdk_42_method_3_code 2 (Option.none : Option FieldType) [] ({ frames := 5, cells := 2, slots := 12, locals := 104 } : Room) #[(.ref sa), (.ref a)] h0 n0 (fun v h => v = none ∧ Keep h0 h [sa] ∧ ∃ b kb, h0.size ≤ b ∧ Fld Z h sa "java/lang/String" "value" "[B" (.ref b) ∧ Fld Z h sa "java/lang/String" "coder" "B" (.int (1 : Int32)) ∧ Arv Z h b kb .byte (8 : Int32) [(.int (nar .byte (c0 >>> ((0 : Int32) &&& 31)).toInt8.toInt32)), (.int (nar .byte (c0 >>> ((8 : Int32) &&& 31)).toInt8.toInt32)), (.int (nar .byte (c1 >>> ((0 : Int32) &&& 31)).toInt8.toInt32)), (.int (nar .byte (c1 >>> ((8 : Int32) &&& 31)).toInt8.toInt32)), (.int (nar .byte (c2 >>> ((0 : Int32) &&& 31)).toInt8.toInt32)), (.int (nar .byte (c2 >>> ((8 : Int32) &&& 31)).toInt8.toInt32)), (.int (nar .byte (c3 >>> ((0 : Int32) &&& 31)).toInt8.toInt32)), (.int (nar .byte (c3 >>> ((8 : Int32) &&& 31)).toInt8.toInt32))] (.int (0 : Int32))) := by
  refine Met.of (Ls0 := #[.val (.ref sa), .val (.ref a)]) pl_2 (by first | (simp [argsToLocals, Value.category]; done) | rfl) hel ?_
  intro p e s m below meth c hx hby hml hret hlk hown hnm hZ
  refine Go.aloadN (q := 1) hx (hb hby d1_0) rfl (by rfl) rfl ?_
  refine Go.aloadN (q := 2) hx (hb hby d1_1) rfl (by rfl) rfl ?_
  refine Go.iconst (q := 3) (z := (0 : Int32)) hx (hb hby d1_2) rfl rfl ?_
  refine Go.aloadN (q := 4) hx (hb hby d1_3) rfl (by rfl) rfl ?_
  refine Go.alen (q := 5) hx hZ A (hb hby d1_4) rfl ?_
  refine Go.aconstNull (q := 6) hx (hb hby d1_5) rfl ?_
  refine Go.callI (q := 9) hx hZ (a := sa) (argsL := [(.ref a), (.int (0 : Int32)), (.int (4 : Int32)), .null]) (rest := []) hown rfl (tw hw 13 rfl) (tw hw 14 rfl) (tw hw 8 rfl) (tw hw 16 rfl) (by decide) (rmSU4 l Z a0 hw hel sa a ka cst c0 c1 c2 c3 h0 n0 Z0 gs nas E F1 F2 A hq0 hq1 hq2 hq3 hU X0 SC hcs AD HB LB) (by simp) (by rw [hml]; rfl) pd_3 rfl rfl (hb hby d1_6) rfl (by decide) (ble rfl) (ce' := 2) (sl' := 12) rfl rfl (by decide) (by decide) (fun v783 h784 hQ785 => ?_)
  obtain ⟨rfl, K786, Y787⟩ := hQ785
  show Go _ _ _ _ _ _ _ _ _ _ _ _ _ _ _ _ _ _ _ _ 2 12 9 #[.val (.ref sa), .val (.ref a)] []
  refine Go.ret0 hx hret hlk (hb hby d1_9) (by decide) (by decide) ?_
  exact ⟨rfl, (Keep.trans (Keep.refl h0 [sa]) K786 (allS (Or.inl (by simp)) all0)), Y787⟩
theorem lu4 (c0 c1 c2 c3 : Int32) : (¬ (255 : Int32) < c0 ∧ ¬ (255 : Int32) < c1 ∧ ¬ (255 : Int32) < c2 ∧ ¬ (255 : Int32) < c3) ∨ (((255 : Int32) < c0) ∨ (¬ (255 : Int32) < c0 ∧ (255 : Int32) < c1) ∨ (¬ (255 : Int32) < c0 ∧ ¬ (255 : Int32) < c1 ∧ (255 : Int32) < c2) ∨ (¬ (255 : Int32) < c0 ∧ ¬ (255 : Int32) < c1 ∧ ¬ (255 : Int32) < c2 ∧ (255 : Int32) < c3)) := if h0 : (255 : Int32) < c0 then Or.inr (Or.inl h0) else if h1 : (255 : Int32) < c1 then Or.inr (Or.inr (Or.inl ⟨h0, h1⟩)) else if h2 : (255 : Int32) < c2 then Or.inr (Or.inr (Or.inr (Or.inl ⟨h0, h1, h2⟩))) else if h3 : (255 : Int32) < c3 then Or.inr (Or.inr (Or.inr (Or.inr ⟨h0, h1, h2, h3⟩))) else Or.inl ⟨h0, h1, h2, h3⟩
theorem d14_0 : decode jdk_41_method_11_code 0 = .ok (.iload_n 0, 1) := by decide +kernel
theorem d14_1 : decode jdk_41_method_11_code 1 = .ok (.ifCond .lt 8, 3) := by decide +kernel
theorem d14_4 : decode jdk_41_method_11_code 4 = .ok (.iload_n 0, 1) := by decide +kernel
theorem d14_5 : decode jdk_41_method_11_code 5 = .ok (.iload_n 1, 1) := by decide +kernel
theorem d14_6 : decode jdk_41_method_11_code 6 = .ok (.if_icmp .lt 10, 3) := by decide +kernel
theorem d14_9 : decode jdk_41_method_11_code 9 = .ok (.aload_n 2, 1) := by decide +kernel
theorem d14_10 : decode jdk_41_method_11_code 10 = .ok (.iload_n 0, 1) := by decide +kernel
theorem d14_11 : decode jdk_41_method_11_code 11 = .ok (.iload_n 1, 1) := by decide +kernel
theorem d14_12 : decode jdk_41_method_11_code 12 = .ok (.invokestatic 95, 3) := by decide +kernel
theorem d14_15 : decode jdk_41_method_11_code 15 = .ok (.athrow, 1) := by decide +kernel
theorem d14_16 : decode jdk_41_method_11_code 16 = .ok (.iload_n 0, 1) := by decide +kernel
theorem d14_17 : decode jdk_41_method_11_code 17 = .ok (.ireturn, 1) := by decide +kernel
theorem pl_10 : plainFor (⟨"jdk/internal/util/Preconditions", "checkIndex", "(IILjava/util/function/BiFunction;)I"⟩ : MethodName) = true := plainFor_of_name (by first | (simp [plainName, overriddenIn]; done) | decide +kernel)
theorem rmPC (l : Launch) (Z : State) (a0 : Array Value) (hw : ∀ d ∈ tables_1, d.before a0 Z = true) (hel : EW Z a0 consts_1) (i n : Int32) (fv : Value) (h0 : Heap) (n0 : Nat) (Z0 : n0 ≤ h0.size) (h1 : ¬ i < 0) (h2 : i < n) (hfv : fv.isRef = true) :
    Met l Z consts_1 [] (⟨"jdk/internal/util/Preconditions", "checkIndex", "(IILjava/util/function/BiFunction;)I"⟩ : MethodName) jdk_41_method_11_code 3 (Option.some FieldType.int) [] ({ frames := 0, cells := 0, slots := 0, locals := 0 } : Room) #[(.int i), (.int n), fv] h0 n0 (fun v h => v = some (.int i) ∧ h0 = h) := by
  refine Met.of (Ls0 := #[.val (.int i), .val (.int n), .val fv]) pl_10 (by rcases ref_cases hfv with rfl | ⟨_, rfl⟩ <;> first | (simp [argsToLocals, Value.category]; done) | rfl) hel ?_
  intro p e s m below meth c hx hby hml hret hlk hown hnm hZ
  refine Go.iloadN (q := 1) hx (hb hby d14_0) rfl rfl ?_
  refine Go.if_lt (q := 4) (t := 9) hx (hb hby d14_1) (by decide) rfl rfl (fun hc1 => absurd hc1 h1) (fun hc1 => ?_)
  refine Go.iloadN (q := 5) hx (hb hby d14_4) rfl rfl ?_
  refine Go.iloadN (q := 6) hx (hb hby d14_5) rfl rfl ?_
  refine Go.icmp_lt (q := 9) (t := 16) hx (hb hby d14_6) (by decide) rfl rfl (fun hc6 => ?_) (fun hc6 => absurd h2 hc6)
  refine Go.iloadN (q := 17) hx (hb hby d14_16) rfl rfl ?_
  refine Go.retI hx hret hlk (hb hby d14_17) (by decide) (by decide) ?_
  exact ⟨rfl, rfl⟩
theorem d13_0 : decode jdk_42_method_155_code 0 = .ok (.iload_n 0, 1) := by decide +kernel
theorem d13_1 : decode jdk_42_method_155_code 1 = .ok (.iload_n 1, 1) := by decide +kernel
theorem d13_2 : decode jdk_42_method_155_code 2 = .ok (.getstatic 1053, 3) := by decide +kernel
theorem d13_5 : decode jdk_42_method_155_code 5 = .ok (.invokestatic 1059, 3) := by decide +kernel
theorem d13_8 : decode jdk_42_method_155_code 8 = .ok (.pop, 1) := by decide +kernel
theorem d13_9 : decode jdk_42_method_155_code 9 = .ok (.return_, 1) := by decide +kernel
theorem pl_11 : plainFor (⟨"java/lang/String", "checkIndex", "(II)V"⟩ : MethodName) = true := plainFor_of_name (by first | (simp [plainName, overriddenIn]; done) | decide +kernel)
theorem pd_10 : parseMethodDescriptor "(IILjava/util/function/BiFunction;)I" = some ⟨[.int, .int, (.object "java/util/function/BiFunction")], some .int⟩ := by decide +kernel
theorem rmX (l : Launch) (Z : State) (a0 : Array Value) (hw : ∀ d ∈ tables_1, d.before a0 Z = true) (hel : EW Z a0 consts_1) (i n : Int32) (fv : Value) (h0 : Heap) (n0 : Nat) (Z0 : n0 ≤ h0.size) (h1 : ¬ i < 0) (h2 : i < n) (X0 : Old Z n0 h0) (PF : Sta Z Z.heap "jdk/internal/util/Preconditions" "SIOOBE_FORMATTER" "Ljava/util/function/BiFunction;" fv) (hfv : fv.isRef = true) :
    Met l Z consts_1 [] (⟨"java/lang/String", "checkIndex", "(II)V"⟩ : MethodName) jdk_42_method_155_code 2 (Option.none : Option FieldType) [] ({ frames := 1, cells := 0, slots := 0, locals := 20 } : Room) #[(.int i), (.int n)] h0 n0 (fun v h => v = none ∧ h0 = h) := by
  refine Met.of (Ls0 := #[.val (.int i), .val (.int n)]) pl_11 (by first | (simp [argsToLocals, Value.category]; done) | rfl) hel ?_
  intro p e s m below meth c hx hby hml hret hlk hown hnm hZ
  refine Go.iloadN (q := 1) hx (hb hby d13_0) rfl rfl ?_
  refine Go.iloadN (q := 2) hx (hb hby d13_1) rfl rfl ?_
  refine Go.getS (q := 5) hx hZ hown (host := "") (Or.inl (tw hw 70 rfl)) Via.refl (Sta.ext X0.2 PF) (hb hby d13_2) rfl ?_
  refine Go.callS (q := 8) hx hZ (argsL := [(.int i), (.int n), fv]) (rest := []) hown (tw hw 72 rfl) (tw hw 73 rfl) (tw hw 71 rfl) (tw hw 74 rfl) (by decide) (rmPC l Z a0 hw hel i n fv h0 n0 Z0 h1 h2 hfv) (fun _ hx => nomatch hx) (by rw [hml]; rfl) pd_10 rfl rfl (hb hby d13_5) rfl (by decide) (ble rfl) (ce' := 0) (sl' := 0) rfl rfl (by decide) (by decide) (fun v788 h789 hQ790 => ?_)
  obtain ⟨rfl, rfl⟩ := hQ790
  show Go _ _ _ _ _ _ _ _ _ _ _ _ _ _ _ _ _ _ _ _ 0 0 8 #[.val (.int i), .val (.int n)] [(.int i)]
  refine Go.pop (q := 9) hx (hb hby d13_8) rfl rfl ?_
  refine Go.ret0 hx hret hlk (hb hby d13_9) (by decide) (by decide) ?_
  exact ⟨rfl, rfl⟩
theorem d6_0 : decode jdk_42_method_152_code 0 = .ok (.getstatic 38, 3) := by decide +kernel
theorem d6_3 : decode jdk_42_method_152_code 3 = .ok (.ifCond .eq 10, 3) := by decide +kernel
theorem d6_6 : decode jdk_42_method_152_code 6 = .ok (.aload_n 0, 1) := by decide +kernel
theorem d6_7 : decode jdk_42_method_152_code 7 = .ok (.getfield 15, 3) := by decide +kernel
theorem d6_10 : decode jdk_42_method_152_code 10 = .ok (.goto 4, 3) := by decide +kernel
theorem d6_13 : decode jdk_42_method_152_code 13 = .ok (.iconst 1, 1) := by decide +kernel
theorem d6_14 : decode jdk_42_method_152_code 14 = .ok (.ireturn, 1) := by decide +kernel
theorem pl_12 : plainFor (⟨"java/lang/String", "coder", "()B"⟩ : MethodName) = true := plainFor_of_name (by first | (simp [plainName, overriddenIn]; done) | decide +kernel)
theorem rmCo0 (l : Launch) (Z : State) (a0 : Array Value) (hw : ∀ d ∈ tables_1, d.before a0 Z = true) (hel : EW Z a0 consts_1) (sa : Addr) (cst : Int32) (h0 : Heap) (n0 : Nat) (Z0 : n0 ≤ h0.size) (F2 : Fld Z h0 sa "java/lang/String" "coder" "B" (.int (0 : Int32))) (X0 : Old Z n0 h0) (SC : Sta Z Z.heap "java/lang/String" "COMPACT_STRINGS" "Z" (.int cst)) (hcs : ¬ cst = (0 : Int32)) :
    Met l Z consts_1 [] (⟨"java/lang/String", "coder", "()B"⟩ : MethodName) jdk_42_method_152_code 1 (Option.some FieldType.byte) [] ({ frames := 0, cells := 0, slots := 0, locals := 0 } : Room) #[(.ref sa)] h0 n0 (fun v h => v = some (.int (0 : Int32)) ∧ h0 = h) := by
  refine Met.of (Ls0 := #[.val (.ref sa)]) pl_12 (by first | (simp [argsToLocals, Value.category]; done) | rfl) hel ?_
  intro p e s m below meth c hx hby hml hret hlk hown hnm hZ
  refine Go.getS (q := 3) hx hZ hown (host := "") (Or.inl (tw hw 42 rfl)) Via.refl (Sta.ext X0.2 SC) (hb hby d6_0) rfl ?_
  refine Go.if_eq (q := 6) (t := 13) hx (hb hby d6_3) (by decide) rfl rfl (fun hc3 => absurd hc3 hcs) (fun hc3 => ?_)
  refine Go.aloadN (q := 7) hx (hb hby d6_6) rfl (by rfl) rfl ?_
  refine Go.getF (q := 10) hx hZ hown (host := "") (Or.inl (tw hw 27 rfl)) Via.refl F2 (hb hby d6_7) rfl ?_
  refine Go.goto (q := 14) hx (hb hby d6_10) (by decide) rfl ?_
  refine Go.retN hx (t := .byte) hret (by simp) hlk (hb hby d6_14) (by decide) (by decide) ?_
  exact ⟨rfl, rfl⟩
theorem d11_0 : decode jdk_42_method_154_code 0 = .ok (.getstatic 38, 3) := by decide +kernel
theorem d11_3 : decode jdk_42_method_154_code 3 = .ok (.ifCond .eq 14, 3) := by decide +kernel
theorem d11_6 : decode jdk_42_method_154_code 6 = .ok (.aload_n 0, 1) := by decide +kernel
theorem d11_7 : decode jdk_42_method_154_code 7 = .ok (.getfield 15, 3) := by decide +kernel
theorem d11_10 : decode jdk_42_method_154_code 10 = .ok (.ifCond .ne 7, 3) := by decide +kernel
theorem d11_13 : decode jdk_42_method_154_code 13 = .ok (.iconst 1, 1) := by decide +kernel
theorem d11_14 : decode jdk_42_method_154_code 14 = .ok (.goto 4, 3) := by decide +kernel
theorem d11_17 : decode jdk_42_method_154_code 17 = .ok (.iconst 0, 1) := by decide +kernel
theorem d11_18 : decode jdk_42_method_154_code 18 = .ok (.ireturn, 1) := by decide +kernel
theorem pl_13 : plainFor (⟨"java/lang/String", "isLatin1", "()Z"⟩ : MethodName) = true := plainFor_of_name (by first | (simp [plainName, overriddenIn]; done) | decide +kernel)
theorem rmIs0 (l : Launch) (Z : State) (a0 : Array Value) (hw : ∀ d ∈ tables_1, d.before a0 Z = true) (hel : EW Z a0 consts_1) (sa : Addr) (cst : Int32) (h0 : Heap) (n0 : Nat) (Z0 : n0 ≤ h0.size) (F2 : Fld Z h0 sa "java/lang/String" "coder" "B" (.int (0 : Int32))) (X0 : Old Z n0 h0) (SC : Sta Z Z.heap "java/lang/String" "COMPACT_STRINGS" "Z" (.int cst)) (hcs : ¬ cst = (0 : Int32)) :
    Met l Z consts_1 [] (⟨"java/lang/String", "isLatin1", "()Z"⟩ : MethodName) jdk_42_method_154_code 1 (Option.some FieldType.boolean) [] ({ frames := 0, cells := 0, slots := 0, locals := 0 } : Room) #[(.ref sa)] h0 n0 (fun v h => v = some (.int (1 : Int32)) ∧ h0 = h) := by
  refine Met.of (Ls0 := #[.val (.ref sa)]) pl_13 (by first | (simp [argsToLocals, Value.category]; done) | rfl) hel ?_
  intro p e s m below meth c hx hby hml hret hlk hown hnm hZ
  refine Go.getS (q := 3) hx hZ hown (host := "") (Or.inl (tw hw 42 rfl)) Via.refl (Sta.ext X0.2 SC) (hb hby d11_0) rfl ?_
  refine Go.if_eq (q := 6) (t := 17) hx (hb hby d11_3) (by decide) rfl rfl (fun hc3 => absurd hc3 hcs) (fun hc3 => ?_)
  refine Go.aloadN (q := 7) hx (hb hby d11_6) rfl (by rfl) rfl ?_
  refine Go.getF (q := 10) hx hZ hown (host := "") (Or.inl (tw hw 27 rfl)) Via.refl F2 (hb hby d11_7) rfl ?_
  refine Go.if_ne (q := 13) (t := 17) hx (hb hby d11_10) (by decide) rfl rfl (fun hc10 => absurd hc10 (by decide)) (fun hc10 => ?_)
  refine Go.iconst (q := 14) (z := (1 : Int32)) hx (hb hby d11_13) rfl rfl ?_
  refine Go.goto (q := 18) hx (hb hby d11_14) (by decide) rfl ?_
  refine Go.retN hx (t := .boolean) hret (by simp) hlk (hb hby d11_18) (by decide) (by decide) ?_
  exact ⟨rfl, rfl⟩
theorem rmCo1 (l : Launch) (Z : State) (a0 : Array Value) (hw : ∀ d ∈ tables_1, d.before a0 Z = true) (hel : EW Z a0 consts_1) (sa : Addr) (cst : Int32) (h0 : Heap) (n0 : Nat) (Z0 : n0 ≤ h0.size) (F2 : Fld Z h0 sa "java/lang/String" "coder" "B" (.int (1 : Int32))) (X0 : Old Z n0 h0) (SC : Sta Z Z.heap "java/lang/String" "COMPACT_STRINGS" "Z" (.int cst)) (hcs : ¬ cst = (0 : Int32)) :
    Met l Z consts_1 [] (⟨"java/lang/String", "coder", "()B"⟩ : MethodName) jdk_42_method_152_code 1 (Option.some FieldType.byte) [] ({ frames := 0, cells := 0, slots := 0, locals := 0 } : Room) #[(.ref sa)] h0 n0 (fun v h => v = some (.int (1 : Int32)) ∧ h0 = h) := by
  refine Met.of (Ls0 := #[.val (.ref sa)]) pl_12 (by first | (simp [argsToLocals, Value.category]; done) | rfl) hel ?_
  intro p e s m below meth c hx hby hml hret hlk hown hnm hZ
  refine Go.getS (q := 3) hx hZ hown (host := "") (Or.inl (tw hw 42 rfl)) Via.refl (Sta.ext X0.2 SC) (hb hby d6_0) rfl ?_
  refine Go.if_eq (q := 6) (t := 13) hx (hb hby d6_3) (by decide) rfl rfl (fun hc3 => absurd hc3 hcs) (fun hc3 => ?_)
  refine Go.aloadN (q := 7) hx (hb hby d6_6) rfl (by rfl) rfl ?_
  refine Go.getF (q := 10) hx hZ hown (host := "") (Or.inl (tw hw 27 rfl)) Via.refl F2 (hb hby d6_7) rfl ?_
  refine Go.goto (q := 14) hx (hb hby d6_10) (by decide) rfl ?_
  refine Go.retN hx (t := .byte) hret (by simp) hlk (hb hby d6_14) (by decide) (by decide) ?_
  exact ⟨rfl, rfl⟩
theorem rmIs1 (l : Launch) (Z : State) (a0 : Array Value) (hw : ∀ d ∈ tables_1, d.before a0 Z = true) (hel : EW Z a0 consts_1) (sa : Addr) (cst : Int32) (h0 : Heap) (n0 : Nat) (Z0 : n0 ≤ h0.size) (F2 : Fld Z h0 sa "java/lang/String" "coder" "B" (.int (1 : Int32))) (X0 : Old Z n0 h0) (SC : Sta Z Z.heap "java/lang/String" "COMPACT_STRINGS" "Z" (.int cst)) (hcs : ¬ cst = (0 : Int32)) :
    Met l Z consts_1 [] (⟨"java/lang/String", "isLatin1", "()Z"⟩ : MethodName) jdk_42_method_154_code 1 (Option.some FieldType.boolean) [] ({ frames := 0, cells := 0, slots := 0, locals := 0 } : Room) #[(.ref sa)] h0 n0 (fun v h => v = some (.int (0 : Int32)) ∧ h0 = h) := by
  refine Met.of (Ls0 := #[.val (.ref sa)]) pl_13 (by first | (simp [argsToLocals, Value.category]; done) | rfl) hel ?_
  intro p e s m below meth c hx hby hml hret hlk hown hnm hZ
  refine Go.getS (q := 3) hx hZ hown (host := "") (Or.inl (tw hw 42 rfl)) Via.refl (Sta.ext X0.2 SC) (hb hby d11_0) rfl ?_
  refine Go.if_eq (q := 6) (t := 17) hx (hb hby d11_3) (by decide) rfl rfl (fun hc3 => absurd hc3 hcs) (fun hc3 => ?_)
  refine Go.aloadN (q := 7) hx (hb hby d11_6) rfl (by rfl) rfl ?_
  refine Go.getF (q := 10) hx hZ hown (host := "") (Or.inl (tw hw 27 rfl)) Via.refl F2 (hb hby d11_7) rfl ?_
  refine Go.if_ne (q := 13) (t := 17) hx (hb hby d11_10) (by decide) rfl rfl (fun hc10 => ?_) (fun hc10 => absurd hc10 (by decide))
  refine Go.iconst (q := 18) (z := (0 : Int32)) hx (hb hby d11_17) rfl rfl ?_
  refine Go.retN hx (t := .boolean) hret (by simp) hlk (hb hby d11_18) (by decide) (by decide) ?_
  exact ⟨rfl, rfl⟩
theorem d5_0 : decode jdk_42_method_54_code 0 = .ok (.aload_n 0, 1) := by decide +kernel
theorem d5_1 : decode jdk_42_method_54_code 1 = .ok (.getfield 9, 3) := by decide +kernel
theorem d5_4 : decode jdk_42_method_54_code 4 = .ok (.arraylength, 1) := by decide +kernel
theorem d5_5 : decode jdk_42_method_54_code 5 = .ok (.aload_n 0, 1) := by decide +kernel
theorem d5_6 : decode jdk_42_method_54_code 6 = .ok (.invokevirtual 335, 3) := by decide +kernel
theorem d5_9 : decode jdk_42_method_54_code 9 = .ok (.ishr, 1) := by decide +kernel
theorem d5_10 : decode jdk_42_method_54_code 10 = .ok (.ireturn, 1) := by decide +kernel
theorem pl_14 : plainFor (⟨"java/lang/String", "length", "()I"⟩ : MethodName) = true := plainFor_of_name (by first | (simp [plainName, overriddenIn]; done) | decide +kernel)
theorem pd_11 : parseMethodDescriptor "()B" = some ⟨[], some .byte⟩ := by decide +kernel
theorem rmLe0_0 (l : Launch) (Z : State) (a0 : Array Value) (hw : ∀ d ∈ tables_1, d.before a0 Z = true) (hel : EW Z a0 consts_1) (sa b : Addr) (kb : ClassId) (cst : Int32) (fv : Value)  (h0 : Heap) (n0 : Nat) (Z0 : n0 ≤ h0.size) (E : Exa Z h0 sa "java/lang/String") (F1 : Fld Z h0 sa "java/lang/String" "value" "[B" (.ref b)) (F2 : Fld Z h0 sa "java/lang/String" "coder" "B" (.int (0 : Int32))) (B : Arv Z h0 b kb .byte (0 : Int32) [] (.int (0 : Int32)))   (X0 : Old Z n0 h0) (SC : Sta Z Z.heap "java/lang/String" "COMPACT_STRINGS" "Z" (.int cst)) (hcs : ¬ cst = (0 : Int32)) (AD : Sta Z Z.heap "java/lang/StringUTF16" "$assertionsDisabled" "Z" (.int (1 : Int32))) (HB : Sta Z Z.heap "java/lang/StringUTF16" "HI_BYTE_SHIFT" "I" (.int (0 : Int32))) (LB : Sta Z Z.heap "java/lang/StringUTF16" "LO_BYTE_SHIFT" "I" (.int (8 : Int32))) (PF : Sta Z Z.heap "jdk/internal/util/Preconditions" "SIOOBE_FORMATTER" "Ljava/util/function/BiFunction;" fv) (hfv : fv.isRef = true) :
    Met l Z consts_1 [] (⟨"java/lang/String", "length", "()I"⟩ : MethodName) jdk_42_method_54_code 1 (Option.some FieldType.int) [] ({ frames := 1, cells := 0, slots := 0, locals := 18 } : Room) #[(.ref sa)] h0 n0 (fun v h => v = some (.int (0 : Int32)) ∧ h0 = h) := by
  refine Met.of (Ls0 := #[.val (.ref sa)]) pl_14 (by first | (simp [argsToLocals, Value.category]; done) | rfl) hel ?_
  intro p e s m below meth c hx hby hml hret hlk hown hnm hZ
  refine Go.aloadN (q := 1) hx (hb hby d5_0) rfl (by rfl) rfl ?_
  refine Go.getF (q := 4) hx hZ hown (host := "") (Or.inl (tw hw 26 rfl)) Via.refl F1 (hb hby d5_1) rfl ?_
  refine Go.alen (q := 5) hx hZ B (hb hby d5_4) rfl ?_
  refine Go.aloadN (q := 6) hx (hb hby d5_5) rfl (by rfl) rfl ?_
  refine Go.callV (q := 9) hx hZ (a := sa) (argsL := []) (rest := [(.int (0 : Int32))]) hown (tw hw 37 rfl) (tw hw 38 rfl) (fun vm hzv => notFace_of_selects (args := #[]) (mvT hzv (tw hw 40 rfl))) (tw hw 40 rfl) (tw hw 39 rfl) (tw hw 8 rfl) (tw hw 41 rfl) (by decide) E (rmCo0 l Z a0 hw hel sa cst h0 n0 Z0 F2 X0 SC hcs) (fun _ hx => nomatch hx) (by rw [hml]; rfl) pd_11 rfl rfl (hb hby d5_6) rfl (by decide) (ble rfl) (ce' := 0) (sl' := 0) rfl rfl (by decide) (by decide) (fun v791 h792 hQ793 => ?_)
  obtain ⟨rfl, rfl⟩ := hQ793
  show Go _ _ _ _ _ _ _ _ _ _ _ _ _ _ _ _ _ _ _ _ 0 0 9 #[.val (.ref sa)] [(.int (0 : Int32)), (.int (0 : Int32))]
  refine Go.ishr (q := 10) hx (hb hby d5_9) rfl ?_
  rw [show (0 : Int32) >>> ((0 : Int32) &&& 31) = (0 : Int32) from by decide]
  refine Go.retI hx hret hlk (hb hby d5_10) (by decide) (by decide) ?_
  exact ⟨rfl, rfl⟩
theorem d4_0 : decode prog_59_method_39_code 0 = .ok (.iconst 0, 1) := by decide +kernel
theorem d4_1 : decode prog_59_method_39_code 1 = .ok (.istore_n 1, 1) := by decide +kernel
theorem d4_2 : decode prog_59_method_39_code 2 = .ok (.iload_n 1, 1) := by decide +kernel
theorem d4_3 : decode prog_59_method_39_code 3 = .ok (.aload_n 0, 1) := by decide +kernel
theorem d4_4 : decode prog_59_method_39_code 4 = .ok (.invokevirtual 416, 3) := by decide +kernel
theorem d4_7 : decode prog_59_method_39_code 7 = .ok (.if_icmp .ge 22, 3) := by decide +kernel
theorem d4_10 : decode prog_59_method_39_code 10 = .ok (.aload_n 0, 1) := by decide +kernel
theorem d4_11 : decode prog_59_method_39_code 11 = .ok (.iload_n 1, 1) := by decide +kernel
theorem d4_12 : decode prog_59_method_39_code 12 = .ok (.invokevirtual 421, 3) := by decide +kernel
theorem d4_15 : decode prog_59_method_39_code 15 = .ok (.sipush 128, 3) := by decide +kernel
theorem d4_18 : decode prog_59_method_39_code 18 = .ok (.if_icmp .lt 5, 3) := by decide +kernel
theorem d4_21 : decode prog_59_method_39_code 21 = .ok (.iconst 0, 1) := by decide +kernel
theorem d4_22 : decode prog_59_method_39_code 22 = .ok (.ireturn, 1) := by decide +kernel
theorem d4_23 : decode prog_59_method_39_code 23 = .ok (.iinc 1 1, 3) := by decide +kernel
theorem d4_26 : decode prog_59_method_39_code 26 = .ok (.goto (-24), 3) := by decide +kernel
theorem d4_29 : decode prog_59_method_39_code 29 = .ok (.iconst 1, 1) := by decide +kernel
theorem d4_30 : decode prog_59_method_39_code 30 = .ok (.ireturn, 1) := by decide +kernel
theorem pl_15 : plainFor (⟨"com/example/epithet/epithet/store/MappedTable", "isAscii", "(Ljava/lang/String;)Z"⟩ : MethodName) = true := plainFor_of_name (by first | (simp [plainName, overriddenIn]; done) | decide +kernel)
theorem pd_12 : parseMethodDescriptor "()I" = some ⟨[], some .int⟩ := by decide +kernel
theorem pd_13 : parseMethodDescriptor "(I)C" = some ⟨[.int], some .char⟩ := by decide +kernel
theorem rmAs0_0 (l : Launch) (Z : State) (a0 : Array Value) (hw : ∀ d ∈ tables_1, d.before a0 Z = true) (hel : EW Z a0 consts_1) (sa b : Addr) (kb : ClassId) (cst : Int32) (fv : Value)  (h0 : Heap) (n0 : Nat) (Z0 : n0 ≤ h0.size) (E : Exa Z h0 sa "java/lang/String") (F1 : Fld Z h0 sa "java/lang/String" "value" "[B" (.ref b)) (F2 : Fld Z h0 sa "java/lang/String" "coder" "B" (.int (0 : Int32))) (B : Arv Z h0 b kb .byte (0 : Int32) [] (.int (0 : Int32)))   (X0 : Old Z n0 h0) (SC : Sta Z Z.heap "java/lang/String" "COMPACT_STRINGS" "Z" (.int cst)) (hcs : ¬ cst = (0 : Int32)) (AD : Sta Z Z.heap "java/lang/StringUTF16" "$assertionsDisabled" "Z" (.int (1 : Int32))) (HB : Sta Z Z.heap "java/lang/StringUTF16" "HI_BYTE_SHIFT" "I" (.int (0 : Int32))) (LB : Sta Z Z.heap "java/lang/StringUTF16" "LO_BYTE_SHIFT" "I" (.int (8 : Int32))) (PF : Sta Z Z.heap "jdk/internal/util/Preconditions" "SIOOBE_FORMATTER" "Ljava/util/function/BiFunction;" fv) (hfv : fv.isRef = true) :
    Met l Z consts_1 [] (⟨"com/example/epithet/epithet/store/MappedTable", "isAscii", "(Ljava/lang/String;)Z"⟩ : MethodName) prog_59_method_39_code 2 (Option.some FieldType.boolean) [] ({ frames := 5, cells := 0, slots := 0, locals := 96 } : Room) #[(.ref sa)] h0 n0 (fun v h => v = some (.int (1 : Int32)) ∧ h0 = h) := by
  refine Met.of (Ls0 := #[.val (.ref sa), .unset]) pl_15 (by first | (simp [argsToLocals, Value.category]; done) | rfl) hel ?_
  intro p e s m below meth c hx hby hml hret hlk hown hnm hZ
  refine Go.iconst (q := 1) (z := (0 : Int32)) hx (hb hby d4_0) rfl rfl ?_
  refine Go.istoreN (q := 2) (l' := #[.val (.ref sa), .val (.int (0 : Int32))]) hx (hb hby d4_1) rfl rfl ?_
  refine Go.iloadN (q := 3) hx (hb hby d4_2) rfl rfl ?_
  refine Go.aloadN (q := 4) hx (hb hby d4_3) rfl (by rfl) rfl ?_
  refine Go.callV (q := 7) hx hZ (a := sa) (argsL := []) (rest := [(.int (0 : Int32))]) hown (tw hw 32 rfl) (tw hw 33 rfl) (fun vm hzv => notFace_of_selects (args := #[]) (mvT hzv (tw hw 35 rfl))) (tw hw 35 rfl) (tw hw 34 rfl) (tw hw 8 rfl) (tw hw 36 rfl) (by decide) E (rmLe0_0 l Z a0 hw hel sa b kb cst fv  h0 n0 Z0 E F1 F2 B   X0 SC hcs AD HB LB PF hfv) (fun _ hx => nomatch hx) (by rw [hml]; rfl) pd_12 rfl rfl (hb hby d4_4) rfl (by decide) (ble rfl) (ce' := 0) (sl' := 0) rfl rfl (by decide) (by decide) (fun v794 h795 hQ796 => ?_)
  obtain ⟨rfl, rfl⟩ := hQ796
  show Go _ _ _ _ _ _ _ _ _ _ _ _ _ _ _ _ _ _ _ _ 0 0 7 #[.val (.ref sa), .val (.int (0 : Int32))] [(.int (0 : Int32)), (.int (0 : Int32))]
  refine Go.icmp_ge (q := 10) (t := 29) hx (hb hby d4_7) (by decide) rfl rfl (fun hc7 => ?_) (fun hc7 => absurd hc7 (by decide))
  refine Go.iconst (q := 30) (z := (1 : Int32)) hx (hb hby d4_29) rfl rfl ?_
  refine Go.retN hx (t := .boolean) hret (by simp) hlk (hb hby d4_30) (by decide) (by decide) ?_
  exact ⟨rfl, rfl⟩
def Str0 (Z : State) (h : Heap) (sa : Addr)  : Prop := Exa Z h sa "java/lang/String" ∧ ∃ b kb, Fld Z h sa "java/lang/String" "value" "[B" (.ref b) ∧ ((Fld Z h sa "java/lang/String" "coder" "B" (.int (0 : Int32)) ∧ Arv Z h b kb .byte (0 : Int32) [] (.int (0 : Int32))))
theorem rmAs0 (l : Launch) (Z : State) (a0 : Array Value) (hw : ∀ d ∈ tables_1, d.before a0 Z = true) (hel : EW Z a0 consts_1) (sa : Addr) (cst : Int32) (fv : Value)  (h0 : Heap) (n0 : Nat) (Z0 : n0 ≤ h0.size) (T : Str0 Z h0 sa )  (X0 : Old Z n0 h0) (SC : Sta Z Z.heap "java/lang/String" "COMPACT_STRINGS" "Z" (.int cst)) (hcs : ¬ cst = (0 : Int32)) (AD : Sta Z Z.heap "java/lang/StringUTF16" "$assertionsDisabled" "Z" (.int (1 : Int32))) (HB : Sta Z Z.heap "java/lang/StringUTF16" "HI_BYTE_SHIFT" "I" (.int (0 : Int32))) (LB : Sta Z Z.heap "java/lang/StringUTF16" "LO_BYTE_SHIFT" "I" (.int (8 : Int32))) (PF : Sta Z Z.heap "jdk/internal/util/Preconditions" "SIOOBE_FORMATTER" "Ljava/util/function/BiFunction;" fv) (hfv : fv.isRef = true) :
    Met l Z consts_1 [] (⟨"com/example/epithet/epithet/store/MappedTable", "isAscii", "(Ljava/lang/String;)Z"⟩ : MethodName) prog_59_method_39_code 2 (Option.some FieldType.boolean) [] ({ frames := 5, cells := 0, slots := 0, locals := 96 } : Room) #[(.ref sa)] h0 n0 (fun v h => v = some (.int (1 : Int32)) ∧ h0 = h) := by
  obtain ⟨E, b, kb, F1, F2, B⟩ := T
  exact rmAs0_0 l Z a0 hw hel sa b kb cst fv h0 n0 Z0 E F1 F2 B X0 SC hcs AD HB LB PF hfv
theorem d22_0 : decode jdk_52_method_6_code 0 = .ok (.aload_n 0, 1) := by decide +kernel
theorem d22_1 : decode jdk_52_method_6_code 1 = .ok (.arraylength, 1) := by decide +kernel
theorem d22_2 : decode jdk_52_method_6_code 2 = .ok (.iconst 1, 1) := by decide +kernel
theorem d22_3 : decode jdk_52_method_6_code 3 = .ok (.ishr, 1) := by decide +kernel
theorem d22_4 : decode jdk_52_method_6_code 4 = .ok (.ireturn, 1) := by decide +kernel
theorem pl_16 : plainFor (⟨"java/lang/StringUTF16", "length", "([B)I"⟩ : MethodName) = true := plainFor_of_name (by first | (simp [plainName, overriddenIn]; done) | decide +kernel)
theorem rmUL1 (l : Launch) (Z : State) (a0 : Array Value) (hw : ∀ d ∈ tables_1, d.before a0 Z = true) (hel : EW Z a0 consts_1) (b : Addr) (kb : ClassId) (vs : List Value) (h0 : Heap) (n0 : Nat) (Z0 : n0 ≤ h0.size) (B : Arv Z h0 b kb .byte (2 : Int32) vs (.int (0 : Int32))) :
    Met l Z consts_1 [] (⟨"java/lang/StringUTF16", "length", "([B)I"⟩ : MethodName) jdk_52_method_6_code 1 (Option.some FieldType.int) [] ({ frames := 0, cells := 0, slots := 0, locals := 0 } : Room) #[(.ref b)] h0 n0 (fun v h => v = some (.int (1 : Int32)) ∧ h0 = h) := by
  refine Met.of (Ls0 := #[.val (.ref b)]) pl_16 (by first | (simp [argsToLocals, Value.category]; done) | rfl) hel ?_
  intro p e s m below meth c hx hby hml hret hlk hown hnm hZ
  refine Go.aloadN (q := 1) hx (hb hby d22_0) rfl (by rfl) rfl ?_
  refine Go.alen (q := 2) hx hZ B (hb hby d22_1) rfl ?_
  refine Go.iconst (q := 3) (z := (1 : Int32)) hx (hb hby d22_2) rfl rfl ?_
  refine Go.ishr (q := 4) hx (hb hby d22_3) rfl ?_
  rw [show (2 : Int32) >>> ((1 : Int32) &&& 31) = (1 : Int32) from by decide]
  refine Go.retI hx hret hlk (hb hby d22_4) (by decide) (by decide) ?_
  exact ⟨rfl, rfl⟩
theorem rmLe0_1 (l : Launch) (Z : State) (a0 : Array Value) (hw : ∀ d ∈ tables_1, d.before a0 Z = true) (hel : EW Z a0 consts_1) (sa b : Addr) (kb : ClassId) (cst : Int32) (fv : Value) (c0 : Int32) (h0 : Heap) (n0 : Nat) (Z0 : n0 ≤ h0.size) (E : Exa Z h0 sa "java/lang/String") (F1 : Fld Z h0 sa "java/lang/String" "value" "[B" (.ref b)) (F2 : Fld Z h0 sa "java/lang/String" "coder" "B" (.int (0 : Int32))) (B : Arv Z h0 b kb .byte (1 : Int32) [(.int (nar .byte c0.toInt8.toInt32))] (.int (0 : Int32))) (hq0 : Chr c0) (hp0 : ¬ (255 : Int32) < c0) (X0 : Old Z n0 h0) (SC : Sta Z Z.heap "java/lang/String" "COMPACT_STRINGS" "Z" (.int cst)) (hcs : ¬ cst = (0 : Int32)) (AD : Sta Z Z.heap "java/lang/StringUTF16" "$assertionsDisabled" "Z" (.int (1 : Int32))) (HB : Sta Z Z.heap "java/lang/StringUTF16" "HI_BYTE_SHIFT" "I" (.int (0 : Int32))) (LB : Sta Z Z.heap "java/lang/StringUTF16" "LO_BYTE_SHIFT" "I" (.int (8 : Int32))) (PF : Sta Z Z.heap "jdk/internal/util/Preconditions" "SIOOBE_FORMATTER" "Ljava/util/function/BiFunction;" fv) (hfv : fv.isRef = true) :
    Met l Z consts_1 [] (⟨"java/lang/String", "length", "()I"⟩ : MethodName) jdk_42_method_54_code 1 (Option.some FieldType.int) [] ({ frames := 1, cells := 0, slots := 0, locals := 18 } : Room) #[(.ref sa)] h0 n0 (fun v h => v = some (.int (1 : Int32)) ∧ h0 = h) := by
  refine Met.of (Ls0 := #[.val (.ref sa)]) pl_14 (by first | (simp [argsToLocals, Value.category]; done) | rfl) hel ?_
  intro p e s m below meth c hx hby hml hret hlk hown hnm hZ
  refine Go.aloadN (q := 1) hx (hb hby d5_0) rfl (by rfl) rfl ?_
  refine Go.getF (q := 4) hx hZ hown (host := "") (Or.inl (tw hw 26 rfl)) Via.refl F1 (hb hby d5_1) rfl ?_
  refine Go.alen (q := 5) hx hZ B (hb hby d5_4) rfl ?_
  refine Go.aloadN (q := 6) hx (hb hby d5_5) rfl (by rfl) rfl ?_
  refine Go.callV (q := 9) hx hZ (a := sa) (argsL := []) (rest := [(.int (1 : Int32))]) hown (tw hw 37 rfl) (tw hw 38 rfl) (fun vm hzv => notFace_of_selects (args := #[]) (mvT hzv (tw hw 40 rfl))) (tw hw 40 rfl) (tw hw 39 rfl) (tw hw 8 rfl) (tw hw 41 rfl) (by decide) E (rmCo0 l Z a0 hw hel sa cst h0 n0 Z0 F2 X0 SC hcs) (fun _ hx => nomatch hx) (by rw [hml]; rfl) pd_11 rfl rfl (hb hby d5_6) rfl (by decide) (ble rfl) (ce' := 0) (sl' := 0) rfl rfl (by decide) (by decide) (fun v797 h798 hQ799 => ?_)
  obtain ⟨rfl, rfl⟩ := hQ799
  show Go _ _ _ _ _ _ _ _ _ _ _ _ _ _ _ _ _ _ _ _ 0 0 9 #[.val (.ref sa)] [(.int (0 : Int32)), (.int (1 : Int32))]
  refine Go.ishr (q := 10) hx (hb hby d5_9) rfl ?_
  rw [show (1 : Int32) >>> ((0 : Int32) &&& 31) = (1 : Int32) from by decide]
  refine Go.retI hx hret hlk (hb hby d5_10) (by decide) (by decide) ?_
  exact ⟨rfl, rfl⟩
theorem d12_0 : decode jdk_43_method_2_code 0 = .ok (.iload_n 1, 1) := by decide +kernel
theorem d12_1 : decode jdk_43_method_2_code 1 = .ok (.aload_n 0, 1) := by decide +kernel
theorem d12_2 : decode jdk_43_method_2_code 2 = .ok (.arraylength, 1) := by decide +kernel
theorem d12_3 : decode jdk_43_method_2_code 3 = .ok (.invokestatic 9, 3) := by decide +kernel
theorem d12_6 : decode jdk_43_method_2_code 6 = .ok (.aload_n 0, 1) := by decide +kernel
theorem d12_7 : decode jdk_43_method_2_code 7 = .ok (.iload_n 1, 1) := by decide +kernel
theorem d12_8 : decode jdk_43_method_2_code 8 = .ok (.baload, 1) := by decide +kernel
theorem d12_9 : decode jdk_43_method_2_code 9 = .ok (.sipush 255, 3) := by decide +kernel
theorem d12_12 : decode jdk_43_method_2_code 12 = .ok (.iand, 1) := by decide +kernel
theorem d12_13 : decode jdk_43_method_2_code 13 = .ok (.i2c, 1) := by decide +kernel
theorem d12_14 : decode jdk_43_method_2_code 14 = .ok (.ireturn, 1) := by decide +kernel
theorem pl_17 : plainFor (⟨"java/lang/StringLatin1", "charAt", "([BI)C"⟩ : MethodName) = true := plainFor_of_name (by first | (simp [plainName, overriddenIn]; done) | decide +kernel)
theorem pd_14 : parseMethodDescriptor "(II)V" = some ⟨[.int, .int], none⟩ := by decide +kernel
theorem rmLC1_0 (l : Launch) (Z : State) (a0 : Array Value) (hw : ∀ d ∈ tables_1, d.before a0 Z = true) (hel : EW Z a0 consts_1) (b : Addr) (kb : ClassId) (fv : Value) (c0 : Int32) (h0 : Heap) (n0 : Nat) (Z0 : n0 ≤ h0.size) (B : Arv Z h0 b kb .byte (1 : Int32) [(.int (nar .byte c0.toInt8.toInt32))] (.int (0 : Int32))) (hq0 : Chr c0) (hp0 : ¬ (255 : Int32) < c0) (X0 : Old Z n0 h0) (PF : Sta Z Z.heap "jdk/internal/util/Preconditions" "SIOOBE_FORMATTER" "Ljava/util/function/BiFunction;" fv) (hfv : fv.isRef = true) :
    Met l Z consts_1 [] (⟨"java/lang/StringLatin1", "charAt", "([BI)C"⟩ : MethodName) jdk_43_method_2_code 2 (Option.some FieldType.char) [] ({ frames := 2, cells := 0, slots := 0, locals := 39 } : Room) #[(.ref b), (.int (0 : Int32))] h0 n0 (fun v h => v = some (.int c0) ∧ h0 = h) := by
  refine Met.of (Ls0 := #[.val (.ref b), .val (.int (0 : Int32))]) pl_17 (by first | (simp [argsToLocals, Value.category]; done) | rfl) hel ?_
  intro p e s m below meth c hx hby hml hret hlk hown hnm hZ
  refine Go.iloadN (q := 1) hx (hb hby d12_0) rfl rfl ?_
  refine Go.aloadN (q := 2) hx (hb hby d12_1) rfl (by rfl) rfl ?_
  refine Go.alen (q := 3) hx hZ B (hb hby d12_2) rfl ?_
  refine Go.callS (q := 6) hx hZ (argsL := [(.int (0 : Int32)), (.int (1 : Int32))]) (rest := []) hown (tw hw 67 rfl) (tw hw 68 rfl) (tw hw 8 rfl) (tw hw 69 rfl) (by decide) (rmX l Z a0 hw hel (0 : Int32) (1 : Int32) fv h0 n0 Z0 (by decide) (by decide) X0 PF hfv) (fun _ hx => nomatch hx) (by rw [hml]; rfl) pd_14 rfl rfl (hb hby d12_3) rfl (by decide) (ble rfl) (ce' := 0) (sl' := 0) rfl rfl (by decide) (by decide) (fun v800 h801 hQ802 => ?_)
  obtain ⟨rfl, rfl⟩ := hQ802
  show Go _ _ _ _ _ _ _ _ _ _ _ _ _ _ _ _ _ _ _ _ 0 0 6 #[.val (.ref b), .val (.int (0 : Int32))] []
  refine Go.aloadN (q := 7) hx (hb hby d12_6) rfl (by rfl) rfl ?_
  refine Go.iloadN (q := 8) hx (hb hby d12_7) rfl rfl ?_
  refine Go.baload (q := 9) (v := (.int (nar .byte c0.toInt8.toInt32))) hx hZ B ⟨by decide, by decide⟩ rfl (hb hby d12_8) rfl ?_
  refine Go.sipush (q := 12) (z := (255 : Int32)) hx (hb hby d12_9) rfl rfl ?_
  refine Go.iand (q := 13) hx (hb hby d12_12) rfl ?_
  refine Go.i2c (q := 14) hx (hb hby d12_13) rfl ?_
  refine Go.retN hx (t := .char) hret (by simp) hlk (hb hby d12_14) (by decide) (by decide) ?_
  exact ⟨congrArg (fun z => some (Value.int z)) (lat_ok hq0 hp0), rfl⟩
theorem d10_0 : decode jdk_42_method_56_code 0 = .ok (.aload_n 0, 1) := by decide +kernel
theorem d10_1 : decode jdk_42_method_56_code 1 = .ok (.invokevirtual 492, 3) := by decide +kernel
theorem d10_4 : decode jdk_42_method_56_code 4 = .ok (.ifCond .eq 12, 3) := by decide +kernel
theorem d10_7 : decode jdk_42_method_56_code 7 = .ok (.aload_n 0, 1) := by decide +kernel
theorem d10_8 : decode jdk_42_method_56_code 8 = .ok (.getfield 9, 3) := by decide +kernel
theorem d10_11 : decode jdk_42_method_56_code 11 = .ok (.iload_n 1, 1) := by decide +kernel
theorem d10_12 : decode jdk_42_method_56_code 12 = .ok (.invokestatic 495, 3) := by decide +kernel
theorem d10_15 : decode jdk_42_method_56_code 15 = .ok (.ireturn, 1) := by decide +kernel
theorem d10_16 : decode jdk_42_method_56_code 16 = .ok (.aload_n 0, 1) := by decide +kernel
theorem d10_17 : decode jdk_42_method_56_code 17 = .ok (.getfield 9, 3) := by decide +kernel
theorem d10_20 : decode jdk_42_method_56_code 20 = .ok (.iload_n 1, 1) := by decide +kernel
theorem d10_21 : decode jdk_42_method_56_code 21 = .ok (.invokestatic 498, 3) := by decide +kernel
theorem d10_24 : decode jdk_42_method_56_code 24 = .ok (.ireturn, 1) := by decide +kernel
theorem pl_18 : plainFor (⟨"java/lang/String", "charAt", "(I)C"⟩ : MethodName) = true := plainFor_of_name (by first | (simp [plainName, overriddenIn]; done) | decide +kernel)
theorem pd_15 : parseMethodDescriptor "()Z" = some ⟨[], some .boolean⟩ := by decide +kernel
theorem rmCh0_1_0 (l : Launch) (Z : State) (a0 : Array Value) (hw : ∀ d ∈ tables_1, d.before a0 Z = true) (hel : EW Z a0 consts_1) (sa b : Addr) (kb : ClassId) (cst : Int32) (fv : Value) (c0 : Int32) (h0 : Heap) (n0 : Nat) (Z0 : n0 ≤ h0.size) (E : Exa Z h0 sa "java/lang/String") (F1 : Fld Z h0 sa "java/lang/String" "value" "[B" (.ref b)) (F2 : Fld Z h0 sa "java/lang/String" "coder" "B" (.int (0 : Int32))) (B : Arv Z h0 b kb .byte (1 : Int32) [(.int (nar .byte c0.toInt8.toInt32))] (.int (0 : Int32))) (hq0 : Chr c0) (hp0 : ¬ (255 : Int32) < c0) (X0 : Old Z n0 h0) (SC : Sta Z Z.heap "java/lang/String" "COMPACT_STRINGS" "Z" (.int cst)) (hcs : ¬ cst = (0 : Int32)) (AD : Sta Z Z.heap "java/lang/StringUTF16" "$assertionsDisabled" "Z" (.int (1 : Int32))) (HB : Sta Z Z.heap "java/lang/StringUTF16" "HI_BYTE_SHIFT" "I" (.int (0 : Int32))) (LB : Sta Z Z.heap "java/lang/StringUTF16" "LO_BYTE_SHIFT" "I" (.int (8 : Int32))) (PF : Sta Z Z.heap "jdk/internal/util/Preconditions" "SIOOBE_FORMATTER" "Ljava/util/function/BiFunction;" fv) (hfv : fv.isRef = true) :
    Met l Z consts_1 [] (⟨"java/lang/String", "charAt", "(I)C"⟩ : MethodName) jdk_42_method_56_code 2 (Option.some FieldType.char) [] ({ frames := 4, cells := 0, slots := 0, locals := 77 } : Room) #[(.ref sa), (.int (0 : Int32))] h0 n0 (fun v h => v = some (.int c0) ∧ h0 = h) := by
  refine Met.of (Ls0 := #[.val (.ref sa), .val (.int (0 : Int32))]) pl_18 (by first | (simp [argsToLocals, Value.category]; done) | rfl) hel ?_
  intro p e s m below meth c hx hby hml hret hlk hown hnm hZ
  refine Go.aloadN (q := 1) hx (hb hby d10_0) rfl (by rfl) rfl ?_
  refine Go.callV (q := 4) hx hZ (a := sa) (argsL := []) (rest := []) hown (tw hw 58 rfl) (tw hw 59 rfl) (fun vm hzv => notFace_of_selects (args := #[]) (mvT hzv (tw hw 61 rfl))) (tw hw 61 rfl) (tw hw 60 rfl) (tw hw 8 rfl) (tw hw 62 rfl) (by decide) E (rmIs0 l Z a0 hw hel sa cst h0 n0 Z0 F2 X0 SC hcs) (fun _ hx => nomatch hx) (by rw [hml]; rfl) pd_15 rfl rfl (hb hby d10_1) rfl (by decide) (ble rfl) (ce' := 0) (sl' := 0) rfl rfl (by decide) (by decide) (fun v803 h804 hQ805 => ?_)
  obtain ⟨rfl, rfl⟩ := hQ805
  show Go _ _ _ _ _ _ _ _ _ _ _ _ _ _ _ _ _ _ _ _ 0 0 4 #[.val (.ref sa), .val (.int (0 : Int32))] [(.int (1 : Int32))]
  refine Go.if_eq (q := 7) (t := 16) hx (hb hby d10_4) (by decide) rfl rfl (fun hc4 => absurd hc4 (by decide)) (fun hc4 => ?_)
  refine Go.aloadN (q := 8) hx (hb hby d10_7) rfl (by rfl) rfl ?_
  refine Go.getF (q := 11) hx hZ hown (host := "") (Or.inl (tw hw 26 rfl)) Via.refl F1 (hb hby d10_8) rfl ?_
  refine Go.iloadN (q := 12) hx (hb hby d10_11) rfl rfl ?_
  refine Go.callS (q := 15) hx hZ (argsL := [(.ref b), (.int (0 : Int32))]) (rest := []) hown (tw hw 63 rfl) (tw hw 64 rfl) (tw hw 65 rfl) (tw hw 66 rfl) (by decide) (rmLC1_0 l Z a0 hw hel b kb fv c0 h0 n0 Z0 B hq0 hp0 X0 PF hfv) (fun _ hx => nomatch hx) (by rw [hml]; rfl) pd_5 rfl rfl (hb hby d10_12) rfl (by decide) (ble rfl) (ce' := 0) (sl' := 0) rfl rfl (by decide) (by decide) (fun v806 h807 hQ808 => ?_)
  obtain ⟨rfl, rfl⟩ := hQ808
  show Go _ _ _ _ _ _ _ _ _ _ _ _ _ _ _ _ _ _ _ _ 0 0 15 #[.val (.ref sa), .val (.int (0 : Int32))] [(.int c0)]
  refine Go.retN hx (t := .char) hret (by simp) hlk (hb hby d10_15) (by decide) (by decide) ?_
  exact ⟨congrArg (fun z => some (Value.int z)) (nar_chr hq0), rfl⟩
theorem rmAs0_1 (l : Launch) (Z : State) (a0 : Array Value) (hw : ∀ d ∈ tables_1, d.before a0 Z = true) (hel : EW Z a0 consts_1) (sa b : Addr) (kb : ClassId) (cst : Int32) (fv : Value) (c0 : Int32) (h0 : Heap) (n0 : Nat) (Z0 : n0 ≤ h0.size) (E : Exa Z h0 sa "java/lang/String") (F1 : Fld Z h0 sa "java/lang/String" "value" "[B" (.ref b)) (F2 : Fld Z h0 sa "java/lang/String" "coder" "B" (.int (0 : Int32))) (B : Arv Z h0 b kb .byte (1 : Int32) [(.int (nar .byte c0.toInt8.toInt32))] (.int (0 : Int32))) (hq0 : Chr c0) (hp0 : ¬ (255 : Int32) < c0) (X0 : Old Z n0 h0) (SC : Sta Z Z.heap "java/lang/String" "COMPACT_STRINGS" "Z" (.int cst)) (hcs : ¬ cst = (0 : Int32)) (AD : Sta Z Z.heap "java/lang/StringUTF16" "$assertionsDisabled" "Z" (.int (1 : Int32))) (HB : Sta Z Z.heap "java/lang/StringUTF16" "HI_BYTE_SHIFT" "I" (.int (0 : Int32))) (LB : Sta Z Z.heap "java/lang/StringUTF16" "LO_BYTE_SHIFT" "I" (.int (8 : Int32))) (PF : Sta Z Z.heap "jdk/internal/util/Preconditions" "SIOOBE_FORMATTER" "Ljava/util/function/BiFunction;" fv) (hfv : fv.isRef = true) :
    Met l Z consts_1 [] (⟨"com/example/epithet/epithet/store/MappedTable", "isAscii", "(Ljava/lang/String;)Z"⟩ : MethodName) prog_59_method_39_code 2 (Option.some FieldType.boolean) [] ({ frames := 5, cells := 0, slots := 0, locals := 96 } : Room) #[(.ref sa)] h0 n0 (fun v h => v = some (.int (if c0 < (128 : Int32) then (1 : Int32) else (0 : Int32))) ∧ h0 = h) := by
  refine Met.of (Ls0 := #[.val (.ref sa), .unset]) pl_15 (by first | (simp [argsToLocals, Value.category]; done) | rfl) hel ?_
  intro p e s m below meth c hx hby hml hret hlk hown hnm hZ
  refine Go.iconst (q := 1) (z := (0 : Int32)) hx (hb hby d4_0) rfl rfl ?_
  refine Go.istoreN (q := 2) (l' := #[.val (.ref sa), .val (.int (0 : Int32))]) hx (hb hby d4_1) rfl rfl ?_
  refine Go.iloadN (q := 3) hx (hb hby d4_2) rfl rfl ?_
  refine Go.aloadN (q := 4) hx (hb hby d4_3) rfl (by rfl) rfl ?_
  refine Go.callV (q := 7) hx hZ (a := sa) (argsL := []) (rest := [(.int (0 : Int32))]) hown (tw hw 32 rfl) (tw hw 33 rfl) (fun vm hzv => notFace_of_selects (args := #[]) (mvT hzv (tw hw 35 rfl))) (tw hw 35 rfl) (tw hw 34 rfl) (tw hw 8 rfl) (tw hw 36 rfl) (by decide) E (rmLe0_1 l Z a0 hw hel sa b kb cst fv c0 h0 n0 Z0 E F1 F2 B hq0 hp0 X0 SC hcs AD HB LB PF hfv) (fun _ hx => nomatch hx) (by rw [hml]; rfl) pd_12 rfl rfl (hb hby d4_4) rfl (by decide) (ble rfl) (ce' := 0) (sl' := 0) rfl rfl (by decide) (by decide) (fun v809 h810 hQ811 => ?_)
  obtain ⟨rfl, rfl⟩ := hQ811
  show Go _ _ _ _ _ _ _ _ _ _ _ _ _ _ _ _ _ _ _ _ 0 0 7 #[.val (.ref sa), .val (.int (0 : Int32))] [(.int (1 : Int32)), (.int (0 : Int32))]
  refine Go.icmp_ge (q := 10) (t := 29) hx (hb hby d4_7) (by decide) rfl rfl (fun hc7 => absurd hc7 (by decide)) (fun hc7 => ?_)
  refine Go.aloadN (q := 11) hx (hb hby d4_10) rfl (by rfl) rfl ?_
  refine Go.iloadN (q := 12) hx (hb hby d4_11) rfl rfl ?_
  refine Go.callV (q := 15) hx hZ (a := sa) (argsL := [(.int (0 : Int32))]) (rest := []) hown (tw hw 53 rfl) (tw hw 54 rfl) (fun vm hzv => notFace_of_selects (args := #[]) (mvT hzv (tw hw 56 rfl))) (tw hw 56 rfl) (tw hw 55 rfl) (tw hw 8 rfl) (tw hw 57 rfl) (by decide) E (rmCh0_1_0 l Z a0 hw hel sa b kb cst fv c0 h0 n0 Z0 E F1 F2 B hq0 hp0 X0 SC hcs AD HB LB PF hfv) (fun _ hx => nomatch hx) (by rw [hml]; rfl) pd_13 rfl rfl (hb hby d4_12) rfl (by decide) (ble rfl) (ce' := 0) (sl' := 0) rfl rfl (by decide) (by decide) (fun v812 h813 hQ814 => ?_)
  obtain ⟨rfl, rfl⟩ := hQ814
  show Go _ _ _ _ _ _ _ _ _ _ _ _ _ _ _ _ _ _ _ _ 0 0 15 #[.val (.ref sa), .val (.int (0 : Int32))] [(.int c0)]
  refine Go.sipush (q := 18) (z := (128 : Int32)) hx (hb hby d4_15) rfl rfl ?_
  refine Go.icmp_lt (q := 21) (t := 23) hx (hb hby d4_18) (by decide) rfl rfl (fun hc18 => ?_) (fun hc18 => ?_)
  · skip
    refine Go.iinc (q := 26) (l' := #[.val (.ref sa), .val (.int ((0 : Int32) + (1 : Int32)))]) hx (hb hby d4_23) rfl rfl rfl ?_
    refine Go.goto (q := 2) hx (hb hby d4_26) (by decide) rfl ?_
    rw [show (0 : Int32) + (1 : Int32) = (1 : Int32) from by decide]
    refine Go.iloadN (q := 3) hx (hb hby d4_2) rfl rfl ?_
    refine Go.aloadN (q := 4) hx (hb hby d4_3) rfl (by rfl) rfl ?_
    refine Go.callV (q := 7) hx hZ (a := sa) (argsL := []) (rest := [(.int (1 : Int32))]) hown (tw hw 32 rfl) (tw hw 33 rfl) (fun vm hzv => notFace_of_selects (args := #[]) (mvT hzv (tw hw 35 rfl))) (tw hw 35 rfl) (tw hw 34 rfl) (tw hw 8 rfl) (tw hw 36 rfl) (by decide) E (rmLe0_1 l Z a0 hw hel sa b kb cst fv c0 h0 n0 Z0 E F1 F2 B hq0 hp0 X0 SC hcs AD HB LB PF hfv) (fun _ hx => nomatch hx) (by rw [hml]; rfl) pd_12 rfl rfl (hb hby d4_4) rfl (by decide) (ble rfl) (ce' := 0) (sl' := 0) rfl rfl (by decide) (by decide) (fun v815 h816 hQ817 => ?_)
    obtain ⟨rfl, rfl⟩ := hQ817
    show Go _ _ _ _ _ _ _ _ _ _ _ _ _ _ _ _ _ _ _ _ 0 0 7 #[.val (.ref sa), .val (.int (1 : Int32))] [(.int (1 : Int32)), (.int (1 : Int32))]
    refine Go.icmp_ge (q := 10) (t := 29) hx (hb hby d4_7) (by decide) rfl rfl (fun hc7_1 => ?_) (fun hc7_1 => absurd hc7_1 (by decide))
    refine Go.iconst (q := 30) (z := (1 : Int32)) hx (hb hby d4_29) rfl rfl ?_
    refine Go.retN hx (t := .boolean) hret (by simp) hlk (hb hby d4_30) (by decide) (by decide) ?_
    exact ⟨congrArg (fun z => some (Value.int z)) ((if_pos hc18).symm : (1 : Int32) = _), rfl⟩
  · skip
    refine Go.iconst (q := 22) (z := (0 : Int32)) hx (hb hby d4_21) rfl rfl ?_
    refine Go.retN hx (t := .boolean) hret (by simp) hlk (hb hby d4_22) (by decide) (by decide) ?_
    exact ⟨congrArg (fun z => some (Value.int z)) ((if_neg (fun q => absurd q hc18)).symm : (0 : Int32) = _), rfl⟩
theorem rmLe1_1 (l : Launch) (Z : State) (a0 : Array Value) (hw : ∀ d ∈ tables_1, d.before a0 Z = true) (hel : EW Z a0 consts_1) (sa b : Addr) (kb : ClassId) (cst : Int32) (fv : Value) (c0 : Int32) (h0 : Heap) (n0 : Nat) (Z0 : n0 ≤ h0.size) (E : Exa Z h0 sa "java/lang/String") (F1 : Fld Z h0 sa "java/lang/String" "value" "[B" (.ref b)) (F2 : Fld Z h0 sa "java/lang/String" "coder" "B" (.int (1 : Int32))) (B : Arv Z h0 b kb .byte (2 : Int32) [(.int (nar .byte (c0 >>> ((0 : Int32) &&& 31)).toInt8.toInt32)), (.int (nar .byte (c0 >>> ((8 : Int32) &&& 31)).toInt8.toInt32))] (.int (0 : Int32))) (hq0 : Chr c0) (X0 : Old Z n0 h0) (SC : Sta Z Z.heap "java/lang/String" "COMPACT_STRINGS" "Z" (.int cst)) (hcs : ¬ cst = (0 : Int32)) (AD : Sta Z Z.heap "java/lang/StringUTF16" "$assertionsDisabled" "Z" (.int (1 : Int32))) (HB : Sta Z Z.heap "java/lang/StringUTF16" "HI_BYTE_SHIFT" "I" (.int (0 : Int32))) (LB : Sta Z Z.heap "java/lang/StringUTF16" "LO_BYTE_SHIFT" "I" (.int (8 : Int32))) (PF : Sta Z Z.heap "jdk/internal/util/Preconditions" "SIOOBE_FORMATTER" "Ljava/util/function/BiFunction;" fv) (hfv : fv.isRef = true) :
    Met l Z consts_1 [] (⟨"java/lang/String", "length", "()I"⟩ : MethodName) jdk_42_method_54_code 1 (Option.some FieldType.int) [] ({ frames := 1, cells := 0, slots := 0, locals := 18 } : Room) #[(.ref sa)] h0 n0 (fun v h => v = some (.int (1 : Int32)) ∧ h0 = h) := by
  refine Met.of (Ls0 := #[.val (.ref sa)]) pl_14 (by first | (simp [argsToLocals, Value.category]; done) | rfl) hel ?_
  intro p e s m below meth c hx hby hml hret hlk hown hnm hZ
  refine Go.aloadN (q := 1) hx (hb hby d5_0) rfl (by rfl) rfl ?_
  refine Go.getF (q := 4) hx hZ hown (host := "") (Or.inl (tw hw 26 rfl)) Via.refl F1 (hb hby d5_1) rfl ?_
  refine Go.alen (q := 5) hx hZ B (hb hby d5_4) rfl ?_
  refine Go.aloadN (q := 6) hx (hb hby d5_5) rfl (by rfl) rfl ?_
  refine Go.callV (q := 9) hx hZ (a := sa) (argsL := []) (rest := [(.int (2 : Int32))]) hown (tw hw 37 rfl) (tw hw 38 rfl) (fun vm hzv => notFace_of_selects (args := #[]) (mvT hzv (tw hw 40 rfl))) (tw hw 40 rfl) (tw hw 39 rfl) (tw hw 8 rfl) (tw hw 41 rfl) (by decide) E (rmCo1 l Z a0 hw hel sa cst h0 n0 Z0 F2 X0 SC hcs) (fun _ hx => nomatch hx) (by rw [hml]; rfl) pd_11 rfl rfl (hb hby d5_6) rfl (by decide) (ble rfl) (ce' := 0) (sl' := 0) rfl rfl (by decide) (by decide) (fun v818 h819 hQ820 => ?_)
  obtain ⟨rfl, rfl⟩ := hQ820
  show Go _ _ _ _ _ _ _ _ _ _ _ _ _ _ _ _ _ _ _ _ 0 0 9 #[.val (.ref sa)] [(.int (1 : Int32)), (.int (2 : Int32))]
  refine Go.ishr (q := 10) hx (hb hby d5_9) rfl ?_
  rw [show (2 : Int32) >>> ((1 : Int32) &&& 31) = (1 : Int32) from by decide]
  refine Go.retI hx hret hlk (hb hby d5_10) (by decide) (by decide) ?_
  exact ⟨rfl, rfl⟩
theorem d21_0 : decode jdk_52_method_91_code 0 = .ok (.iload_n 0, 1) := by decide +kernel
theorem d21_1 : decode jdk_52_method_91_code 1 = .ok (.aload_n 1, 1) := by decide +kernel
theorem d21_2 : decode jdk_52_method_91_code 2 = .ok (.invokestatic 48, 3) := by decide +kernel
theorem d21_5 : decode jdk_52_method_91_code 5 = .ok (.invokestatic 414, 3) := by decide +kernel
theorem d21_8 : decode jdk_52_method_91_code 8 = .ok (.return_, 1) := by decide +kernel
theorem pl_19 : plainFor (⟨"java/lang/StringUTF16", "checkIndex", "(I[B)V"⟩ : MethodName) = true := plainFor_of_name (by first | (simp [plainName, overriddenIn]; done) | decide +kernel)
theorem rmUI1_0 (l : Launch) (Z : State) (a0 : Array Value) (hw : ∀ d ∈ tables_1, d.before a0 Z = true) (hel : EW Z a0 consts_1) (b : Addr) (kb : ClassId) (fv : Value) (c0 : Int32) (h0 : Heap) (n0 : Nat) (Z0 : n0 ≤ h0.size) (B : Arv Z h0 b kb .byte (2 : Int32) [(.int (nar .byte (c0 >>> ((0 : Int32) &&& 31)).toInt8.toInt32)), (.int (nar .byte (c0 >>> ((8 : Int32) &&& 31)).toInt8.toInt32))] (.int (0 : Int32))) (hq0 : Chr c0) (X0 : Old Z n0 h0) (AD : Sta Z Z.heap "java/lang/StringUTF16" "$assertionsDisabled" "Z" (.int (1 : Int32))) (HB : Sta Z Z.heap "java/lang/StringUTF16" "HI_BYTE_SHIFT" "I" (.int (0 : Int32))) (LB : Sta Z Z.heap "java/lang/StringUTF16" "LO_BYTE_SHIFT" "I" (.int (8 : Int32))) (PF : Sta Z Z.heap "jdk/internal/util/Preconditions" "SIOOBE_FORMATTER" "Ljava/util/function/BiFunction;" fv) (hfv : fv.isRef = true) :
    Met l Z consts_1 [] (⟨"java/lang/StringUTF16", "checkIndex", "(I[B)V"⟩ : MethodName) jdk_52_method_91_code 2 (Option.none : Option FieldType) [] ({ frames := 2, cells := 0, slots := 0, locals := 39 } : Room) #[(.int (0 : Int32)), (.ref b)] h0 n0 (fun v h => v = none ∧ h0 = h) := by
  refine Met.of (Ls0 := #[.val (.int (0 : Int32)), .val (.ref b)]) pl_19 (by first | (simp [argsToLocals, Value.category]; done) | rfl) hel ?_
  intro p e s m below meth c hx hby hml hret hlk hown hnm hZ
  refine Go.iloadN (q := 1) hx (hb hby d21_0) rfl rfl ?_
  refine Go.aloadN (q := 2) hx (hb hby d21_1) rfl (by rfl) rfl ?_
  refine Go.callS (q := 5) hx hZ (argsL := [(.ref b)]) (rest := [(.int (0 : Int32))]) hown (tw hw 100 rfl) (tw hw 101 rfl) (tw hw 45 rfl) (tw hw 102 rfl) (by decide) (rmUL1 l Z a0 hw hel b kb _ h0 n0 Z0 B) (fun _ hx => nomatch hx) (by rw [hml]; rfl) pd_7 rfl rfl (hb hby d21_2) rfl (by decide) (ble rfl) (ce' := 0) (sl' := 0) rfl rfl (by decide) (by decide) (fun v821 h822 hQ823 => ?_)
  obtain ⟨rfl, rfl⟩ := hQ823
  show Go _ _ _ _ _ _ _ _ _ _ _ _ _ _ _ _ _ _ _ _ 0 0 5 #[.val (.int (0 : Int32)), .val (.ref b)] [(.int (1 : Int32)), (.int (0 : Int32))]
  refine Go.callS (q := 8) hx hZ (argsL := [(.int (0 : Int32)), (.int (1 : Int32))]) (rest := []) hown (tw hw 103 rfl) (tw hw 68 rfl) (tw hw 8 rfl) (tw hw 69 rfl) (by decide) (rmX l Z a0 hw hel (0 : Int32) (1 : Int32) fv h0 n0 Z0 (by decide) (by decide) X0 PF hfv) (fun _ hx => nomatch hx) (by rw [hml]; rfl) pd_14 rfl rfl (hb hby d21_5) rfl (by decide) (ble rfl) (ce' := 0) (sl' := 0) rfl rfl (by decide) (by decide) (fun v824 h825 hQ826 => ?_)
  obtain ⟨rfl, rfl⟩ := hQ826
  show Go _ _ _ _ _ _ _ _ _ _ _ _ _ _ _ _ _ _ _ _ 0 0 8 #[.val (.int (0 : Int32)), .val (.ref b)] []
  refine Go.ret0 hx hret hlk (hb hby d21_8) (by decide) (by decide) ?_
  exact ⟨rfl, rfl⟩
theorem d20_0 : decode jdk_52_method_83_code 0 = .ok (.iload_n 1, 1) := by decide +kernel
theorem d20_1 : decode jdk_52_method_83_code 1 = .ok (.aload_n 0, 1) := by decide +kernel
theorem d20_2 : decode jdk_52_method_83_code 2 = .ok (.invokestatic 67, 3) := by decide +kernel
theorem d20_5 : decode jdk_52_method_83_code 5 = .ok (.aload_n 0, 1) := by decide +kernel
theorem d20_6 : decode jdk_52_method_83_code 6 = .ok (.iload_n 1, 1) := by decide +kernel
theorem d20_7 : decode jdk_52_method_83_code 7 = .ok (.invokestatic 71, 3) := by decide +kernel
theorem d20_10 : decode jdk_52_method_83_code 10 = .ok (.ireturn, 1) := by decide +kernel
theorem pl_20 : plainFor (⟨"java/lang/StringUTF16", "charAt", "([BI)C"⟩ : MethodName) = true := plainFor_of_name (by first | (simp [plainName, overriddenIn]; done) | decide +kernel)
theorem pd_16 : parseMethodDescriptor "(I[B)V" = some ⟨[.int, (.array .byte)], none⟩ := by decide +kernel
theorem rmUC1_0 (l : Launch) (Z : State) (a0 : Array Value) (hw : ∀ d ∈ tables_1, d.before a0 Z = true) (hel : EW Z a0 consts_1) (b : Addr) (kb : ClassId) (fv : Value) (c0 : Int32) (h0 : Heap) (n0 : Nat) (Z0 : n0 ≤ h0.size) (B : Arv Z h0 b kb .byte (2 : Int32) [(.int (nar .byte (c0 >>> ((0 : Int32) &&& 31)).toInt8.toInt32)), (.int (nar .byte (c0 >>> ((8 : Int32) &&& 31)).toInt8.toInt32))] (.int (0 : Int32))) (hq0 : Chr c0) (X0 : Old Z n0 h0) (AD : Sta Z Z.heap "java/lang/StringUTF16" "$assertionsDisabled" "Z" (.int (1 : Int32))) (HB : Sta Z Z.heap "java/lang/StringUTF16" "HI_BYTE_SHIFT" "I" (.int (0 : Int32))) (LB : Sta Z Z.heap "java/lang/StringUTF16" "LO_BYTE_SHIFT" "I" (.int (8 : Int32))) (PF : Sta Z Z.heap "jdk/internal/util/Preconditions" "SIOOBE_FORMATTER" "Ljava/util/function/BiFunction;" fv) (hfv : fv.isRef = true) :
    Met l Z consts_1 [] (⟨"java/lang/StringUTF16", "charAt", "([BI)C"⟩ : MethodName) jdk_52_method_83_code 2 (Option.some FieldType.char) [] ({ frames := 3, cells := 0, slots := 0, locals := 58 } : Room) #[(.ref b), (.int (0 : Int32))] h0 n0 (fun v h => v = some (.int c0) ∧ h0 = h) := by
  refine Met.of (Ls0 := #[.val (.ref b), .val (.int (0 : Int32))]) pl_20 (by first | (simp [argsToLocals, Value.category]; done) | rfl) hel ?_
  intro p e s m below meth c hx hby hml hret hlk hown hnm hZ
  refine Go.iloadN (q := 1) hx (hb hby d20_0) rfl rfl ?_
  refine Go.aloadN (q := 2) hx (hb hby d20_1) rfl (by rfl) rfl ?_
  refine Go.callS (q := 5) hx hZ (argsL := [(.int (0 : Int32)), (.ref b)]) (rest := []) hown (tw hw 97 rfl) (tw hw 98 rfl) (tw hw 45 rfl) (tw hw 99 rfl) (by decide) (rmUI1_0 l Z a0 hw hel b kb fv c0 h0 n0 Z0 B hq0 X0 AD HB LB PF hfv) (fun _ hx => nomatch hx) (by rw [hml]; rfl) pd_16 rfl rfl (hb hby d20_2) rfl (by decide) (ble rfl) (ce' := 0) (sl' := 0) rfl rfl (by decide) (by decide) (fun v827 h828 hQ829 => ?_)
  obtain ⟨rfl, rfl⟩ := hQ829
  show Go _ _ _ _ _ _ _ _ _ _ _ _ _ _ _ _ _ _ _ _ 0 0 5 #[.val (.ref b), .val (.int (0 : Int32))] []
  refine Go.aloadN (q := 6) hx (hb hby d20_5) rfl (by rfl) rfl ?_
  refine Go.iloadN (q := 7) hx (hb hby d20_6) rfl rfl ?_
  refine Go.callS (q := 10) hx hZ (argsL := [(.ref b), (.int (0 : Int32))]) (rest := []) hown (tw hw 91 rfl) (tw hw 92 rfl) (tw hw 45 rfl) (tw hw 93 rfl) (by decide) (rmG1_0 l Z a0 hw hel b kb c0 h0 n0 Z0 B hq0 X0 AD HB LB) (fun _ hx => nomatch hx) (by rw [hml]; rfl) pd_5 rfl rfl (hb hby d20_7) rfl (by decide) (ble rfl) (ce' := 0) (sl' := 0) rfl rfl (by decide) (by decide) (fun v830 h831 hQ832 => ?_)
  obtain ⟨rfl, rfl⟩ := hQ832
  show Go _ _ _ _ _ _ _ _ _ _ _ _ _ _ _ _ _ _ _ _ 0 0 10 #[.val (.ref b), .val (.int (0 : Int32))] [(.int c0)]
  refine Go.retN hx (t := .char) hret (by simp) hlk (hb hby d20_10) (by decide) (by decide) ?_
  exact ⟨congrArg (fun z => some (Value.int z)) (nar_chr hq0), rfl⟩
theorem rmCh1_1_0 (l : Launch) (Z : State) (a0 : Array Value) (hw : ∀ d ∈ tables_1, d.before a0 Z = true) (hel : EW Z a0 consts_1) (sa b : Addr) (kb : ClassId) (cst : Int32) (fv : Value) (c0 : Int32) (h0 : Heap) (n0 : Nat) (Z0 : n0 ≤ h0.size) (E : Exa Z h0 sa "java/lang/String") (F1 : Fld Z h0 sa "java/lang/String" "value" "[B" (.ref b)) (F2 : Fld Z h0 sa "java/lang/String" "coder" "B" (.int (1 : Int32))) (B : Arv Z h0 b kb .byte (2 : Int32) [(.int (nar .byte (c0 >>> ((0 : Int32) &&& 31)).toInt8.toInt32)), (.int (nar .byte (c0 >>> ((8 : Int32) &&& 31)).toInt8.toInt32))] (.int (0 : Int32))) (hq0 : Chr c0) (X0 : Old Z n0 h0) (SC : Sta Z Z.heap "java/lang/String" "COMPACT_STRINGS" "Z" (.int cst)) (hcs : ¬ cst = (0 : Int32)) (AD : Sta Z Z.heap "java/lang/StringUTF16" "$assertionsDisabled" "Z" (.int (1 : Int32))) (HB : Sta Z Z.heap "java/lang/StringUTF16" "HI_BYTE_SHIFT" "I" (.int (0 : Int32))) (LB : Sta Z Z.heap "java/lang/StringUTF16" "LO_BYTE_SHIFT" "I" (.int (8 : Int32))) (PF : Sta Z Z.heap "jdk/internal/util/Preconditions" "SIOOBE_FORMATTER" "Ljava/util/function/BiFunction;" fv) (hfv : fv.isRef = true) :
    Met l Z consts_1 [] (⟨"java/lang/String", "charAt", "(I)C"⟩ : MethodName) jdk_42_method_56_code 2 (Option.some FieldType.char) [] ({ frames := 4, cells := 0, slots := 0, locals := 77 } : Room) #[(.ref sa), (.int (0 : Int32))] h0 n0 (fun v h => v = some (.int c0) ∧ h0 = h) := by
  refine Met.of (Ls0 := #[.val (.ref sa), .val (.int (0 : Int32))]) pl_18 (by first | (simp [argsToLocals, Value.category]; done) | rfl) hel ?_
  intro p e s m below meth c hx hby hml hret hlk hown hnm hZ
  refine Go.aloadN (q := 1) hx (hb hby d10_0) rfl (by rfl) rfl ?_
  refine Go.callV (q := 4) hx hZ (a := sa) (argsL := []) (rest := []) hown (tw hw 58 rfl) (tw hw 59 rfl) (fun vm hzv => notFace_of_selects (args := #[]) (mvT hzv (tw hw 61 rfl))) (tw hw 61 rfl) (tw hw 60 rfl) (tw hw 8 rfl) (tw hw 62 rfl) (by decide) E (rmIs1 l Z a0 hw hel sa cst h0 n0 Z0 F2 X0 SC hcs) (fun _ hx => nomatch hx) (by rw [hml]; rfl) pd_15 rfl rfl (hb hby d10_1) rfl (by decide) (ble rfl) (ce' := 0) (sl' := 0) rfl rfl (by decide) (by decide) (fun v833 h834 hQ835 => ?_)
  obtain ⟨rfl, rfl⟩ := hQ835
  show Go _ _ _ _ _ _ _ _ _ _ _ _ _ _ _ _ _ _ _ _ 0 0 4 #[.val (.ref sa), .val (.int (0 : Int32))] [(.int (0 : Int32))]
  refine Go.if_eq (q := 7) (t := 16) hx (hb hby d10_4) (by decide) rfl rfl (fun hc4 => ?_) (fun hc4 => absurd hc4 (by decide))
  refine Go.aloadN (q := 17) hx (hb hby d10_16) rfl (by rfl) rfl ?_
  refine Go.getF (q := 20) hx hZ hown (host := "") (Or.inl (tw hw 26 rfl)) Via.refl F1 (hb hby d10_17) rfl ?_
  refine Go.iloadN (q := 21) hx (hb hby d10_20) rfl rfl ?_
  refine Go.callS (q := 24) hx hZ (argsL := [(.ref b), (.int (0 : Int32))]) (rest := []) hown (tw hw 94 rfl) (tw hw 95 rfl) (tw hw 45 rfl) (tw hw 96 rfl) (by decide) (rmUC1_0 l Z a0 hw hel b kb fv c0 h0 n0 Z0 B hq0 X0 AD HB LB PF hfv) (fun _ hx => nomatch hx) (by rw [hml]; rfl) pd_5 rfl rfl (hb hby d10_21) rfl (by decide) (ble rfl) (ce' := 0) (sl' := 0) rfl rfl (by decide) (by decide) (fun v836 h837 hQ838 => ?_)
  obtain ⟨rfl, rfl⟩ := hQ838
  show Go _ _ _ _ _ _ _ _ _ _ _ _ _ _ _ _ _ _ _ _ 0 0 24 #[.val (.ref sa), .val (.int (0 : Int32))] [(.int c0)]
  refine Go.retN hx (t := .char) hret (by simp) hlk (hb hby d10_24) (by decide) (by decide) ?_
  exact ⟨congrArg (fun z => some (Value.int z)) (nar_chr hq0), rfl⟩
theorem rmAs1_1 (l : Launch) (Z : State) (a0 : Array Value) (hw : ∀ d ∈ tables_1, d.before a0 Z = true) (hel : EW Z a0 consts_1) (sa b : Addr) (kb : ClassId) (cst : Int32) (fv : Value) (c0 : Int32) (h0 : Heap) (n0 : Nat) (Z0 : n0 ≤ h0.size) (E : Exa Z h0 sa "java/lang/String") (F1 : Fld Z h0 sa "java/lang/String" "value" "[B" (.ref b)) (F2 : Fld Z h0 sa "java/lang/String" "coder" "B" (.int (1 : Int32))) (B : Arv Z h0 b kb .byte (2 : Int32) [(.int (nar .byte (c0 >>> ((0 : Int32) &&& 31)).toInt8.toInt32)), (.int (nar .byte (c0 >>> ((8 : Int32) &&& 31)).toInt8.toInt32))] (.int (0 : Int32))) (hq0 : Chr c0) (X0 : Old Z n0 h0) (SC : Sta Z Z.heap "java/lang/String" "COMPACT_STRINGS" "Z" (.int cst)) (hcs : ¬ cst = (0 : Int32)) (AD : Sta Z Z.heap "java/lang/StringUTF16" "$assertionsDisabled" "Z" (.int (1 : Int32))) (HB : Sta Z Z.heap "java/lang/StringUTF16" "HI_BYTE_SHIFT" "I" (.int (0 : Int32))) (LB : Sta Z Z.heap "java/lang/StringUTF16" "LO_BYTE_SHIFT" "I" (.int (8 : Int32))) (PF : Sta Z Z.heap "jdk/internal/util/Preconditions" "SIOOBE_FORMATTER" "Ljava/util/function/BiFunction;" fv) (hfv : fv.isRef = true) :
    Met l Z consts_1 [] (⟨"com/example/epithet/epithet/store/MappedTable", "isAscii", "(Ljava/lang/String;)Z"⟩ : MethodName) prog_59_method_39_code 2 (Option.some FieldType.boolean) [] ({ frames := 5, cells := 0, slots := 0, locals := 96 } : Room) #[(.ref sa)] h0 n0 (fun v h => v = some (.int (if c0 < (128 : Int32) then (1 : Int32) else (0 : Int32))) ∧ h0 = h) := by
  refine Met.of (Ls0 := #[.val (.ref sa), .unset]) pl_15 (by first | (simp [argsToLocals, Value.category]; done) | rfl) hel ?_
  intro p e s m below meth c hx hby hml hret hlk hown hnm hZ
  refine Go.iconst (q := 1) (z := (0 : Int32)) hx (hb hby d4_0) rfl rfl ?_
  refine Go.istoreN (q := 2) (l' := #[.val (.ref sa), .val (.int (0 : Int32))]) hx (hb hby d4_1) rfl rfl ?_
  refine Go.iloadN (q := 3) hx (hb hby d4_2) rfl rfl ?_
  refine Go.aloadN (q := 4) hx (hb hby d4_3) rfl (by rfl) rfl ?_
  refine Go.callV (q := 7) hx hZ (a := sa) (argsL := []) (rest := [(.int (0 : Int32))]) hown (tw hw 32 rfl) (tw hw 33 rfl) (fun vm hzv => notFace_of_selects (args := #[]) (mvT hzv (tw hw 35 rfl))) (tw hw 35 rfl) (tw hw 34 rfl) (tw hw 8 rfl) (tw hw 36 rfl) (by decide) E (rmLe1_1 l Z a0 hw hel sa b kb cst fv c0 h0 n0 Z0 E F1 F2 B hq0 X0 SC hcs AD HB LB PF hfv) (fun _ hx => nomatch hx) (by rw [hml]; rfl) pd_12 rfl rfl (hb hby d4_4) rfl (by decide) (ble rfl) (ce' := 0) (sl' := 0) rfl rfl (by decide) (by decide) (fun v839 h840 hQ841 => ?_)
  obtain ⟨rfl, rfl⟩ := hQ841
  show Go _ _ _ _ _ _ _ _ _ _ _ _ _ _ _ _ _ _ _ _ 0 0 7 #[.val (.ref sa), .val (.int (0 : Int32))] [(.int (1 : Int32)), (.int (0 : Int32))]
  refine Go.icmp_ge (q := 10) (t := 29) hx (hb hby d4_7) (by decide) rfl rfl (fun hc7 => absurd hc7 (by decide)) (fun hc7 => ?_)
  refine Go.aloadN (q := 11) hx (hb hby d4_10) rfl (by rfl) rfl ?_
  refine Go.iloadN (q := 12) hx (hb hby d4_11) rfl rfl ?_
  refine Go.callV (q := 15) hx hZ (a := sa) (argsL := [(.int (0 : Int32))]) (rest := []) hown (tw hw 53 rfl) (tw hw 54 rfl) (fun vm hzv => notFace_of_selects (args := #[]) (mvT hzv (tw hw 56 rfl))) (tw hw 56 rfl) (tw hw 55 rfl) (tw hw 8 rfl) (tw hw 57 rfl) (by decide) E (rmCh1_1_0 l Z a0 hw hel sa b kb cst fv c0 h0 n0 Z0 E F1 F2 B hq0 X0 SC hcs AD HB LB PF hfv) (fun _ hx => nomatch hx) (by rw [hml]; rfl) pd_13 rfl rfl (hb hby d4_12) rfl (by decide) (ble rfl) (ce' := 0) (sl' := 0) rfl rfl (by decide) (by decide) (fun v842 h843 hQ844 => ?_)
  obtain ⟨rfl, rfl⟩ := hQ844
  show Go _ _ _ _ _ _ _ _ _ _ _ _ _ _ _ _ _ _ _ _ 0 0 15 #[.val (.ref sa), .val (.int (0 : Int32))] [(.int c0)]
  refine Go.sipush (q := 18) (z := (128 : Int32)) hx (hb hby d4_15) rfl rfl ?_
  refine Go.icmp_lt (q := 21) (t := 23) hx (hb hby d4_18) (by decide) rfl rfl (fun hc18 => ?_) (fun hc18 => ?_)
  · skip
    refine Go.iinc (q := 26) (l' := #[.val (.ref sa), .val (.int ((0 : Int32) + (1 : Int32)))]) hx (hb hby d4_23) rfl rfl rfl ?_
    refine Go.goto (q := 2) hx (hb hby d4_26) (by decide) rfl ?_
    rw [show (0 : Int32) + (1 : Int32) = (1 : Int32) from by decide]
    refine Go.iloadN (q := 3) hx (hb hby d4_2) rfl rfl ?_
    refine Go.aloadN (q := 4) hx (hb hby d4_3) rfl (by rfl) rfl ?_
    refine Go.callV (q := 7) hx hZ (a := sa) (argsL := []) (rest := [(.int (1 : Int32))]) hown (tw hw 32 rfl) (tw hw 33 rfl) (fun vm hzv => notFace_of_selects (args := #[]) (mvT hzv (tw hw 35 rfl))) (tw hw 35 rfl) (tw hw 34 rfl) (tw hw 8 rfl) (tw hw 36 rfl) (by decide) E (rmLe1_1 l Z a0 hw hel sa b kb cst fv c0 h0 n0 Z0 E F1 F2 B hq0 X0 SC hcs AD HB LB PF hfv) (fun _ hx => nomatch hx) (by rw [hml]; rfl) pd_12 rfl rfl (hb hby d4_4) rfl (by decide) (ble rfl) (ce' := 0) (sl' := 0) rfl rfl (by decide) (by decide) (fun v845 h846 hQ847 => ?_)
    obtain ⟨rfl, rfl⟩ := hQ847
    show Go _ _ _ _ _ _ _ _ _ _ _ _ _ _ _ _ _ _ _ _ 0 0 7 #[.val (.ref sa), .val (.int (1 : Int32))] [(.int (1 : Int32)), (.int (1 : Int32))]
    refine Go.icmp_ge (q := 10) (t := 29) hx (hb hby d4_7) (by decide) rfl rfl (fun hc7_1 => ?_) (fun hc7_1 => absurd hc7_1 (by decide))
    refine Go.iconst (q := 30) (z := (1 : Int32)) hx (hb hby d4_29) rfl rfl ?_
    refine Go.retN hx (t := .boolean) hret (by simp) hlk (hb hby d4_30) (by decide) (by decide) ?_
    exact ⟨congrArg (fun z => some (Value.int z)) ((if_pos hc18).symm : (1 : Int32) = _), rfl⟩
  · skip
    refine Go.iconst (q := 22) (z := (0 : Int32)) hx (hb hby d4_21) rfl rfl ?_
    refine Go.retN hx (t := .boolean) hret (by simp) hlk (hb hby d4_22) (by decide) (by decide) ?_
    exact ⟨congrArg (fun z => some (Value.int z)) ((if_neg (fun q => absurd q hc18)).symm : (0 : Int32) = _), rfl⟩
def Str1 (Z : State) (h : Heap) (sa : Addr) (c0 : Int32) : Prop := Exa Z h sa "java/lang/String" ∧ ∃ b kb, Fld Z h sa "java/lang/String" "value" "[B" (.ref b) ∧ (((¬ (255 : Int32) < c0) ∧ Fld Z h sa "java/lang/String" "coder" "B" (.int (0 : Int32)) ∧ Arv Z h b kb .byte (1 : Int32) [(.int (nar .byte c0.toInt8.toInt32))] (.int (0 : Int32))) ∨ (Fld Z h sa "java/lang/String" "coder" "B" (.int (1 : Int32)) ∧ Arv Z h b kb .byte (2 : Int32) [(.int (nar .byte (c0 >>> ((0 : Int32) &&& 31)).toInt8.toInt32)), (.int (nar .byte (c0 >>> ((8 : Int32) &&& 31)).toInt8.toInt32))] (.int (0 : Int32))))
theorem rmAs1 (l : Launch) (Z : State) (a0 : Array Value) (hw : ∀ d ∈ tables_1, d.before a0 Z = true) (hel : EW Z a0 consts_1) (sa : Addr) (cst : Int32) (fv : Value) (c0 : Int32) (h0 : Heap) (n0 : Nat) (Z0 : n0 ≤ h0.size) (T : Str1 Z h0 sa c0) (hq0 : Chr c0) (X0 : Old Z n0 h0) (SC : Sta Z Z.heap "java/lang/String" "COMPACT_STRINGS" "Z" (.int cst)) (hcs : ¬ cst = (0 : Int32)) (AD : Sta Z Z.heap "java/lang/StringUTF16" "$assertionsDisabled" "Z" (.int (1 : Int32))) (HB : Sta Z Z.heap "java/lang/StringUTF16" "HI_BYTE_SHIFT" "I" (.int (0 : Int32))) (LB : Sta Z Z.heap "java/lang/StringUTF16" "LO_BYTE_SHIFT" "I" (.int (8 : Int32))) (PF : Sta Z Z.heap "jdk/internal/util/Preconditions" "SIOOBE_FORMATTER" "Ljava/util/function/BiFunction;" fv) (hfv : fv.isRef = true) :
    Met l Z consts_1 [] (⟨"com/example/epithet/epithet/store/MappedTable", "isAscii", "(Ljava/lang/String;)Z"⟩ : MethodName) prog_59_method_39_code 2 (Option.some FieldType.boolean) [] ({ frames := 5, cells := 0, slots := 0, locals := 96 } : Room) #[(.ref sa)] h0 n0 (fun v h => v = some (.int (if c0 < (128 : Int32) then (1 : Int32) else (0 : Int32))) ∧ h0 = h) := by
  obtain ⟨E, b, kb, F1, ⟨hp0, F2, B⟩ | ⟨F2, B⟩⟩ := T
  · exact rmAs0_1 l Z a0 hw hel sa b kb cst fv c0 h0 n0 Z0 E F1 F2 B hq0 hp0 X0 SC hcs AD HB LB PF hfv
  · exact rmAs1_1 l Z a0 hw hel sa b kb cst fv c0 h0 n0 Z0 E F1 F2 B hq0  X0 SC hcs AD HB LB PF hfv
theorem rmUL2 (l : Launch) (Z : State) (a0 : Array Value) (hw : ∀ d ∈ tables_1, d.before a0 Z = true) (hel : EW Z a0 consts_1) (b : Addr) (kb : ClassId) (vs : List Value) (h0 : Heap) (n0 : Nat) (Z0 : n0 ≤ h0.size) (B : Arv Z h0 b kb .byte (4 : Int32) vs (.int (0 : Int32))) :
    Met l Z consts_1 [] (⟨"java/lang/StringUTF16", "length", "([B)I"⟩ : MethodName) jdk_52_method_6_code 1 (Option.some FieldType.int) [] ({ frames := 0, cells := 0, slots := 0, locals := 0 } : Room) #[(.ref b)] h0 n0 (fun v h => v = some (.int (2 : Int32)) ∧ h0 = h) := by
  refine Met.of (Ls0 := #[.val (.ref b)]) pl_16 (by first | (simp [argsToLocals, Value.category]; done) | rfl) hel ?_
  intro p e s m below meth c hx hby hml hret hlk hown hnm hZ
  refine Go.aloadN (q := 1) hx (hb hby d22_0) rfl (by rfl) rfl ?_
  refine Go.alen (q := 2) hx hZ B (hb hby d22_1) rfl ?_
  refine Go.iconst (q := 3) (z := (1 : Int32)) hx (hb hby d22_2) rfl rfl ?_
  refine Go.ishr (q := 4) hx (hb hby d22_3) rfl ?_
  rw [show (4 : Int32) >>> ((1 : Int32) &&& 31) = (2 : Int32) from by decide]
  refine Go.retI hx hret hlk (hb hby d22_4) (by decide) (by decide) ?_
  exact ⟨rfl, rfl⟩
theorem rmLe0_2 (l : Launch) (Z : State) (a0 : Array Value) (hw : ∀ d ∈ tables_1, d.before a0 Z = true) (hel : EW Z a0 consts_1) (sa b : Addr) (kb : ClassId) (cst : Int32) (fv : Value) (c0 c1 : Int32) (h0 : Heap) (n0 : Nat) (Z0 : n0 ≤ h0.size) (E : Exa Z h0 sa "java/lang/String") (F1 : Fld Z h0 sa "java/lang/String" "value" "[B" (.ref b)) (F2 : Fld Z h0 sa "java/lang/String" "coder" "B" (.int (0 : Int32))) (B : Arv Z h0 b kb .byte (2 : Int32) [(.int (nar .byte c0.toInt8.toInt32)), (.int (nar .byte c1.toInt8.toInt32))] (.int (0 : Int32))) (hq0 : Chr c0) (hq1 : Chr c1) (hp0 : ¬ (255 : Int32) < c0) (hp1 : ¬ (255 : Int32) < c1) (X0 : Old Z n0 h0) (SC : Sta Z Z.heap "java/lang/String" "COMPACT_STRINGS" "Z" (.int cst)) (hcs : ¬ cst = (0 : Int32)) (AD : Sta Z Z.heap "java/lang/StringUTF16" "$assertionsDisabled" "Z" (.int (1 : Int32))) (HB : Sta Z Z.heap "java/lang/StringUTF16" "HI_BYTE_SHIFT" "I" (.int (0 : Int32))) (LB : Sta Z Z.heap "java/lang/StringUTF16" "LO_BYTE_SHIFT" "I" (.int (8 : Int32))) (PF : Sta Z Z.heap "jdk/internal/util/Preconditions" "SIOOBE_FORMATTER" "Ljava/util/function/BiFunction;" fv) (hfv : fv.isRef = true) :
    Met l Z consts_1 [] (⟨"java/lang/String", "length", "()I"⟩ : MethodName) jdk_42_method_54_code 1 (Option.some FieldType.int) [] ({ frames := 1, cells := 0, slots := 0, locals := 18 } : Room) #[(.ref sa)] h0 n0 (fun v h => v = some (.int (2 : Int32)) ∧ h0 = h) := by
  refine Met.of (Ls0 := #[.val (.ref sa)]) pl_14 (by first | (simp [argsToLocals, Value.category]; done) | rfl) hel ?_
  intro p e s m below meth c hx hby hml hret hlk hown hnm hZ
  refine Go.aloadN (q := 1) hx (hb hby d5_0) rfl (by rfl) rfl ?_
  refine Go.getF (q := 4) hx hZ hown (host := "") (Or.inl (tw hw 26 rfl)) Via.refl F1 (hb hby d5_1) rfl ?_
  refine Go.alen (q := 5) hx hZ B (hb hby d5_4) rfl ?_
  refine Go.aloadN (q := 6) hx (hb hby d5_5) rfl (by rfl) rfl ?_
  refine Go.callV (q := 9) hx hZ (a := sa) (argsL := []) (rest := [(.int (2 : Int32))]) hown (tw hw 37 rfl) (tw hw 38 rfl) (fun vm hzv => notFace_of_selects (args := #[]) (mvT hzv (tw hw 40 rfl))) (tw hw 40 rfl) (tw hw 39 rfl) (tw hw 8 rfl) (tw hw 41 rfl) (by decide) E (rmCo0 l Z a0 hw hel sa cst h0 n0 Z0 F2 X0 SC hcs) (fun _ hx => nomatch hx) (by rw [hml]; rfl) pd_11 rfl rfl (hb hby d5_6) rfl (by decide) (ble rfl) (ce' := 0) (sl' := 0) rfl rfl (by decide) (by decide) (fun v848 h849 hQ850 => ?_)
  obtain ⟨rfl, rfl⟩ := hQ850
  show Go _ _ _ _ _ _ _ _ _ _ _ _ _ _ _ _ _ _ _ _ 0 0 9 #[.val (.ref sa)] [(.int (0 : Int32)), (.int (2 : Int32))]
  refine Go.ishr (q := 10) hx (hb hby d5_9) rfl ?_
  rw [show (2 : Int32) >>> ((0 : Int32) &&& 31) = (2 : Int32) from by decide]
  refine Go.retI hx hret hlk (hb hby d5_10) (by decide) (by decide) ?_
  exact ⟨rfl, rfl⟩
theorem rmLC2_0 (l : Launch) (Z : State) (a0 : Array Value) (hw : ∀ d ∈ tables_1, d.before a0 Z = true) (hel : EW Z a0 consts_1) (b : Addr) (kb : ClassId) (fv : Value) (c0 c1 : Int32) (h0 : Heap) (n0 : Nat) (Z0 : n0 ≤ h0.size) (B : Arv Z h0 b kb .byte (2 : Int32) [(.int (nar .byte c0.toInt8.toInt32)), (.int (nar .byte c1.toInt8.toInt32))] (.int (0 : Int32))) (hq0 : Chr c0) (hp0 : ¬ (255 : Int32) < c0) (X0 : Old Z n0 h0) (PF : Sta Z Z.heap "jdk/internal/util/Preconditions" "SIOOBE_FORMATTER" "Ljava/util/function/BiFunction;" fv) (hfv : fv.isRef = true) :
    Met l Z consts_1 [] (⟨"java/lang/StringLatin1", "charAt", "([BI)C"⟩ : MethodName) jdk_43_method_2_code 2 (Option.some FieldType.char) [] ({ frames := 2, cells := 0, slots := 0, locals := 39 } : Room) #[(.ref b), (.int (0 : Int32))] h0 n0 (fun v h => v = some (.int c0) ∧ h0 = h) := by
  refine Met.of (Ls0 := #[.val (.ref b), .val (.int (0 : Int32))]) pl_17 (by first | (simp [argsToLocals, Value.category]; done) | rfl) hel ?_
  intro p e s m below meth c hx hby hml hret hlk hown hnm hZ
  refine Go.iloadN (q := 1) hx (hb hby d12_0) rfl rfl ?_
  refine Go.aloadN (q := 2) hx (hb hby d12_1) rfl (by rfl) rfl ?_
  refine Go.alen (q := 3) hx hZ B (hb hby d12_2) rfl ?_
  refine Go.callS (q := 6) hx hZ (argsL := [(.int (0 : Int32)), (.int (2 : Int32))]) (rest := []) hown (tw hw 67 rfl) (tw hw 68 rfl) (tw hw 8 rfl) (tw hw 69 rfl) (by decide) (rmX l Z a0 hw hel (0 : Int32) (2 : Int32) fv h0 n0 Z0 (by decide) (by decide) X0 PF hfv) (fun _ hx => nomatch hx) (by rw [hml]; rfl) pd_14 rfl rfl (hb hby d12_3) rfl (by decide) (ble rfl) (ce' := 0) (sl' := 0) rfl rfl (by decide) (by decide) (fun v851 h852 hQ853 => ?_)
  obtain ⟨rfl, rfl⟩ := hQ853
  show Go _ _ _ _ _ _ _ _ _ _ _ _ _ _ _ _ _ _ _ _ 0 0 6 #[.val (.ref b), .val (.int (0 : Int32))] []
  refine Go.aloadN (q := 7) hx (hb hby d12_6) rfl (by rfl) rfl ?_
  refine Go.iloadN (q := 8) hx (hb hby d12_7) rfl rfl ?_
  refine Go.baload (q := 9) (v := (.int (nar .byte c0.toInt8.toInt32))) hx hZ B ⟨by decide, by decide⟩ rfl (hb hby d12_8) rfl ?_
  refine Go.sipush (q := 12) (z := (255 : Int32)) hx (hb hby d12_9) rfl rfl ?_
  refine Go.iand (q := 13) hx (hb hby d12_12) rfl ?_
  refine Go.i2c (q := 14) hx (hb hby d12_13) rfl ?_
  refine Go.retN hx (t := .char) hret (by simp) hlk (hb hby d12_14) (by decide) (by decide) ?_
  exact ⟨congrArg (fun z => some (Value.int z)) (lat_ok hq0 hp0), rfl⟩
theorem rmCh0_2_0 (l : Launch) (Z : State) (a0 : Array Value) (hw : ∀ d ∈ tables_1, d.before a0 Z = true) (hel : EW Z a0 consts_1) (sa b : Addr) (kb : ClassId) (cst : Int32) (fv : Value) (c0 c1 : Int32) (h0 : Heap) (n0 : Nat) (Z0 : n0 ≤ h0.size) (E : Exa Z h0 sa "java/lang/String") (F1 : Fld Z h0 sa "java/lang/String" "value" "[B" (.ref b)) (F2 : Fld Z h0 sa "java/lang/String" "coder" "B" (.int (0 : Int32))) (B : Arv Z h0 b kb .byte (2 : Int32) [(.int (nar .byte c0.toInt8.toInt32)), (.int (nar .byte c1.toInt8.toInt32))] (.int (0 : Int32))) (hq0 : Chr c0) (hq1 : Chr c1) (hp0 : ¬ (255 : Int32) < c0) (hp1 : ¬ (255 : Int32) < c1) (X0 : Old Z n0 h0) (SC : Sta Z Z.heap "java/lang/String" "COMPACT_STRINGS" "Z" (.int cst)) (hcs : ¬ cst = (0 : Int32)) (AD : Sta Z Z.heap "java/lang/StringUTF16" "$assertionsDisabled" "Z" (.int (1 : Int32))) (HB : Sta Z Z.heap "java/lang/StringUTF16" "HI_BYTE_SHIFT" "I" (.int (0 : Int32))) (LB : Sta Z Z.heap "java/lang/StringUTF16" "LO_BYTE_SHIFT" "I" (.int (8 : Int32))) (PF : Sta Z Z.heap "jdk/internal/util/Preconditions" "SIOOBE_FORMATTER" "Ljava/util/function/BiFunction;" fv) (hfv : fv.isRef = true) :
    Met l Z consts_1 [] (⟨"java/lang/String", "charAt", "(I)C"⟩ : MethodName) jdk_42_method_56_code 2 (Option.some FieldType.char) [] ({ frames := 4, cells := 0, slots := 0, locals := 77 } : Room) #[(.ref sa), (.int (0 : Int32))] h0 n0 (fun v h => v = some (.int c0) ∧ h0 = h) := by
  refine Met.of (Ls0 := #[.val (.ref sa), .val (.int (0 : Int32))]) pl_18 (by first | (simp [argsToLocals, Value.category]; done) | rfl) hel ?_
  intro p e s m below meth c hx hby hml hret hlk hown hnm hZ
  refine Go.aloadN (q := 1) hx (hb hby d10_0) rfl (by rfl) rfl ?_
  refine Go.callV (q := 4) hx hZ (a := sa) (argsL := []) (rest := []) hown (tw hw 58 rfl) (tw hw 59 rfl) (fun vm hzv => notFace_of_selects (args := #[]) (mvT hzv (tw hw 61 rfl))) (tw hw 61 rfl) (tw hw 60 rfl) (tw hw 8 rfl) (tw hw 62 rfl) (by decide) E (rmIs0 l Z a0 hw hel sa cst h0 n0 Z0 F2 X0 SC hcs) (fun _ hx => nomatch hx) (by rw [hml]; rfl) pd_15 rfl rfl (hb hby d10_1) rfl (by decide) (ble rfl) (ce' := 0) (sl' := 0) rfl rfl (by decide) (by decide) (fun v854 h855 hQ856 => ?_)
  obtain ⟨rfl, rfl⟩ := hQ856
  show Go _ _ _ _ _ _ _ _ _ _ _ _ _ _ _ _ _ _ _ _ 0 0 4 #[.val (.ref sa), .val (.int (0 : Int32))] [(.int (1 : Int32))]
  refine Go.if_eq (q := 7) (t := 16) hx (hb hby d10_4) (by decide) rfl rfl (fun hc4 => absurd hc4 (by decide)) (fun hc4 => ?_)
  refine Go.aloadN (q := 8) hx (hb hby d10_7) rfl (by rfl) rfl ?_
  refine Go.getF (q := 11) hx hZ hown (host := "") (Or.inl (tw hw 26 rfl)) Via.refl F1 (hb hby d10_8) rfl ?_
  refine Go.iloadN (q := 12) hx (hb hby d10_11) rfl rfl ?_
  refine Go.callS (q := 15) hx hZ (argsL := [(.ref b), (.int (0 : Int32))]) (rest := []) hown (tw hw 63 rfl) (tw hw 64 rfl) (tw hw 65 rfl) (tw hw 66 rfl) (by decide) (rmLC2_0 l Z a0 hw hel b kb fv c0 c1 h0 n0 Z0 B hq0 hp0 X0 PF hfv) (fun _ hx => nomatch hx) (by rw [hml]; rfl) pd_5 rfl rfl (hb hby d10_12) rfl (by decide) (ble rfl) (ce' := 0) (sl' := 0) rfl rfl (by decide) (by decide) (fun v857 h858 hQ859 => ?_)
  obtain ⟨rfl, rfl⟩ := hQ859
  show Go _ _ _ _ _ _ _ _ _ _ _ _ _ _ _ _ _ _ _ _ 0 0 15 #[.val (.ref sa), .val (.int (0 : Int32))] [(.int c0)]
  refine Go.retN hx (t := .char) hret (by simp) hlk (hb hby d10_15) (by decide) (by decide) ?_
  exact ⟨congrArg (fun z => some (Value.int z)) (nar_chr hq0), rfl⟩
theorem rmLC2_1 (l : Launch) (Z : State) (a0 : Array Value) (hw : ∀ d ∈ tables_1, d.before a0 Z = true) (hel : EW Z a0 consts_1) (b : Addr) (kb : ClassId) (fv : Value) (c0 c1 : Int32) (h0 : Heap) (n0 : Nat) (Z0 : n0 ≤ h0.size) (B : Arv Z h0 b kb .byte (2 : Int32) [(.int (nar .byte c0.toInt8.toInt32)), (.int (nar .byte c1.toInt8.toInt32))] (.int (0 : Int32))) (hq1 : Chr c1) (hp1 : ¬ (255 : Int32) < c1) (X0 : Old Z n0 h0) (PF : Sta Z Z.heap "jdk/internal/util/Preconditions" "SIOOBE_FORMATTER" "Ljava/util/function/BiFunction;" fv) (hfv : fv.isRef = true) :
    Met l Z consts_1 [] (⟨"java/lang/StringLatin1", "charAt", "([BI)C"⟩ : MethodName) jdk_43_method_2_code 2 (Option.some FieldType.char) [] ({ frames := 2, cells := 0, slots := 0, locals := 39 } : Room) #[(.ref b), (.int (1 : Int32))] h0 n0 (fun v h => v = some (.int c1) ∧ h0 = h) := by
  refine Met.of (Ls0 := #[.val (.ref b), .val (.int (1 : Int32))]) pl_17 (by first | (simp [argsToLocals, Value.category]; done) | rfl) hel ?_
  intro p e s m below meth c hx hby hml hret hlk hown hnm hZ
  refine Go.iloadN (q := 1) hx (hb hby d12_0) rfl rfl ?_
  refine Go.aloadN (q := 2) hx (hb hby d12_1) rfl (by rfl) rfl ?_
  refine Go.alen (q := 3) hx hZ B (hb hby d12_2) rfl ?_
  refine Go.callS (q := 6) hx hZ (argsL := [(.int (1 : Int32)), (.int (2 : Int32))]) (rest := []) hown (tw hw 67 rfl) (tw hw 68 rfl) (tw hw 8 rfl) (tw hw 69 rfl) (by decide) (rmX l Z a0 hw hel (1 : Int32) (2 : Int32) fv h0 n0 Z0 (by decide) (by decide) X0 PF hfv) (fun _ hx => nomatch hx) (by rw [hml]; rfl) pd_14 rfl rfl (hb hby d12_3) rfl (by decide) (ble rfl) (ce' := 0) (sl' := 0) rfl rfl (by decide) (by decide) (fun v860 h861 hQ862 => ?_)
  obtain ⟨rfl, rfl⟩ := hQ862
  show Go _ _ _ _ _ _ _ _ _ _ _ _ _ _ _ _ _ _ _ _ 0 0 6 #[.val (.ref b), .val (.int (1 : Int32))] []
  refine Go.aloadN (q := 7) hx (hb hby d12_6) rfl (by rfl) rfl ?_
  refine Go.iloadN (q := 8) hx (hb hby d12_7) rfl rfl ?_
  refine Go.baload (q := 9) (v := (.int (nar .byte c1.toInt8.toInt32))) hx hZ B ⟨by decide, by decide⟩ rfl (hb hby d12_8) rfl ?_
  refine Go.sipush (q := 12) (z := (255 : Int32)) hx (hb hby d12_9) rfl rfl ?_
  refine Go.iand (q := 13) hx (hb hby d12_12) rfl ?_
  refine Go.i2c (q := 14) hx (hb hby d12_13) rfl ?_
  refine Go.retN hx (t := .char) hret (by simp) hlk (hb hby d12_14) (by decide) (by decide) ?_
  exact ⟨congrArg (fun z => some (Value.int z)) (lat_ok hq1 hp1), rfl⟩
theorem rmCh0_2_1 (l : Launch) (Z : State) (a0 : Array Value) (hw : ∀ d ∈ tables_1, d.before a0 Z = true) (hel : EW Z a0 consts_1) (sa b : Addr) (kb : ClassId) (cst : Int32) (fv : Value) (c0 c1 : Int32) (h0 : Heap) (n0 : Nat) (Z0 : n0 ≤ h0.size) (E : Exa Z h0 sa "java/lang/String") (F1 : Fld Z h0 sa "java/lang/String" "value" "[B" (.ref b)) (F2 : Fld Z h0 sa "java/lang/String" "coder" "B" (.int (0 : Int32))) (B : Arv Z h0 b kb .byte (2 : Int32) [(.int (nar .byte c0.toInt8.toInt32)), (.int (nar .byte c1.toInt8.toInt32))] (.int (0 : Int32))) (hq0 : Chr c0) (hq1 : Chr c1) (hp0 : ¬ (255 : Int32) < c0) (hp1 : ¬ (255 : Int32) < c1) (X0 : Old Z n0 h0) (SC : Sta Z Z.heap "java/lang/String" "COMPACT_STRINGS" "Z" (.int cst)) (hcs : ¬ cst = (0 : Int32)) (AD : Sta Z Z.heap "java/lang/StringUTF16" "$assertionsDisabled" "Z" (.int (1 : Int32))) (HB : Sta Z Z.heap "java/lang/StringUTF16" "HI_BYTE_SHIFT" "I" (.int (0 : Int32))) (LB : Sta Z Z.heap "java/lang/StringUTF16" "LO_BYTE_SHIFT" "I" (.int (8 : Int32))) (PF : Sta Z Z.heap "jdk/internal/util/Preconditions" "SIOOBE_FORMATTER" "Ljava/util/function/BiFunction;" fv) (hfv : fv.isRef = true) :
    Met l Z consts_1 [] (⟨"java/lang/String", "charAt", "(I)C"⟩ : MethodName) jdk_42_method_56_code 2 (Option.some FieldType.char) [] ({ frames := 4, cells := 0, slots := 0, locals := 77 } : Room) #[(.ref sa), (.int (1 : Int32))] h0 n0 (fun v h => v = some (.int c1) ∧ h0 = h) := by
  refine Met.of (Ls0 := #[.val (.ref sa), .val (.int (1 : Int32))]) pl_18 (by first | (simp [argsToLocals, Value.category]; done) | rfl) hel ?_
  intro p e s m below meth c hx hby hml hret hlk hown hnm hZ
  refine Go.aloadN (q := 1) hx (hb hby d10_0) rfl (by rfl) rfl ?_
  refine Go.callV (q := 4) hx hZ (a := sa) (argsL := []) (rest := []) hown (tw hw 58 rfl) (tw hw 59 rfl) (fun vm hzv => notFace_of_selects (args := #[]) (mvT hzv (tw hw 61 rfl))) (tw hw 61 rfl) (tw hw 60 rfl) (tw hw 8 rfl) (tw hw 62 rfl) (by decide) E (rmIs0 l Z a0 hw hel sa cst h0 n0 Z0 F2 X0 SC hcs) (fun _ hx => nomatch hx) (by rw [hml]; rfl) pd_15 rfl rfl (hb hby d10_1) rfl (by decide) (ble rfl) (ce' := 0) (sl' := 0) rfl rfl (by decide) (by decide) (fun v863 h864 hQ865 => ?_)
  obtain ⟨rfl, rfl⟩ := hQ865
  show Go _ _ _ _ _ _ _ _ _ _ _ _ _ _ _ _ _ _ _ _ 0 0 4 #[.val (.ref sa), .val (.int (1 : Int32))] [(.int (1 : Int32))]
  refine Go.if_eq (q := 7) (t := 16) hx (hb hby d10_4) (by decide) rfl rfl (fun hc4 => absurd hc4 (by decide)) (fun hc4 => ?_)
  refine Go.aloadN (q := 8) hx (hb hby d10_7) rfl (by rfl) rfl ?_
  refine Go.getF (q := 11) hx hZ hown (host := "") (Or.inl (tw hw 26 rfl)) Via.refl F1 (hb hby d10_8) rfl ?_
  refine Go.iloadN (q := 12) hx (hb hby d10_11) rfl rfl ?_
  refine Go.callS (q := 15) hx hZ (argsL := [(.ref b), (.int (1 : Int32))]) (rest := []) hown (tw hw 63 rfl) (tw hw 64 rfl) (tw hw 65 rfl) (tw hw 66 rfl) (by decide) (rmLC2_1 l Z a0 hw hel b kb fv c0 c1 h0 n0 Z0 B hq1 hp1 X0 PF hfv) (fun _ hx => nomatch hx) (by rw [hml]; rfl) pd_5 rfl rfl (hb hby d10_12) rfl (by decide) (ble rfl) (ce' := 0) (sl' := 0) rfl rfl (by decide) (by decide) (fun v866 h867 hQ868 => ?_)
  obtain ⟨rfl, rfl⟩ := hQ868
  show Go _ _ _ _ _ _ _ _ _ _ _ _ _ _ _ _ _ _ _ _ 0 0 15 #[.val (.ref sa), .val (.int (1 : Int32))] [(.int c1)]
  refine Go.retN hx (t := .char) hret (by simp) hlk (hb hby d10_15) (by decide) (by decide) ?_
  exact ⟨congrArg (fun z => some (Value.int z)) (nar_chr hq1), rfl⟩
theorem rmAs0_2 (l : Launch) (Z : State) (a0 : Array Value) (hw : ∀ d ∈ tables_1, d.before a0 Z = true) (hel : EW Z a0 consts_1) (sa b : Addr) (kb : ClassId) (cst : Int32) (fv : Value) (c0 c1 : Int32) (h0 : Heap) (n0 : Nat) (Z0 : n0 ≤ h0.size) (E : Exa Z h0 sa "java/lang/String") (F1 : Fld Z h0 sa "java/lang/String" "value" "[B" (.ref b)) (F2 : Fld Z h0 sa "java/lang/String" "coder" "B" (.int (0 : Int32))) (B : Arv Z h0 b kb .byte (2 : Int32) [(.int (nar .byte c0.toInt8.toInt32)), (.int (nar .byte c1.toInt8.toInt32))] (.int (0 : Int32))) (hq0 : Chr c0) (hq1 : Chr c1) (hp0 : ¬ (255 : Int32) < c0) (hp1 : ¬ (255 : Int32) < c1) (X0 : Old Z n0 h0) (SC : Sta Z Z.heap "java/lang/String" "COMPACT_STRINGS" "Z" (.int cst)) (hcs : ¬ cst = (0 : Int32)) (AD : Sta Z Z.heap "java/lang/StringUTF16" "$assertionsDisabled" "Z" (.int (1 : Int32))) (HB : Sta Z Z.heap "java/lang/StringUTF16" "HI_BYTE_SHIFT" "I" (.int (0 : Int32))) (LB : Sta Z Z.heap "java/lang/StringUTF16" "LO_BYTE_SHIFT" "I" (.int (8 : Int32))) (PF : Sta Z Z.heap "jdk/internal/util/Preconditions" "SIOOBE_FORMATTER" "Ljava/util/function/BiFunction;" fv) (hfv : fv.isRef = true) :
    Met l Z consts_1 [] (⟨"com/example/epithet/epithet/store/MappedTable", "isAscii", "(Ljava/lang/String;)Z"⟩ : MethodName) prog_59_method_39_code 2 (Option.some FieldType.boolean) [] ({ frames := 5, cells := 0, slots := 0, locals := 96 } : Room) #[(.ref sa)] h0 n0 (fun v h => v = some (.int (if c0 < (128 : Int32) ∧ c1 < (128 : Int32) then (1 : Int32) else (0 : Int32))) ∧ h0 = h) := by
  refine Met.of (Ls0 := #[.val (.ref sa), .unset]) pl_15 (by first | (simp [argsToLocals, Value.category]; done) | rfl) hel ?_
  intro p e s m below meth c hx hby hml hret hlk hown hnm hZ
  refine Go.iconst (q := 1) (z := (0 : Int32)) hx (hb hby d4_0) rfl rfl ?_
  refine Go.istoreN (q := 2) (l' := #[.val (.ref sa), .val (.int (0 : Int32))]) hx (hb hby d4_1) rfl rfl ?_
  refine Go.iloadN (q := 3) hx (hb hby d4_2) rfl rfl ?_
  refine Go.aloadN (q := 4) hx (hb hby d4_3) rfl (by rfl) rfl ?_
  refine Go.callV (q := 7) hx hZ (a := sa) (argsL := []) (rest := [(.int (0 : Int32))]) hown (tw hw 32 rfl) (tw hw 33 rfl) (fun vm hzv => notFace_of_selects (args := #[]) (mvT hzv (tw hw 35 rfl))) (tw hw 35 rfl) (tw hw 34 rfl) (tw hw 8 rfl) (tw hw 36 rfl) (by decide) E (rmLe0_2 l Z a0 hw hel sa b kb cst fv c0 c1 h0 n0 Z0 E F1 F2 B hq0 hq1 hp0 hp1 X0 SC hcs AD HB LB PF hfv) (fun _ hx => nomatch hx) (by rw [hml]; rfl) pd_12 rfl rfl (hb hby d4_4) rfl (by decide) (ble rfl) (ce' := 0) (sl' := 0) rfl rfl (by decide) (by decide) (fun v869 h870 hQ871 => ?_)
  obtain ⟨rfl, rfl⟩ := hQ871
  show Go _ _ _ _ _ _ _ _ _ _ _ _ _ _ _ _ _ _ _ _ 0 0 7 #[.val (.ref sa), .val (.int (0 : Int32))] [(.int (2 : Int32)), (.int (0 : Int32))]
  refine Go.icmp_ge (q := 10) (t := 29) hx (hb hby d4_7) (by decide) rfl rfl (fun hc7 => absurd hc7 (by decide)) (fun hc7 => ?_)
  refine Go.aloadN (q := 11) hx (hb hby d4_10) rfl (by rfl) rfl ?_
  refine Go.iloadN (q := 12) hx (hb hby d4_11) rfl rfl ?_
  refine Go.callV (q := 15) hx hZ (a := sa) (argsL := [(.int (0 : Int32))]) (rest := []) hown (tw hw 53 rfl) (tw hw 54 rfl) (fun vm hzv => notFace_of_selects (args := #[]) (mvT hzv (tw hw 56 rfl))) (tw hw 56 rfl) (tw hw 55 rfl) (tw hw 8 rfl) (tw hw 57 rfl) (by decide) E (rmCh0_2_0 l Z a0 hw hel sa b kb cst fv c0 c1 h0 n0 Z0 E F1 F2 B hq0 hq1 hp0 hp1 X0 SC hcs AD HB LB PF hfv) (fun _ hx => nomatch hx) (by rw [hml]; rfl) pd_13 rfl rfl (hb hby d4_12) rfl (by decide) (ble rfl) (ce' := 0) (sl' := 0) rfl rfl (by decide) (by decide) (fun v872 h873 hQ874 => ?_)
  obtain ⟨rfl, rfl⟩ := hQ874
  show Go _ _ _ _ _ _ _ _ _ _ _ _ _ _ _ _ _ _ _ _ 0 0 15 #[.val (.ref sa), .val (.int (0 : Int32))] [(.int c0)]
  refine Go.sipush (q := 18) (z := (128 : Int32)) hx (hb hby d4_15) rfl rfl ?_
  refine Go.icmp_lt (q := 21) (t := 23) hx (hb hby d4_18) (by decide) rfl rfl (fun hc18 => ?_) (fun hc18 => ?_)
  · skip
    refine Go.iinc (q := 26) (l' := #[.val (.ref sa), .val (.int ((0 : Int32) + (1 : Int32)))]) hx (hb hby d4_23) rfl rfl rfl ?_
    refine Go.goto (q := 2) hx (hb hby d4_26) (by decide) rfl ?_
    rw [show (0 : Int32) + (1 : Int32) = (1 : Int32) from by decide]
    refine Go.iloadN (q := 3) hx (hb hby d4_2) rfl rfl ?_
    refine Go.aloadN (q := 4) hx (hb hby d4_3) rfl (by rfl) rfl ?_
    refine Go.callV (q := 7) hx hZ (a := sa) (argsL := []) (rest := [(.int (1 : Int32))]) hown (tw hw 32 rfl) (tw hw 33 rfl) (fun vm hzv => notFace_of_selects (args := #[]) (mvT hzv (tw hw 35 rfl))) (tw hw 35 rfl) (tw hw 34 rfl) (tw hw 8 rfl) (tw hw 36 rfl) (by decide) E (rmLe0_2 l Z a0 hw hel sa b kb cst fv c0 c1 h0 n0 Z0 E F1 F2 B hq0 hq1 hp0 hp1 X0 SC hcs AD HB LB PF hfv) (fun _ hx => nomatch hx) (by rw [hml]; rfl) pd_12 rfl rfl (hb hby d4_4) rfl (by decide) (ble rfl) (ce' := 0) (sl' := 0) rfl rfl (by decide) (by decide) (fun v875 h876 hQ877 => ?_)
    obtain ⟨rfl, rfl⟩ := hQ877
    show Go _ _ _ _ _ _ _ _ _ _ _ _ _ _ _ _ _ _ _ _ 0 0 7 #[.val (.ref sa), .val (.int (1 : Int32))] [(.int (2 : Int32)), (.int (1 : Int32))]
    refine Go.icmp_ge (q := 10) (t := 29) hx (hb hby d4_7) (by decide) rfl rfl (fun hc7_1 => absurd hc7_1 (by decide)) (fun hc7_1 => ?_)
    refine Go.aloadN (q := 11) hx (hb hby d4_10) rfl (by rfl) rfl ?_
    refine Go.iloadN (q := 12) hx (hb hby d4_11) rfl rfl ?_
    refine Go.callV (q := 15) hx hZ (a := sa) (argsL := [(.int (1 : Int32))]) (rest := []) hown (tw hw 53 rfl) (tw hw 54 rfl) (fun vm hzv => notFace_of_selects (args := #[]) (mvT hzv (tw hw 56 rfl))) (tw hw 56 rfl) (tw hw 55 rfl) (tw hw 8 rfl) (tw hw 57 rfl) (by decide) E (rmCh0_2_1 l Z a0 hw hel sa b kb cst fv c0 c1 h0 n0 Z0 E F1 F2 B hq0 hq1 hp0 hp1 X0 SC hcs AD HB LB PF hfv) (fun _ hx => nomatch hx) (by rw [hml]; rfl) pd_13 rfl rfl (hb hby d4_12) rfl (by decide) (ble rfl) (ce' := 0) (sl' := 0) rfl rfl (by decide) (by decide) (fun v878 h879 hQ880 => ?_)
    obtain ⟨rfl, rfl⟩ := hQ880
    show Go _ _ _ _ _ _ _ _ _ _ _ _ _ _ _ _ _ _ _ _ 0 0 15 #[.val (.ref sa), .val (.int (1 : Int32))] [(.int c1)]
    refine Go.sipush (q := 18) (z := (128 : Int32)) hx (hb hby d4_15) rfl rfl ?_
    refine Go.icmp_lt (q := 21) (t := 23) hx (hb hby d4_18) (by decide) rfl rfl (fun hc18_1 => ?_) (fun hc18_1 => ?_)
    · skip
      refine Go.iinc (q := 26) (l' := #[.val (.ref sa), .val (.int ((1 : Int32) + (1 : Int32)))]) hx (hb hby d4_23) rfl rfl rfl ?_
      refine Go.goto (q := 2) hx (hb hby d4_26) (by decide) rfl ?_
      rw [show (1 : Int32) + (1 : Int32) = (2 : Int32) from by decide]
      refine Go.iloadN (q := 3) hx (hb hby d4_2) rfl rfl ?_
      refine Go.aloadN (q := 4) hx (hb hby d4_3) rfl (by rfl) rfl ?_
      refine Go.callV (q := 7) hx hZ (a := sa) (argsL := []) (rest := [(.int (2 : Int32))]) hown (tw hw 32 rfl) (tw hw 33 rfl) (fun vm hzv => notFace_of_selects (args := #[]) (mvT hzv (tw hw 35 rfl))) (tw hw 35 rfl) (tw hw 34 rfl) (tw hw 8 rfl) (tw hw 36 rfl) (by decide) E (rmLe0_2 l Z a0 hw hel sa b kb cst fv c0 c1 h0 n0 Z0 E F1 F2 B hq0 hq1 hp0 hp1 X0 SC hcs AD HB LB PF hfv) (fun _ hx => nomatch hx) (by rw [hml]; rfl) pd_12 rfl rfl (hb hby d4_4) rfl (by decide) (ble rfl) (ce' := 0) (sl' := 0) rfl rfl (by decide) (by decide) (fun v881 h882 hQ883 => ?_)
      obtain ⟨rfl, rfl⟩ := hQ883
      show Go _ _ _ _ _ _ _ _ _ _ _ _ _ _ _ _ _ _ _ _ 0 0 7 #[.val (.ref sa), .val (.int (2 : Int32))] [(.int (2 : Int32)), (.int (2 : Int32))]
      refine Go.icmp_ge (q := 10) (t := 29) hx (hb hby d4_7) (by decide) rfl rfl (fun hc7_2 => ?_) (fun hc7_2 => absurd hc7_2 (by decide))
      refine Go.iconst (q := 30) (z := (1 : Int32)) hx (hb hby d4_29) rfl rfl ?_
      refine Go.retN hx (t := .boolean) hret (by simp) hlk (hb hby d4_30) (by decide) (by decide) ?_
      exact ⟨congrArg (fun z => some (Value.int z)) ((if_pos ⟨hc18, hc18_1⟩).symm : (1 : Int32) = _), rfl⟩
    · skip
      refine Go.iconst (q := 22) (z := (0 : Int32)) hx (hb hby d4_21) rfl rfl ?_
      refine Go.retN hx (t := .boolean) hret (by simp) hlk (hb hby d4_22) (by decide) (by decide) ?_
      exact ⟨congrArg (fun z => some (Value.int z)) ((if_neg (fun q => absurd q.2 hc18_1)).symm : (0 : Int32) = _), rfl⟩
  · skip
    refine Go.iconst (q := 22) (z := (0 : Int32)) hx (hb hby d4_21) rfl rfl ?_
    refine Go.retN hx (t := .boolean) hret (by simp) hlk (hb hby d4_22) (by decide) (by decide) ?_
    exact ⟨congrArg (fun z => some (Value.int z)) ((if_neg (fun q => absurd q.1 hc18)).symm : (0 : Int32) = _), rfl⟩
theorem rmLe1_2 (l : Launch) (Z : State) (a0 : Array Value) (hw : ∀ d ∈ tables_1, d.before a0 Z = true) (hel : EW Z a0 consts_1) (sa b : Addr) (kb : ClassId) (cst : Int32) (fv : Value) (c0 c1 : Int32) (h0 : Heap) (n0 : Nat) (Z0 : n0 ≤ h0.size) (E : Exa Z h0 sa "java/lang/String") (F1 : Fld Z h0 sa "java/lang/String" "value" "[B" (.ref b)) (F2 : Fld Z h0 sa "java/lang/String" "coder" "B" (.int (1 : Int32))) (B : Arv Z h0 b kb .byte (4 : Int32) [(.int (nar .byte (c0 >>> ((0 : Int32) &&& 31)).toInt8.toInt32)), (.int (nar .byte (c0 >>> ((8 : Int32) &&& 31)).toInt8.toInt32)), (.int (nar .byte (c1 >>> ((0 : Int32) &&& 31)).toInt8.toInt32)), (.int (nar .byte (c1 >>> ((8 : Int32) &&& 31)).toInt8.toInt32))] (.int (0 : Int32))) (hq0 : Chr c0) (hq1 : Chr c1) (X0 : Old Z n0 h0) (SC : Sta Z Z.heap "java/lang/String" "COMPACT_STRINGS" "Z" (.int cst)) (hcs : ¬ cst = (0 : Int32)) (AD : Sta Z Z.heap "java/lang/StringUTF16" "$assertionsDisabled" "Z" (.int (1 : Int32))) (HB : Sta Z Z.heap "java/lang/StringUTF16" "HI_BYTE_SHIFT" "I" (.int (0 : Int32))) (LB : Sta Z Z.heap "java/lang/StringUTF16" "LO_BYTE_SHIFT" "I" (.int (8 : Int32))) (PF : Sta Z Z.heap "jdk/internal/util/Preconditions" "SIOOBE_FORMATTER" "Ljava/util/function/BiFunction;" fv) (hfv : fv.isRef = true) :
    Met l Z consts_1 [] (⟨"java/lang/String", "length", "()I"⟩ : MethodName) jdk_42_method_54_code 1 (Option.some FieldType.int) [] ({ frames := 1, cells := 0, slots := 0, locals := 18 } : Room) #[(.ref sa)] h0 n0 (fun v h => v = some (.int (2 : Int32)) ∧ h0 = h) := by
  refine Met.of (Ls0 := #[.val (.ref sa)]) pl_14 (by first | (simp [argsToLocals, Value.category]; done) | rfl) hel ?_
  intro p e s m below meth c hx hby hml hret hlk hown hnm hZ
  refine Go.aloadN (q := 1) hx (hb hby d5_0) rfl (by rfl) rfl ?_
  refine Go.getF (q := 4) hx hZ hown (host := "") (Or.inl (tw hw 26 rfl)) Via.refl F1 (hb hby d5_1) rfl ?_
  refine Go.alen (q := 5) hx hZ B (hb hby d5_4) rfl ?_
  refine Go.aloadN (q := 6) hx (hb hby d5_5) rfl (by rfl) rfl ?_
  refine Go.callV (q := 9) hx hZ (a := sa) (argsL := []) (rest := [(.int (4 : Int32))]) hown (tw hw 37 rfl) (tw hw 38 rfl) (fun vm hzv => notFace_of_selects (args := #[]) (mvT hzv (tw hw 40 rfl))) (tw hw 40 rfl) (tw hw 39 rfl) (tw hw 8 rfl) (tw hw 41 rfl) (by decide) E (rmCo1 l Z a0 hw hel sa cst h0 n0 Z0 F2 X0 SC hcs) (fun _ hx => nomatch hx) (by rw [hml]; rfl) pd_11 rfl rfl (hb hby d5_6) rfl (by decide) (ble rfl) (ce' := 0) (sl' := 0) rfl rfl (by decide) (by decide) (fun v884 h885 hQ886 => ?_)
  obtain ⟨rfl, rfl⟩ := hQ886
  show Go _ _ _ _ _ _ _ _ _ _ _ _ _ _ _ _ _ _ _ _ 0 0 9 #[.val (.ref sa)] [(.int (1 : Int32)), (.int (4 : Int32))]
  refine Go.ishr (q := 10) hx (hb hby d5_9) rfl ?_
  rw [show (4 : Int32) >>> ((1 : Int32) &&& 31) = (2 : Int32) from by decide]
  refine Go.retI hx hret hlk (hb hby d5_10) (by decide) (by decide) ?_
  exact ⟨rfl, rfl⟩
theorem rmUI2_0 (l : Launch) (Z : State) (a0 : Array Value) (hw : ∀ d ∈ tables_1, d.before a0 Z = true) (hel : EW Z a0 consts_1) (b : Addr) (kb : ClassId) (fv : Value) (c0 c1 : Int32) (h0 : Heap) (n0 : Nat) (Z0 : n0 ≤ h0.size) (B : Arv Z h0 b kb .byte (4 : Int32) [(.int (nar .byte (c0 >>> ((0 : Int32) &&& 31)).toInt8.toInt32)), (.int (nar .byte (c0 >>> ((8 : Int32) &&& 31)).toInt8.toInt32)), (.int (nar .byte (c1 >>> ((0 : Int32) &&& 31)).toInt8.toInt32)), (.int (nar .byte (c1 >>> ((8 : Int32) &&& 31)).toInt8.toInt32))] (.int (0 : Int32))) (hq0 : Chr c0) (X0 : Old Z n0 h0) (AD : Sta Z Z.heap "java/lang/StringUTF16" "$assertionsDisabled" "Z" (.int (1 : Int32))) (HB : Sta Z Z.heap "java/lang/StringUTF16" "HI_BYTE_SHIFT" "I" (.int (0 : Int32))) (LB : Sta Z Z.heap "java/lang/StringUTF16" "LO_BYTE_SHIFT" "I" (.int (8 : Int32))) (PF : Sta Z Z.heap "jdk/internal/util/Preconditions" "SIOOBE_FORMATTER" "Ljava/util/function/BiFunction;" fv) (hfv : fv.isRef = true) :
    Met l Z consts_1 [] (⟨"java/lang/StringUTF16", "checkIndex", "(I[B)V"⟩ : MethodName) jdk_52_method_91_code 2 (Option.none : Option FieldType) [] ({ frames := 2, cells := 0, slots := 0, locals := 39 } : Room) #[(.int (0 : Int32)), (.ref b)] h0 n0 (fun v h => v = none ∧ h0 = h) := by
  refine Met.of (Ls0 := #[.val (.int (0 : Int32)), .val (.ref b)]) pl_19 (by first | (simp [argsToLocals, Value.category]; done) | rfl) hel ?_
  intro p e s m below meth c hx hby hml hret hlk hown hnm hZ
  refine Go.iloadN (q := 1) hx (hb hby d21_0) rfl rfl ?_
  refine Go.aloadN (q := 2) hx (hb hby d21_1) rfl (by rfl) rfl ?_
  refine Go.callS (q := 5) hx hZ (argsL := [(.ref b)]) (rest := [(.int (0 : Int32))]) hown (tw hw 100 rfl) (tw hw 101 rfl) (tw hw 45 rfl) (tw hw 102 rfl) (by decide) (rmUL2 l Z a0 hw hel b kb _ h0 n0 Z0 B) (fun _ hx => nomatch hx) (by rw [hml]; rfl) pd_7 rfl rfl (hb hby d21_2) rfl (by decide) (ble rfl) (ce' := 0) (sl' := 0) rfl rfl (by decide) (by decide) (fun v887 h888 hQ889 => ?_)
  obtain ⟨rfl, rfl⟩ := hQ889
  show Go _ _ _ _ _ _ _ _ _ _ _ _ _ _ _ _ _ _ _ _ 0 0 5 #[.val (.int (0 : Int32)), .val (.ref b)] [(.int (2 : Int32)), (.int (0 : Int32))]
  refine Go.callS (q := 8) hx hZ (argsL := [(.int (0 : Int32)), (.int (2 : Int32))]) (rest := []) hown (tw hw 103 rfl) (tw hw 68 rfl) (tw hw 8 rfl) (tw hw 69 rfl) (by decide) (rmX l Z a0 hw hel (0 : Int32) (2 : Int32) fv h0 n0 Z0 (by decide) (by decide) X0 PF hfv) (fun _ hx => nomatch hx) (by rw [hml]; rfl) pd_14 rfl rfl (hb hby d21_5) rfl (by decide) (ble rfl) (ce' := 0) (sl' := 0) rfl rfl (by decide) (by decide) (fun v890 h891 hQ892 => ?_)
  obtain ⟨rfl, rfl⟩ := hQ892
  show Go _ _ _ _ _ _ _ _ _ _ _ _ _ _ _ _ _ _ _ _ 0 0 8 #[.val (.int (0 : Int32)), .val (.ref b)] []
  refine Go.ret0 hx hret hlk (hb hby d21_8) (by decide) (by decide) ?_
  exact ⟨rfl, rfl⟩
theorem rmUC2_0 (l : Launch) (Z : State) (a0 : Array Value) (hw : ∀ d ∈ tables_1, d.before a0 Z = true) (hel : EW Z a0 consts_1) (b : Addr) (kb : ClassId) (fv : Value) (c0 c1 : Int32) (h0 : Heap) (n0 : Nat) (Z0 : n0 ≤ h0.size) (B : Arv Z h0 b kb .byte (4 : Int32) [(.int (nar .byte (c0 >>> ((0 : Int32) &&& 31)).toInt8.toInt32)), (.int (nar .byte (c0 >>> ((8 : Int32) &&& 31)).toInt8.toInt32)), (.int (nar .byte (c1 >>> ((0 : Int32) &&& 31)).toInt8.toInt32)), (.int (nar .byte (c1 >>> ((8 : Int32) &&& 31)).toInt8.toInt32))] (.int (0 : Int32))) (hq0 : Chr c0) (X0 : Old Z n0 h0) (AD : Sta Z Z.heap "java/lang/StringUTF16" "$assertionsDisabled" "Z" (.int (1 : Int32))) (HB : Sta Z Z.heap "java/lang/StringUTF16" "HI_BYTE_SHIFT" "I" (.int (0 : Int32))) (LB : Sta Z Z.heap "java/lang/StringUTF16" "LO_BYTE_SHIFT" "I" (.int (8 : Int32))) (PF : Sta Z Z.heap "jdk/internal/util/Preconditions" "SIOOBE_FORMATTER" "Ljava/util/function/BiFunction;" fv) (hfv : fv.isRef = true) :
    Met l Z consts_1 [] (⟨"java/lang/StringUTF16", "charAt", "([BI)C"⟩ : MethodName) jdk_52_method_83_code 2 (Option.some FieldType.char) [] ({ frames := 3, cells := 0, slots := 0, locals := 58 } : Room) #[(.ref b), (.int (0 : Int32))] h0 n0 (fun v h => v = some (.int c0) ∧ h0 = h) := by
  refine Met.of (Ls0 := #[.val (.ref b), .val (.int (0 : Int32))]) pl_20 (by first | (simp [argsToLocals, Value.category]; done) | rfl) hel ?_
  intro p e s m below meth c hx hby hml hret hlk hown hnm hZ
  refine Go.iloadN (q := 1) hx (hb hby d20_0) rfl rfl ?_
  refine Go.aloadN (q := 2) hx (hb hby d20_1) rfl (by rfl) rfl ?_
  refine Go.callS (q := 5) hx hZ (argsL := [(.int (0 : Int32)), (.ref b)]) (rest := []) hown (tw hw 97 rfl) (tw hw 98 rfl) (tw hw 45 rfl) (tw hw 99 rfl) (by decide) (rmUI2_0 l Z a0 hw hel b kb fv c0 c1 h0 n0 Z0 B hq0 X0 AD HB LB PF hfv) (fun _ hx => nomatch hx) (by rw [hml]; rfl) pd_16 rfl rfl (hb hby d20_2) rfl (by decide) (ble rfl) (ce' := 0) (sl' := 0) rfl rfl (by decide) (by decide) (fun v893 h894 hQ895 => ?_)
  obtain ⟨rfl, rfl⟩ := hQ895
  show Go _ _ _ _ _ _ _ _ _ _ _ _ _ _ _ _ _ _ _ _ 0 0 5 #[.val (.ref b), .val (.int (0 : Int32))] []
  refine Go.aloadN (q := 6) hx (hb hby d20_5) rfl (by rfl) rfl ?_
  refine Go.iloadN (q := 7) hx (hb hby d20_6) rfl rfl ?_
  refine Go.callS (q := 10) hx hZ (argsL := [(.ref b), (.int (0 : Int32))]) (rest := []) hown (tw hw 91 rfl) (tw hw 92 rfl) (tw hw 45 rfl) (tw hw 93 rfl) (by decide) (rmG2_0 l Z a0 hw hel b kb c0 c1 h0 n0 Z0 B hq0 X0 AD HB LB) (fun _ hx => nomatch hx) (by rw [hml]; rfl) pd_5 rfl rfl (hb hby d20_7) rfl (by decide) (ble rfl) (ce' := 0) (sl' := 0) rfl rfl (by decide) (by decide) (fun v896 h897 hQ898 => ?_)
  obtain ⟨rfl, rfl⟩ := hQ898
  show Go _ _ _ _ _ _ _ _ _ _ _ _ _ _ _ _ _ _ _ _ 0 0 10 #[.val (.ref b), .val (.int (0 : Int32))] [(.int c0)]
  refine Go.retN hx (t := .char) hret (by simp) hlk (hb hby d20_10) (by decide) (by decide) ?_
  exact ⟨congrArg (fun z => some (Value.int z)) (nar_chr hq0), rfl⟩
theorem rmCh1_2_0 (l : Launch) (Z : State) (a0 : Array Value) (hw : ∀ d ∈ tables_1, d.before a0 Z = true) (hel : EW Z a0 consts_1) (sa b : Addr) (kb : ClassId) (cst : Int32) (fv : Value) (c0 c1 : Int32) (h0 : Heap) (n0 : Nat) (Z0 : n0 ≤ h0.size) (E : Exa Z h0 sa "java/lang/String") (F1 : Fld Z h0 sa "java/lang/String" "value" "[B" (.ref b)) (F2 : Fld Z h0 sa "java/lang/String" "coder" "B" (.int (1 : Int32))) (B : Arv Z h0 b kb .byte (4 : Int32) [(.int (nar .byte (c0 >>> ((0 : Int32) &&& 31)).toInt8.toInt32)), (.int (nar .byte (c0 >>> ((8 : Int32) &&& 31)).toInt8.toInt32)), (.int (nar .byte (c1 >>> ((0 : Int32) &&& 31)).toInt8.toInt32)), (.int (nar .byte (c1 >>> ((8 : Int32) &&& 31)).toInt8.toInt32))] (.int (0 : Int32))) (hq0 : Chr c0) (hq1 : Chr c1) (X0 : Old Z n0 h0) (SC : Sta Z Z.heap "java/lang/String" "COMPACT_STRINGS" "Z" (.int cst)) (hcs : ¬ cst = (0 : Int32)) (AD : Sta Z Z.heap "java/lang/StringUTF16" "$assertionsDisabled" "Z" (.int (1 : Int32))) (HB : Sta Z Z.heap "java/lang/StringUTF16" "HI_BYTE_SHIFT" "I" (.int (0 : Int32))) (LB : Sta Z Z.heap "java/lang/StringUTF16" "LO_BYTE_SHIFT" "I" (.int (8 : Int32))) (PF : Sta Z Z.heap "jdk/internal/util/Preconditions" "SIOOBE_FORMATTER" "Ljava/util/function/BiFunction;" fv) (hfv : fv.isRef = true) :
    Met l Z consts_1 [] (⟨"java/lang/String", "charAt", "(I)C"⟩ : MethodName) jdk_42_method_56_code 2 (Option.some FieldType.char) [] ({ frames := 4, cells := 0, slots := 0, locals := 77 } : Room) #[(.ref sa), (.int (0 : Int32))] h0 n0 (fun v h => v = some (.int c0) ∧ h0 = h) := by
  refine Met.of (Ls0 := #[.val (.ref sa), .val (.int (0 : Int32))]) pl_18 (by first | (simp [argsToLocals, Value.category]; done) | rfl) hel ?_
  intro p e s m below meth c hx hby hml hret hlk hown hnm hZ
  refine Go.aloadN (q := 1) hx (hb hby d10_0) rfl (by rfl) rfl ?_
  refine Go.callV (q := 4) hx hZ (a := sa) (argsL := []) (rest := []) hown (tw hw 58 rfl) (tw hw 59 rfl) (fun vm hzv => notFace_of_selects (args := #[]) (mvT hzv (tw hw 61 rfl))) (tw hw 61 rfl) (tw hw 60 rfl) (tw hw 8 rfl) (tw hw 62 rfl) (by decide) E (rmIs1 l Z a0 hw hel sa cst h0 n0 Z0 F2 X0 SC hcs) (fun _ hx => nomatch hx) (by rw [hml]; rfl) pd_15 rfl rfl (hb hby d10_1) rfl (by decide) (ble rfl) (ce' := 0) (sl' := 0) rfl rfl (by decide) (by decide) (fun v899 h900 hQ901 => ?_)
  obtain ⟨rfl, rfl⟩ := hQ901
  show Go _ _ _ _ _ _ _ _ _ _ _ _ _ _ _ _ _ _ _ _ 0 0 4 #[.val (.ref sa), .val (.int (0 : Int32))] [(.int (0 : Int32))]
  refine Go.if_eq (q := 7) (t := 16) hx (hb hby d10_4) (by decide) rfl rfl (fun hc4 => ?_) (fun hc4 => absurd hc4 (by decide))
  refine Go.aloadN (q := 17) hx (hb hby d10_16) rfl (by rfl) rfl ?_
  refine Go.getF (q := 20) hx hZ hown (host := "") (Or.inl (tw hw 26 rfl)) Via.refl F1 (hb hby d10_17) rfl ?_
  refine Go.iloadN (q := 21) hx (hb hby d10_20) rfl rfl ?_
  refine Go.callS (q := 24) hx hZ (argsL := [(.ref b), (.int (0 : Int32))]) (rest := []) hown (tw hw 94 rfl) (tw hw 95 rfl) (tw hw 45 rfl) (tw hw 96 rfl) (by decide) (rmUC2_0 l Z a0 hw hel b kb fv c0 c1 h0 n0 Z0 B hq0 X0 AD HB LB PF hfv) (fun _ hx => nomatch hx) (by rw [hml]; rfl) pd_5 rfl rfl (hb hby d10_21) rfl (by decide) (ble rfl) (ce' := 0) (sl' := 0) rfl rfl (by decide) (by decide) (fun v902 h903 hQ904 => ?_)
  obtain ⟨rfl, rfl⟩ := hQ904
  show Go _ _ _ _ _ _ _ _ _ _ _ _ _ _ _ _ _ _ _ _ 0 0 24 #[.val (.ref sa), .val (.int (0 : Int32))] [(.int c0)]
  refine Go.retN hx (t := .char) hret (by simp) hlk (hb hby d10_24) (by decide) (by decide) ?_
  exact ⟨congrArg (fun z => some (Value.int z)) (nar_chr hq0), rfl⟩
theorem rmUI2_1 (l : Launch) (Z : State) (a0 : Array Value) (hw : ∀ d ∈ tables_1, d.before a0 Z = true) (hel : EW Z a0 consts_1) (b : Addr) (kb : ClassId) (fv : Value) (c0 c1 : Int32) (h0 : Heap) (n0 : Nat) (Z0 : n0 ≤ h0.size) (B : Arv Z h0 b kb .byte (4 : Int32) [(.int (nar .byte (c0 >>> ((0 : Int32) &&& 31)).toInt8.toInt32)), (.int (nar .byte (c0 >>> ((8 : Int32) &&& 31)).toInt8.toInt32)), (.int (nar .byte (c1 >>> ((0 : Int32) &&& 31)).toInt8.toInt32)), (.int (nar .byte (c1 >>> ((8 : Int32) &&& 31)).toInt8.toInt32))] (.int (0 : Int32))) (hq1 : Chr c1) (X0 : Old Z n0 h0) (AD : Sta Z Z.heap "java/lang/StringUTF16" "$assertionsDisabled" "Z" (.int (1 : Int32))) (HB : Sta Z Z.heap "java/lang/StringUTF16" "HI_BYTE_SHIFT" "I" (.int (0 : Int32))) (LB : Sta Z Z.heap "java/lang/StringUTF16" "LO_BYTE_SHIFT" "I" (.int (8 : Int32))) (PF : Sta Z Z.heap "jdk/internal/util/Preconditions" "SIOOBE_FORMATTER" "Ljava/util/function/BiFunction;" fv) (hfv : fv.isRef = true) :
    Met l Z consts_1 [] (⟨"java/lang/StringUTF16", "checkIndex", "(I[B)V"⟩ : MethodName) jdk_52_method_91_code 2 (Option.none : Option FieldType) [] ({ frames := 2, cells := 0, slots := 0, locals := 39 } : Room) #[(.int (1 : Int32)), (.ref b)] h0 n0 (fun v h => v = none ∧ h0 = h) := by
  refine Met.of (Ls0 := #[.val (.int (1 : Int32)), .val (.ref b)]) pl_19 (by first | (simp [argsToLocals, Value.category]; done) | rfl) hel ?_
  intro p e s m below meth c hx hby hml hret hlk hown hnm hZ
  refine Go.iloadN (q := 1) hx (hb hby d21_0) rfl rfl ?_
  refine Go.aloadN (q := 2) hx (hb hby d21_1) rfl (by rfl) rfl ?_
  refine Go.callS (q := 5) hx hZ (argsL := [(.ref b)]) (rest := [(.int (1 : Int32))]) hown (tw hw 100 rfl) (tw hw 101 rfl) (tw hw 45 rfl) (tw hw 102 rfl) (by decide) (rmUL2 l Z a0 hw hel b kb _ h0 n0 Z0 B) (fun _ hx => nomatch hx) (by rw [hml]; rfl) pd_7 rfl rfl (hb hby d21_2) rfl (by decide) (ble rfl) (ce' := 0) (sl' := 0) rfl rfl (by decide) (by decide) (fun v905 h906 hQ907 => ?_)
  obtain ⟨rfl, rfl⟩ := hQ907
  show Go _ _ _ _ _ _ _ _ _ _ _ _ _ _ _ _ _ _ _ _ 0 0 5 #[.val (.int (1 : Int32)), .val (.ref b)] [(.int (2 : Int32)), (.int (1 : Int32))]
  refine Go.callS (q := 8) hx hZ (argsL := [(.int (1 : Int32)), (.int (2 : Int32))]) (rest := []) hown (tw hw 103 rfl) (tw hw 68 rfl) (tw hw 8 rfl) (tw hw 69 rfl) (by decide) (rmX l Z a0 hw hel (1 : Int32) (2 : Int32) fv h0 n0 Z0 (by decide) (by decide) X0 PF hfv) (fun _ hx => nomatch hx) (by rw [hml]; rfl) pd_14 rfl rfl (hb hby d21_5) rfl (by decide) (ble rfl) (ce' := 0) (sl' := 0) rfl rfl (by decide) (by decide) (fun v908 h909 hQ910 => ?_)
  obtain ⟨rfl, rfl⟩ := hQ910
  show Go _ _ _ _ _ _ _ _ _ _ _ _ _ _ _ _ _ _ _ _ 0 0 8 #[.val (.int (1 : Int32)), .val (.ref b)] []
  refine Go.ret0 hx hret hlk (hb hby d21_8) (by decide) (by decide) ?_
  exact ⟨rfl, rfl⟩
theorem rmUC2_1 (l : Launch) (Z : State) (a0 : Array Value) (hw : ∀ d ∈ tables_1, d.before a0 Z = true) (hel : EW Z a0 consts_1) (b : Addr) (kb : ClassId) (fv : Value) (c0 c1 : Int32) (h0 : Heap) (n0 : Nat) (Z0 : n0 ≤ h0.size) (B : Arv Z h0 b kb .byte (4 : Int32) [(.int (nar .byte (c0 >>> ((0 : Int32) &&& 31)).toInt8.toInt32)), (.int (nar .byte (c0 >>> ((8 : Int32) &&& 31)).toInt8.toInt32)), (.int (nar .byte (c1 >>> ((0 : Int32) &&& 31)).toInt8.toInt32)), (.int (nar .byte (c1 >>> ((8 : Int32) &&& 31)).toInt8.toInt32))] (.int (0 : Int32))) (hq1 : Chr c1) (X0 : Old Z n0 h0) (AD : Sta Z Z.heap "java/lang/StringUTF16" "$assertionsDisabled" "Z" (.int (1 : Int32))) (HB : Sta Z Z.heap "java/lang/StringUTF16" "HI_BYTE_SHIFT" "I" (.int (0 : Int32))) (LB : Sta Z Z.heap "java/lang/StringUTF16" "LO_BYTE_SHIFT" "I" (.int (8 : Int32))) (PF : Sta Z Z.heap "jdk/internal/util/Preconditions" "SIOOBE_FORMATTER" "Ljava/util/function/BiFunction;" fv) (hfv : fv.isRef = true) :
    Met l Z consts_1 [] (⟨"java/lang/StringUTF16", "charAt", "([BI)C"⟩ : MethodName) jdk_52_method_83_code 2 (Option.some FieldType.char) [] ({ frames := 3, cells := 0, slots := 0, locals := 58 } : Room) #[(.ref b), (.int (1 : Int32))] h0 n0 (fun v h => v = some (.int c1) ∧ h0 = h) := by
  refine Met.of (Ls0 := #[.val (.ref b), .val (.int (1 : Int32))]) pl_20 (by first | (simp [argsToLocals, Value.category]; done) | rfl) hel ?_
  intro p e s m below meth c hx hby hml hret hlk hown hnm hZ
  refine Go.iloadN (q := 1) hx (hb hby d20_0) rfl rfl ?_
  refine Go.aloadN (q := 2) hx (hb hby d20_1) rfl (by rfl) rfl ?_
  refine Go.callS (q := 5) hx hZ (argsL := [(.int (1 : Int32)), (.ref b)]) (rest := []) hown (tw hw 97 rfl) (tw hw 98 rfl) (tw hw 45 rfl) (tw hw 99 rfl) (by decide) (rmUI2_1 l Z a0 hw hel b kb fv c0 c1 h0 n0 Z0 B hq1 X0 AD HB LB PF hfv) (fun _ hx => nomatch hx) (by rw [hml]; rfl) pd_16 rfl rfl (hb hby d20_2) rfl (by decide) (ble rfl) (ce' := 0) (sl' := 0) rfl rfl (by decide) (by decide) (fun v911 h912 hQ913 => ?_)
  obtain ⟨rfl, rfl⟩ := hQ913
  show Go _ _ _ _ _ _ _ _ _ _ _ _ _ _ _ _ _ _ _ _ 0 0 5 #[.val (.ref b), .val (.int (1 : Int32))] []
  refine Go.aloadN (q := 6) hx (hb hby d20_5) rfl (by rfl) rfl ?_
  refine Go.iloadN (q := 7) hx (hb hby d20_6) rfl rfl ?_
  refine Go.callS (q := 10) hx hZ (argsL := [(.ref b), (.int (1 : Int32))]) (rest := []) hown (tw hw 91 rfl) (tw hw 92 rfl) (tw hw 45 rfl) (tw hw 93 rfl) (by decide) (rmG2_1 l Z a0 hw hel b kb c0 c1 h0 n0 Z0 B hq1 X0 AD HB LB) (fun _ hx => nomatch hx) (by rw [hml]; rfl) pd_5 rfl rfl (hb hby d20_7) rfl (by decide) (ble rfl) (ce' := 0) (sl' := 0) rfl rfl (by decide) (by decide) (fun v914 h915 hQ916 => ?_)
  obtain ⟨rfl, rfl⟩ := hQ916
  show Go _ _ _ _ _ _ _ _ _ _ _ _ _ _ _ _ _ _ _ _ 0 0 10 #[.val (.ref b), .val (.int (1 : Int32))] [(.int c1)]
  refine Go.retN hx (t := .char) hret (by simp) hlk (hb hby d20_10) (by decide) (by decide) ?_
  exact ⟨congrArg (fun z => some (Value.int z)) (nar_chr hq1), rfl⟩
theorem rmCh1_2_1 (l : Launch) (Z : State) (a0 : Array Value) (hw : ∀ d ∈ tables_1, d.before a0 Z = true) (hel : EW Z a0 consts_1) (sa b : Addr) (kb : ClassId) (cst : Int32) (fv : Value) (c0 c1 : Int32) (h0 : Heap) (n0 : Nat) (Z0 : n0 ≤ h0.size) (E : Exa Z h0 sa "java/lang/String") (F1 : Fld Z h0 sa "java/lang/String" "value" "[B" (.ref b)) (F2 : Fld Z h0 sa "java/lang/String" "coder" "B" (.int (1 : Int32))) (B : Arv Z h0 b kb .byte (4 : Int32) [(.int (nar .byte (c0 >>> ((0 : Int32) &&& 31)).toInt8.toInt32)), (.int (nar .byte (c0 >>> ((8 : Int32) &&& 31)).toInt8.toInt32)), (.int (nar .byte (c1 >>> ((0 : Int32) &&& 31)).toInt8.toInt32)), (.int (nar .byte (c1 >>> ((8 : Int32) &&& 31)).toInt8.toInt32))] (.int (0 : Int32))) (hq0 : Chr c0) (hq1 : Chr c1) (X0 : Old Z n0 h0) (SC : Sta Z Z.heap "java/lang/String" "COMPACT_STRINGS" "Z" (.int cst)) (hcs : ¬ cst = (0 : Int32)) (AD : Sta Z Z.heap "java/lang/StringUTF16" "$assertionsDisabled" "Z" (.int (1 : Int32))) (HB : Sta Z Z.heap "java/lang/StringUTF16" "HI_BYTE_SHIFT" "I" (.int (0 : Int32))) (LB : Sta Z Z.heap "java/lang/StringUTF16" "LO_BYTE_SHIFT" "I" (.int (8 : Int32))) (PF : Sta Z Z.heap "jdk/internal/util/Preconditions" "SIOOBE_FORMATTER" "Ljava/util/function/BiFunction;" fv) (hfv : fv.isRef = true) :
    Met l Z consts_1 [] (⟨"java/lang/String", "charAt", "(I)C"⟩ : MethodName) jdk_42_method_56_code 2 (Option.some FieldType.char) [] ({ frames := 4, cells := 0, slots := 0, locals := 77 } : Room) #[(.ref sa), (.int (1 : Int32))] h0 n0 (fun v h => v = some (.int c1) ∧ h0 = h) := by
  refine Met.of (Ls0 := #[.val (.ref sa), .val (.int (1 : Int32))]) pl_18 (by first | (simp [argsToLocals, Value.category]; done) | rfl) hel ?_
  intro p e s m below meth c hx hby hml hret hlk hown hnm hZ
  refine Go.aloadN (q := 1) hx (hb hby d10_0) rfl (by rfl) rfl ?_
  refine Go.callV (q := 4) hx hZ (a := sa) (argsL := []) (rest := []) hown (tw hw 58 rfl) (tw hw 59 rfl) (fun vm hzv => notFace_of_selects (args := #[]) (mvT hzv (tw hw 61 rfl))) (tw hw 61 rfl) (tw hw 60 rfl) (tw hw 8 rfl) (tw hw 62 rfl) (by decide) E (rmIs1 l Z a0 hw hel sa cst h0 n0 Z0 F2 X0 SC hcs) (fun _ hx => nomatch hx) (by rw [hml]; rfl) pd_15 rfl rfl (hb hby d10_1) rfl (by decide) (ble rfl) (ce' := 0) (sl' := 0) rfl rfl (by decide) (by decide) (fun v917 h918 hQ919 => ?_)
  obtain ⟨rfl, rfl⟩ := hQ919
  show Go _ _ _ _ _ _ _ _ _ _ _ _ _ _ _ _ _ _ _ _ 0 0 4 #[.val (.ref sa), .val (.int (1 : Int32))] [(.int (0 : Int32))]
  refine Go.if_eq (q := 7) (t := 16) hx (hb hby d10_4) (by decide) rfl rfl (fun hc4 => ?_) (fun hc4 => absurd hc4 (by decide))
  refine Go.aloadN (q := 17) hx (hb hby d10_16) rfl (by rfl) rfl ?_
  refine Go.getF (q := 20) hx hZ hown (host := "") (Or.inl (tw hw 26 rfl)) Via.refl F1 (hb hby d10_17) rfl ?_
  refine Go.iloadN (q := 21) hx (hb hby d10_20) rfl rfl ?_
  refine Go.callS (q := 24) hx hZ (argsL := [(.ref b), (.int (1 : Int32))]) (rest := []) hown (tw hw 94 rfl) (tw hw 95 rfl) (tw hw 45 rfl) (tw hw 96 rfl) (by decide) (rmUC2_1 l Z a0 hw hel b kb fv c0 c1 h0 n0 Z0 B hq1 X0 AD HB LB PF hfv) (fun _ hx => nomatch hx) (by rw [hml]; rfl) pd_5 rfl rfl (hb hby d10_21) rfl (by decide) (ble rfl) (ce' := 0) (sl' := 0) rfl rfl (by decide) (by decide) (fun v920 h921 hQ922 => ?_)
  obtain ⟨rfl, rfl⟩ := hQ922
  show Go _ _ _ _ _ _ _ _ _ _ _ _ _ _ _ _ _ _ _ _ 0 0 24 #[.val (.ref sa), .val (.int (1 : Int32))] [(.int c1)]
  refine Go.retN hx (t := .char) hret (by simp) hlk (hb hby d10_24) (by decide) (by decide) ?_
  exact ⟨congrArg (fun z => some (Value.int z)) (nar_chr hq1), rfl⟩
theorem rmAs1_2 (l : Launch) (Z : State) (a0 : Array Value) (hw : ∀ d ∈ tables_1, d.before a0 Z = true) (hel : EW Z a0 consts_1) (sa b : Addr) (kb : ClassId) (cst : Int32) (fv : Value) (c0 c1 : Int32) (h0 : Heap) (n0 : Nat) (Z0 : n0 ≤ h0.size) (E : Exa Z h0 sa "java/lang/String") (F1 : Fld Z h0 sa "java/lang/String" "value" "[B" (.ref b)) (F2 : Fld Z h0 sa "java/lang/String" "coder" "B" (.int (1 : Int32))) (B : Arv Z h0 b kb .byte (4 : Int32) [(.int (nar .byte (c0 >>> ((0 : Int32) &&& 31)).toInt8.toInt32)), (.int (nar .byte (c0 >>> ((8 : Int32) &&& 31)).toInt8.toInt32)), (.int (nar .byte (c1 >>> ((0 : Int32) &&& 31)).toInt8.toInt32)), (.int (nar .byte (c1 >>> ((8 : Int32) &&& 31)).toInt8.toInt32))] (.int (0 : Int32))) (hq0 : Chr c0) (hq1 : Chr c1) (X0 : Old Z n0 h0) (SC : Sta Z Z.heap "java/lang/String" "COMPACT_STRINGS" "Z" (.int cst)) (hcs : ¬ cst = (0 : Int32)) (AD : Sta Z Z.heap "java/lang/StringUTF16" "$assertionsDisabled" "Z" (.int (1 : Int32))) (HB : Sta Z Z.heap "java/lang/StringUTF16" "HI_BYTE_SHIFT" "I" (.int (0 : Int32))) (LB : Sta Z Z.heap "java/lang/StringUTF16" "LO_BYTE_SHIFT" "I" (.int (8 : Int32))) (PF : Sta Z Z.heap "jdk/internal/util/Preconditions" "SIOOBE_FORMATTER" "Ljava/util/function/BiFunction;" fv) (hfv : fv.isRef = true) :
    Met l Z consts_1 [] (⟨"com/example/epithet/epithet/store/MappedTable", "isAscii", "(Ljava/lang/String;)Z"⟩ : MethodName) prog_59_method_39_code 2 (Option.some FieldType.boolean) [] ({ frames := 5, cells := 0, slots := 0, locals := 96 } : Room) #[(.ref sa)] h0 n0 (fun v h => v = some (.int (if c0 < (128 : Int32) ∧ c1 < (128 : Int32) then (1 : Int32) else (0 : Int32))) ∧ h0 = h) := by
  refine Met.of (Ls0 := #[.val (.ref sa), .unset]) pl_15 (by first | (simp [argsToLocals, Value.category]; done) | rfl) hel ?_
  intro p e s m below meth c hx hby hml hret hlk hown hnm hZ
  refine Go.iconst (q := 1) (z := (0 : Int32)) hx (hb hby d4_0) rfl rfl ?_
  refine Go.istoreN (q := 2) (l' := #[.val (.ref sa), .val (.int (0 : Int32))]) hx (hb hby d4_1) rfl rfl ?_
  refine Go.iloadN (q := 3) hx (hb hby d4_2) rfl rfl ?_
  refine Go.aloadN (q := 4) hx (hb hby d4_3) rfl (by rfl) rfl ?_
  refine Go.callV (q := 7) hx hZ (a := sa) (argsL := []) (rest := [(.int (0 : Int32))]) hown (tw hw 32 rfl) (tw hw 33 rfl) (fun vm hzv => notFace_of_selects (args := #[]) (mvT hzv (tw hw 35 rfl))) (tw hw 35 rfl) (tw hw 34 rfl) (tw hw 8 rfl) (tw hw 36 rfl) (by decide) E (rmLe1_2 l Z a0 hw hel sa b kb cst fv c0 c1 h0 n0 Z0 E F1 F2 B hq0 hq1 X0 SC hcs AD HB LB PF hfv) (fun _ hx => nomatch hx) (by rw [hml]; rfl) pd_12 rfl rfl (hb hby d4_4) rfl (by decide) (ble rfl) (ce' := 0) (sl' := 0) rfl rfl (by decide) (by decide) (fun v923 h924 hQ925 => ?_)
  obtain ⟨rfl, rfl⟩ := hQ925
  show Go _ _ _ _ _ _ _ _ _ _ _ _ _ _ _ _ _ _ _ _ 0 0 7 #[.val (.ref sa), .val (.int (0 : Int32))] [(.int (2 : Int32)), (.int (0 : Int32))]
  refine Go.icmp_ge (q := 10) (t := 29) hx (hb hby d4_7) (by decide) rfl rfl (fun hc7 => absurd hc7 (by decide)) (fun hc7 => ?_)
  refine Go.aloadN (q := 11) hx (hb hby d4_10) rfl (by rfl) rfl ?_
  refine Go.iloadN (q := 12) hx (hb hby d4_11) rfl rfl ?_
  refine Go.callV (q := 15) hx hZ (a := sa) (argsL := [(.int (0 : Int32))]) (rest := []) hown (tw hw 53 rfl) (tw hw 54 rfl) (fun vm hzv => notFace_of_selects (args := #[]) (mvT hzv (tw hw 56 rfl))) (tw hw 56 rfl) (tw hw 55 rfl) (tw hw 8 rfl) (tw hw 57 rfl) (by decide) E (rmCh1_2_0 l Z a0 hw hel sa b kb cst fv c0 c1 h0 n0 Z0 E F1 F2 B hq0 hq1 X0 SC hcs AD HB LB PF hfv) (fun _ hx => nomatch hx) (by rw [hml]; rfl) pd_13 rfl rfl (hb hby d4_12) rfl (by decide) (ble rfl) (ce' := 0) (sl' := 0) rfl rfl (by decide) (by decide) (fun v926 h927 hQ928 => ?_)
  obtain ⟨rfl, rfl⟩ := hQ928
  show Go _ _ _ _ _ _ _ _ _ _ _ _ _ _ _ _ _ _ _ _ 0 0 15 #[.val (.ref sa), .val (.int (0 : Int32))] [(.int c0)]
  refine Go.sipush (q := 18) (z := (128 : Int32)) hx (hb hby d4_15) rfl rfl ?_
  refine Go.icmp_lt (q := 21) (t := 23) hx (hb hby d4_18) (by decide) rfl rfl (fun hc18 => ?_) (fun hc18 => ?_)
  · skip
    refine Go.iinc (q := 26) (l' := #[.val (.ref sa), .val (.int ((0 : Int32) + (1 : Int32)))]) hx (hb hby d4_23) rfl rfl rfl ?_
    refine Go.goto (q := 2) hx (hb hby d4_26) (by decide) rfl ?_
    rw [show (0 : Int32) + (1 : Int32) = (1 : Int32) from by decide]
    refine Go.iloadN (q := 3) hx (hb hby d4_2) rfl rfl ?_
    refine Go.aloadN (q := 4) hx (hb hby d4_3) rfl (by rfl) rfl ?_
    refine Go.callV (q := 7) hx hZ (a := sa) (argsL := []) (rest := [(.int (1 : Int32))]) hown (tw hw 32 rfl) (tw hw 33 rfl) (fun vm hzv => notFace_of_selects (args := #[]) (mvT hzv (tw hw 35 rfl))) (tw hw 35 rfl) (tw hw 34 rfl) (tw hw 8 rfl) (tw hw 36 rfl) (by decide) E (rmLe1_2 l Z a0 hw hel sa b kb cst fv c0 c1 h0 n0 Z0 E F1 F2 B hq0 hq1 X0 SC hcs AD HB LB PF hfv) (fun _ hx => nomatch hx) (by rw [hml]; rfl) pd_12 rfl rfl (hb hby d4_4) rfl (by decide) (ble rfl) (ce' := 0) (sl' := 0) rfl rfl (by decide) (by decide) (fun v929 h930 hQ931 => ?_)
    obtain ⟨rfl, rfl⟩ := hQ931
    show Go _ _ _ _ _ _ _ _ _ _ _ _ _ _ _ _ _ _ _ _ 0 0 7 #[.val (.ref sa), .val (.int (1 : Int32))] [(.int (2 : Int32)), (.int (1 : Int32))]
    refine Go.icmp_ge (q := 10) (t := 29) hx (hb hby d4_7) (by decide) rfl rfl (fun hc7_1 => absurd hc7_1 (by decide)) (fun hc7_1 => ?_)
    refine Go.aloadN (q := 11) hx (hb hby d4_10) rfl (by rfl) rfl ?_
    refine Go.iloadN (q := 12) hx (hb hby d4_11) rfl rfl ?_
    refine Go.callV (q := 15) hx hZ (a := sa) (argsL := [(.int (1 : Int32))]) (rest := []) hown (tw hw 53 rfl) (tw hw 54 rfl) (fun vm hzv => notFace_of_selects (args := #[]) (mvT hzv (tw hw 56 rfl))) (tw hw 56 rfl) (tw hw 55 rfl) (tw hw 8 rfl) (tw hw 57 rfl) (by decide) E (rmCh1_2_1 l Z a0 hw hel sa b kb cst fv c0 c1 h0 n0 Z0 E F1 F2 B hq0 hq1 X0 SC hcs AD HB LB PF hfv) (fun _ hx => nomatch hx) (by rw [hml]; rfl) pd_13 rfl rfl (hb hby d4_12) rfl (by decide) (ble rfl) (ce' := 0) (sl' := 0) rfl rfl (by decide) (by decide) (fun v932 h933 hQ934 => ?_)
    obtain ⟨rfl, rfl⟩ := hQ934
    show Go _ _ _ _ _ _ _ _ _ _ _ _ _ _ _ _ _ _ _ _ 0 0 15 #[.val (.ref sa), .val (.int (1 : Int32))] [(.int c1)]
    refine Go.sipush (q := 18) (z := (128 : Int32)) hx (hb hby d4_15) rfl rfl ?_
    refine Go.icmp_lt (q := 21) (t := 23) hx (hb hby d4_18) (by decide) rfl rfl (fun hc18_1 => ?_) (fun hc18_1 => ?_)
    · skip
      refine Go.iinc (q := 26) (l' := #[.val (.ref sa), .val (.int ((1 : Int32) + (1 : Int32)))]) hx (hb hby d4_23) rfl rfl rfl ?_
      refine Go.goto (q := 2) hx (hb hby d4_26) (by decide) rfl ?_
      rw [show (1 : Int32) + (1 : Int32) = (2 : Int32) from by decide]
      refine Go.iloadN (q := 3) hx (hb hby d4_2) rfl rfl ?_
      refine Go.aloadN (q := 4) hx (hb hby d4_3) rfl (by rfl) rfl ?_
      refine Go.callV (q := 7) hx hZ (a := sa) (argsL := []) (rest := [(.int (2 : Int32))]) hown (tw hw 32 rfl) (tw hw 33 rfl) (fun vm hzv => notFace_of_selects (args := #[]) (mvT hzv (tw hw 35 rfl))) (tw hw 35 rfl) (tw hw 34 rfl) (tw hw 8 rfl) (tw hw 36 rfl) (by decide) E (rmLe1_2 l Z a0 hw hel sa b kb cst fv c0 c1 h0 n0 Z0 E F1 F2 B hq0 hq1 X0 SC hcs AD HB LB PF hfv) (fun _ hx => nomatch hx) (by rw [hml]; rfl) pd_12 rfl rfl (hb hby d4_4) rfl (by decide) (ble rfl) (ce' := 0) (sl' := 0) rfl rfl (by decide) (by decide) (fun v935 h936 hQ937 => ?_)
      obtain ⟨rfl, rfl⟩ := hQ937
      show Go _ _ _ _ _ _ _ _ _ _ _ _ _ _ _ _ _ _ _ _ 0 0 7 #[.val (.ref sa), .val (.int (2 : Int32))] [(.int (2 : Int32)), (.int (2 : Int32))]
      refine Go.icmp_ge (q := 10) (t := 29) hx (hb hby d4_7) (by decide) rfl rfl (fun hc7_2 => ?_) (fun hc7_2 => absurd hc7_2 (by decide))
      refine Go.iconst (q := 30) (z := (1 : Int32)) hx (hb hby d4_29) rfl rfl ?_
      refine Go.retN hx (t := .boolean) hret (by simp) hlk (hb hby d4_30) (by decide) (by decide) ?_
      exact ⟨congrArg (fun z => some (Value.int z)) ((if_pos ⟨hc18, hc18_1⟩).symm : (1 : Int32) = _), rfl⟩
    · skip
      refine Go.iconst (q := 22) (z := (0 : Int32)) hx (hb hby d4_21) rfl rfl ?_
      refine Go.retN hx (t := .boolean) hret (by simp) hlk (hb hby d4_22) (by decide) (by decide) ?_
      exact ⟨congrArg (fun z => some (Value.int z)) ((if_neg (fun q => absurd q.2 hc18_1)).symm : (0 : Int32) = _), rfl⟩
  · skip
    refine Go.iconst (q := 22) (z := (0 : Int32)) hx (hb hby d4_21) rfl rfl ?_
    refine Go.retN hx (t := .boolean) hret (by simp) hlk (hb hby d4_22) (by decide) (by decide) ?_
    exact ⟨congrArg (fun z => some (Value.int z)) ((if_neg (fun q => absurd q.1 hc18)).symm : (0 : Int32) = _), rfl⟩
def Str2 (Z : State) (h : Heap) (sa : Addr) (c0 c1 : Int32) : Prop := Exa Z h sa "java/lang/String" ∧ ∃ b kb, Fld Z h sa "java/lang/String" "value" "[B" (.ref b) ∧ (((¬ (255 : Int32) < c0) ∧ (¬ (255 : Int32) < c1) ∧ Fld Z h sa "java/lang/String" "coder" "B" (.int (0 : Int32)) ∧ Arv Z h b kb .byte (2 : Int32) [(.int (nar .byte c0.toInt8.toInt32)), (.int (nar .byte c1.toInt8.toInt32))] (.int (0 : Int32))) ∨ (Fld Z h sa "java/lang/String" "coder" "B" (.int (1 : Int32)) ∧ Arv Z h b kb .byte (4 : Int32) [(.int (nar .byte (c0 >>> ((0 : Int32) &&& 31)).toInt8.toInt32)), (.int (nar .byte (c0 >>> ((8 : Int32) &&& 31)).toInt8.toInt32)), (.int (nar .byte (c1 >>> ((0 : Int32) &&& 31)).toInt8.toInt32)), (.int (nar .byte (c1 >>> ((8 : Int32) &&& 31)).toInt8.toInt32))] (.int (0 : Int32))))
theorem rmAs2 (l : Launch) (Z : State) (a0 : Array Value) (hw : ∀ d ∈ tables_1, d.before a0 Z = true) (hel : EW Z a0 consts_1) (sa : Addr) (cst : Int32) (fv : Value) (c0 c1 : Int32) (h0 : Heap) (n0 : Nat) (Z0 : n0 ≤ h0.size) (T : Str2 Z h0 sa c0 c1) (hq0 : Chr c0) (hq1 : Chr c1) (X0 : Old Z n0 h0) (SC : Sta Z Z.heap "java/lang/String" "COMPACT_STRINGS" "Z" (.int cst)) (hcs : ¬ cst = (0 : Int32)) (AD : Sta Z Z.heap "java/lang/StringUTF16" "$assertionsDisabled" "Z" (.int (1 : Int32))) (HB : Sta Z Z.heap "java/lang/StringUTF16" "HI_BYTE_SHIFT" "I" (.int (0 : Int32))) (LB : Sta Z Z.heap "java/lang/StringUTF16" "LO_BYTE_SHIFT" "I" (.int (8 : Int32))) (PF : Sta Z Z.heap "jdk/internal/util/Preconditions" "SIOOBE_FORMATTER" "Ljava/util/function/BiFunction;" fv) (hfv : fv.isRef = true) :
    Met l Z consts_1 [] (⟨"com/example/epithet/epithet/store/MappedTable", "isAscii", "(Ljava/lang/String;)Z"⟩ : MethodName) prog_59_method_39_code 2 (Option.some FieldType.boolean) [] ({ frames := 5, cells := 0, slots := 0, locals := 96 } : Room) #[(.ref sa)] h0 n0 (fun v h => v = some (.int (if c0 < (128 : Int32) ∧ c1 < (128 : Int32) then (1 : Int32) else (0 : Int32))) ∧ h0 = h) := by
  obtain ⟨E, b, kb, F1, ⟨hp0, hp1, F2, B⟩ | ⟨F2, B⟩⟩ := T
  · exact rmAs0_2 l Z a0 hw hel sa b kb cst fv c0 c1 h0 n0 Z0 E F1 F2 B hq0 hq1 hp0 hp1 X0 SC hcs AD HB LB PF hfv
  · exact rmAs1_2 l Z a0 hw hel sa b kb cst fv c0 c1 h0 n0 Z0 E F1 F2 B hq0 hq1  X0 SC hcs AD HB LB PF hfv
theorem rmUL3 (l : Launch) (Z : State) (a0 : Array Value) (hw : ∀ d ∈ tables_1, d.before a0 Z = true) (hel : EW Z a0 consts_1) (b : Addr) (kb : ClassId) (vs : List Value) (h0 : Heap) (n0 : Nat) (Z0 : n0 ≤ h0.size) (B : Arv Z h0 b kb .byte (6 : Int32) vs (.int (0 : Int32))) :
    Met l Z consts_1 [] (⟨"java/lang/StringUTF16", "length", "([B)I"⟩ : MethodName) jdk_52_method_6_code 1 (Option.some FieldType.int) [] ({ frames := 0, cells := 0, slots := 0, locals := 0 } : Room) #[(.ref b)] h0 n0 (fun v h => v = some (.int (3 : Int32)) ∧ h0 = h) := by
  refine Met.of (Ls0 := #[.val (.ref b)]) pl_16 (by first | (simp [argsToLocals, Value.category]; done) | rfl) hel ?_
  intro p e s m below meth c hx hby hml hret hlk hown hnm hZ
  refine Go.aloadN (q := 1) hx (hb hby d22_0) rfl (by rfl) rfl ?_
  refine Go.alen (q := 2) hx hZ B (hb hby d22_1) rfl ?_
  refine Go.iconst (q := 3) (z := (1 : Int32)) hx (hb hby d22_2) rfl rfl ?_
  refine Go.ishr (q := 4) hx (hb hby d22_3) rfl ?_
  rw [show (6 : Int32) >>> ((1 : Int32) &&& 31) = (3 : Int32) from by decide]
  refine Go.retI hx hret hlk (hb hby d22_4) (by decide) (by decide) ?_
  exact ⟨rfl, rfl⟩
theorem rmLe0_3 (l : Launch) (Z : State) (a0 : Array Value) (hw : ∀ d ∈ tables_1, d.before a0 Z = true) (hel : EW Z a0 consts_1) (sa b : Addr) (kb : ClassId) (cst : Int32) (fv : Value) (c0 c1 c2 : Int32) (h0 : Heap) (n0 : Nat) (Z0 : n0 ≤ h0.size) (E : Exa Z h0 sa "java/lang/String") (F1 : Fld Z h0 sa "java/lang/String" "value" "[B" (.ref b)) (F2 : Fld Z h0 sa "java/lang/String" "coder" "B" (.int (0 : Int32))) (B : Arv Z h0 b kb .byte (3 : Int32) [(.int (nar .byte c0.toInt8.toInt32)), (.int (nar .byte c1.toInt8.toInt32)), (.int (nar .byte c2.toInt8.toInt32))] (.int (0 : Int32))) (hq0 : Chr c0) (hq1 : Chr c1) (hq2 : Chr c2) (hp0 : ¬ (255 : Int32) < c0) (hp1 : ¬ (255 : Int32) < c1) (hp2 : ¬ (255 : Int32) < c2) (X0 : Old Z n0 h0) (SC : Sta Z Z.heap "java/lang/String" "COMPACT_STRINGS" "Z" (.int cst)) (hcs : ¬ cst = (0 : Int32)) (AD : Sta Z Z.heap "java/lang/StringUTF16" "$assertionsDisabled" "Z" (.int (1 : Int32))) (HB : Sta Z Z.heap "java/lang/StringUTF16" "HI_BYTE_SHIFT" "I" (.int (0 : Int32))) (LB : Sta Z Z.heap "java/lang/StringUTF16" "LO_BYTE_SHIFT" "I" (.int (8 : Int32))) (PF : Sta Z Z.heap "jdk/internal/util/Preconditions" "SIOOBE_FORMATTER" "Ljava/util/function/BiFunction;" fv) (hfv : fv.isRef = true) :
    Met l Z consts_1 [] (⟨"java/lang/String", "length", "()I"⟩ : MethodName) jdk_42_method_54_code 1 (Option.some FieldType.int) [] ({ frames := 1, cells := 0, slots := 0, locals := 18 } : Room) #[(.ref sa)] h0 n0 (fun v h => v = some (.int (3 : Int32)) ∧ h0 = h) := by
  refine Met.of (Ls0 := #[.val (.ref sa)]) pl_14 (by first | (simp [argsToLocals, Value.category]; done) | rfl) hel ?_
  intro p e s m below meth c hx hby hml hret hlk hown hnm hZ
  refine Go.aloadN (q := 1) hx (hb hby d5_0) rfl (by rfl) rfl ?_
  refine Go.getF (q := 4) hx hZ hown (host := "") (Or.inl (tw hw 26 rfl)) Via.refl F1 (hb hby d5_1) rfl ?_
  refine Go.alen (q := 5) hx hZ B (hb hby d5_4) rfl ?_
  refine Go.aloadN (q := 6) hx (hb hby d5_5) rfl (by rfl) rfl ?_
  refine Go.callV (q := 9) hx hZ (a := sa) (argsL := []) (rest := [(.int (3 : Int32))]) hown (tw hw 37 rfl) (tw hw 38 rfl) (fun vm hzv => notFace_of_selects (args := #[]) (mvT hzv (tw hw 40 rfl))) (tw hw 40 rfl) (tw hw 39 rfl) (tw hw 8 rfl) (tw hw 41 rfl) (by decide) E (rmCo0 l Z a0 hw hel sa cst h0 n0 Z0 F2 X0 SC hcs) (fun _ hx => nomatch hx) (by rw [hml]; rfl) pd_11 rfl rfl (hb hby d5_6) rfl (by decide) (ble rfl) (ce' := 0) (sl' := 0) rfl rfl (by decide) (by decide) (fun v938 h939 hQ940 => ?_)
  obtain ⟨rfl, rfl⟩ := hQ940
  show Go _ _ _ _ _ _ _ _ _ _ _ _ _ _ _ _ _ _ _ _ 0 0 9 #[.val (.ref sa)] [(.int (0 : Int32)), (.int (3 : Int32))]
  refine Go.ishr (q := 10) hx (hb hby d5_9) rfl ?_
  rw [show (3 : Int32) >>> ((0 : Int32) &&& 31) = (3 : Int32) from by decide]
  refine Go.retI hx hret hlk (hb hby d5_10) (by decide) (by decide) ?_
  exact ⟨rfl, rfl⟩
theorem rmLC3_0 (l : Launch) (Z : State) (a0 : Array Value) (hw : ∀ d ∈ tables_1, d.before a0 Z = true) (hel : EW Z a0 consts_1) (b : Addr) (kb : ClassId) (fv : Value) (c0 c1 c2 : Int32) (h0 : Heap) (n0 : Nat) (Z0 : n0 ≤ h0.size) (B : Arv Z h0 b kb .byte (3 : Int32) [(.int (nar .byte c0.toInt8.toInt32)), (.int (nar .byte c1.toInt8.toInt32)), (.int (nar .byte c2.toInt8.toInt32))] (.int (0 : Int32))) (hq0 : Chr c0) (hp0 : ¬ (255 : Int32) < c0) (X0 : Old Z n0 h0) (PF : Sta Z Z.heap "jdk/internal/util/Preconditions" "SIOOBE_FORMATTER" "Ljava/util/function/BiFunction;" fv) (hfv : fv.isRef = true) :
    Met l Z consts_1 [] (⟨"java/lang/StringLatin1", "charAt", "([BI)C"⟩ : MethodName) jdk_43_method_2_code 2 (Option.some FieldType.char) [] ({ frames := 2, cells := 0, slots := 0, locals := 39 } : Room) #[(.ref b), (.int (0 : Int32))] h0 n0 (fun v h => v = some (.int c0) ∧ h0 = h) := by
  refine Met.of (Ls0 := #[.val (.ref b), .val (.int (0 : Int32))]) pl_17 (by first | (simp [argsToLocals, Value.category]; done) | rfl) hel ?_
  intro p e s m below meth c hx hby hml hret hlk hown hnm hZ
  refine Go.iloadN (q := 1) hx (hb hby d12_0) rfl rfl ?_
  refine Go.aloadN (q := 2) hx (hb hby d12_1) rfl (by rfl) rfl ?_
  refine Go.alen (q := 3) hx hZ B (hb hby d12_2) rfl ?_
  refine Go.callS (q := 6) hx hZ (argsL := [(.int (0 : Int32)), (.int (3 : Int32))]) (rest := []) hown (tw hw 67 rfl) (tw hw 68 rfl) (tw hw 8 rfl) (tw hw 69 rfl) (by decide) (rmX l Z a0 hw hel (0 : Int32) (3 : Int32) fv h0 n0 Z0 (by decide) (by decide) X0 PF hfv) (fun _ hx => nomatch hx) (by rw [hml]; rfl) pd_14 rfl rfl (hb hby d12_3) rfl (by decide) (ble rfl) (ce' := 0) (sl' := 0) rfl rfl (by decide) (by decide) (fun v941 h942 hQ943 => ?_)
  obtain ⟨rfl, rfl⟩ := hQ943
  show Go _ _ _ _ _ _ _ _ _ _ _ _ _ _ _ _ _ _ _ _ 0 0 6 #[.val (.ref b), .val (.int (0 : Int32))] []
  refine Go.aloadN (q := 7) hx (hb hby d12_6) rfl (by rfl) rfl ?_
  refine Go.iloadN (q := 8) hx (hb hby d12_7) rfl rfl ?_
  refine Go.baload (q := 9) (v := (.int (nar .byte c0.toInt8.toInt32))) hx hZ B ⟨by decide, by decide⟩ rfl (hb hby d12_8) rfl ?_
  refine Go.sipush (q := 12) (z := (255 : Int32)) hx (hb hby d12_9) rfl rfl ?_
  refine Go.iand (q := 13) hx (hb hby d12_12) rfl ?_
  refine Go.i2c (q := 14) hx (hb hby d12_13) rfl ?_
  refine Go.retN hx (t := .char) hret (by simp) hlk (hb hby d12_14) (by decide) (by decide) ?_
  exact ⟨congrArg (fun z => some (Value.int z)) (lat_ok hq0 hp0), rfl⟩
theorem rmCh0_3_0 (l : Launch) (Z : State) (a0 : Array Value) (hw : ∀ d ∈ tables_1, d.before a0 Z = true) (hel : EW Z a0 consts_1) (sa b : Addr) (kb : ClassId) (cst : Int32) (fv : Value) (c0 c1 c2 : Int32) (h0 : Heap) (n0 : Nat) (Z0 : n0 ≤ h0.size) (E : Exa Z h0 sa "java/lang/String") (F1 : Fld Z h0 sa "java/lang/String" "value" "[B" (.ref b)) (F2 : Fld Z h0 sa "java/lang/String" "coder" "B" (.int (0 : Int32))) (B : Arv Z h0 b kb .byte (3 : Int32) [(.int (nar .byte c0.toInt8.toInt32)), (.int (nar .byte c1.toInt8.toInt32)), (.int (nar .byte c2.toInt8.toInt32))] (.int (0 : Int32))) (hq0 : Chr c0) (hq1 : Chr c1) (hq2 : Chr c2) (hp0 : ¬ (255 : Int32) < c0) (hp1 : ¬ (255 : Int32) < c1) (hp2 : ¬ (255 : Int32) < c2) (X0 : Old Z n0 h0) (SC : Sta Z Z.heap "java/lang/String" "COMPACT_STRINGS" "Z" (.int cst)) (hcs : ¬ cst = (0 : Int32)) (AD : Sta Z Z.heap "java/lang/StringUTF16" "$assertionsDisabled" "Z" (.int (1 : Int32))) (HB : Sta Z Z.heap "java/lang/StringUTF16" "HI_BYTE_SHIFT" "I" (.int (0 : Int32))) (LB : Sta Z Z.heap "java/lang/StringUTF16" "LO_BYTE_SHIFT" "I" (.int (8 : Int32))) (PF : Sta Z Z.heap "jdk/internal/util/Preconditions" "SIOOBE_FORMATTER" "Ljava/util/function/BiFunction;" fv) (hfv : fv.isRef = true) :
    Met l Z consts_1 [] (⟨"java/lang/String", "charAt", "(I)C"⟩ : MethodName) jdk_42_method_56_code 2 (Option.some FieldType.char) [] ({ frames := 4, cells := 0, slots := 0, locals := 77 } : Room) #[(.ref sa), (.int (0 : Int32))] h0 n0 (fun v h => v = some (.int c0) ∧ h0 = h) := by
  refine Met.of (Ls0 := #[.val (.ref sa), .val (.int (0 : Int32))]) pl_18 (by first | (simp [argsToLocals, Value.category]; done) | rfl) hel ?_
  intro p e s m below meth c hx hby hml hret hlk hown hnm hZ
  refine Go.aloadN (q := 1) hx (hb hby d10_0) rfl (by rfl) rfl ?_
  refine Go.callV (q := 4) hx hZ (a := sa) (argsL := []) (rest := []) hown (tw hw 58 rfl) (tw hw 59 rfl) (fun vm hzv => notFace_of_selects (args := #[]) (mvT hzv (tw hw 61 rfl))) (tw hw 61 rfl) (tw hw 60 rfl) (tw hw 8 rfl) (tw hw 62 rfl) (by decide) E (rmIs0 l Z a0 hw hel sa cst h0 n0 Z0 F2 X0 SC hcs) (fun _ hx => nomatch hx) (by rw [hml]; rfl) pd_15 rfl rfl (hb hby d10_1) rfl (by decide) (ble rfl) (ce' := 0) (sl' := 0) rfl rfl (by decide) (by decide) (fun v944 h945 hQ946 => ?_)
  obtain ⟨rfl, rfl⟩ := hQ946
  show Go _ _ _ _ _ _ _ _ _ _ _ _ _ _ _ _ _ _ _ _ 0 0 4 #[.val (.ref sa), .val (.int (0 : Int32))] [(.int (1 : Int32))]
  refine Go.if_eq (q := 7) (t := 16) hx (hb hby d10_4) (by decide) rfl rfl (fun hc4 => absurd hc4 (by decide)) (fun hc4 => ?_)
  refine Go.aloadN (q := 8) hx (hb hby d10_7) rfl (by rfl) rfl ?_
  refine Go.getF (q := 11) hx hZ hown (host := "") (Or.inl (tw hw 26 rfl)) Via.refl F1 (hb hby d10_8) rfl ?_
  refine Go.iloadN (q := 12) hx (hb hby d10_11) rfl rfl ?_
  refine Go.callS (q := 15) hx hZ (argsL := [(.ref b), (.int (0 : Int32))]) (rest := []) hown (tw hw 63 rfl) (tw hw 64 rfl) (tw hw 65 rfl) (tw hw 66 rfl) (by decide) (rmLC3_0 l Z a0 hw hel b kb fv c0 c1 c2 h0 n0 Z0 B hq0 hp0 X0 PF hfv) (fun _ hx => nomatch hx) (by rw [hml]; rfl) pd_5 rfl rfl (hb hby d10_12) rfl (by decide) (ble rfl) (ce' := 0) (sl' := 0) rfl rfl (by decide) (by decide) (fun v947 h948 hQ949 => ?_)
  obtain ⟨rfl, rfl⟩ := hQ949
  show Go _ _ _ _ _ _ _ _ _ _ _ _ _ _ _ _ _ _ _ _ 0 0 15 #[.val (.ref sa), .val (.int (0 : Int32))] [(.int c0)]
  refine Go.retN hx (t := .char) hret (by simp) hlk (hb hby d10_15) (by decide) (by decide) ?_
  exact ⟨congrArg (fun z => some (Value.int z)) (nar_chr hq0), rfl⟩
theorem rmLC3_1 (l : Launch) (Z : State) (a0 : Array Value) (hw : ∀ d ∈ tables_1, d.before a0 Z = true) (hel : EW Z a0 consts_1) (b : Addr) (kb : ClassId) (fv : Value) (c0 c1 c2 : Int32) (h0 : Heap) (n0 : Nat) (Z0 : n0 ≤ h0.size) (B : Arv Z h0 b kb .byte (3 : Int32) [(.int (nar .byte c0.toInt8.toInt32)), (.int (nar .byte c1.toInt8.toInt32)), (.int (nar .byte c2.toInt8.toInt32))] (.int (0 : Int32))) (hq1 : Chr c1) (hp1 : ¬ (255 : Int32) < c1) (X0 : Old Z n0 h0) (PF : Sta Z Z.heap "jdk/internal/util/Preconditions" "SIOOBE_FORMATTER" "Ljava/util/function/BiFunction;" fv) (hfv : fv.isRef = true) :
    Met l Z consts_1 [] (⟨"java/lang/StringLatin1", "charAt", "([BI)C"⟩ : MethodName) jdk_43_method_2_code 2 (Option.some FieldType.char) [] ({ frames := 2, cells := 0, slots := 0, locals := 39 } : Room) #[(.ref b), (.int (1 : Int32))] h0 n0 (fun v h => v = some (.int c1) ∧ h0 = h) := by
  refine Met.of (Ls0 := #[.val (.ref b), .val (.int (1 : Int32))]) pl_17 (by first | (simp [argsToLocals, Value.category]; done) | rfl) hel ?_
  intro p e s m below meth c hx hby hml hret hlk hown hnm hZ
  refine Go.iloadN (q := 1) hx (hb hby d12_0) rfl rfl ?_
  refine Go.aloadN (q := 2) hx (hb hby d12_1) rfl (by rfl) rfl ?_
  refine Go.alen (q := 3) hx hZ B (hb hby d12_2) rfl ?_
  refine Go.callS (q := 6) hx hZ (argsL := [(.int (1 : Int32)), (.int (3 : Int32))]) (rest := []) hown (tw hw 67 rfl) (tw hw 68 rfl) (tw hw 8 rfl) (tw hw 69 rfl) (by decide) (rmX l Z a0 hw hel (1 : Int32) (3 : Int32) fv h0 n0 Z0 (by decide) (by decide) X0 PF hfv) (fun _ hx => nomatch hx) (by rw [hml]; rfl) pd_14 rfl rfl (hb hby d12_3) rfl (by decide) (ble rfl) (ce' := 0) (sl' := 0) rfl rfl (by decide) (by decide) (fun v950 h951 hQ952 => ?_)
  obtain ⟨rfl, rfl⟩ := hQ952
  show Go _ _ _ _ _ _ _ _ _ _ _ _ _ _ _ _ _ _ _ _ 0 0 6 #[.val (.ref b), .val (.int (1 : Int32))] []
  refine Go.aloadN (q := 7) hx (hb hby d12_6) rfl (by rfl) rfl ?_
  refine Go.iloadN (q := 8) hx (hb hby d12_7) rfl rfl ?_
  refine Go.baload (q := 9) (v := (.int (nar .byte c1.toInt8.toInt32))) hx hZ B ⟨by decide, by decide⟩ rfl (hb hby d12_8) rfl ?_
  refine Go.sipush (q := 12) (z := (255 : Int32)) hx (hb hby d12_9) rfl rfl ?_
  refine Go.iand (q := 13) hx (hb hby d12_12) rfl ?_
  refine Go.i2c (q := 14) hx (hb hby d12_13) rfl ?_
  refine Go.retN hx (t := .char) hret (by simp) hlk (hb hby d12_14) (by decide) (by decide) ?_
  exact ⟨congrArg (fun z => some (Value.int z)) (lat_ok hq1 hp1), rfl⟩
theorem rmCh0_3_1 (l : Launch) (Z : State) (a0 : Array Value) (hw : ∀ d ∈ tables_1, d.before a0 Z = true) (hel : EW Z a0 consts_1) (sa b : Addr) (kb : ClassId) (cst : Int32) (fv : Value) (c0 c1 c2 : Int32) (h0 : Heap) (n0 : Nat) (Z0 : n0 ≤ h0.size) (E : Exa Z h0 sa "java/lang/String") (F1 : Fld Z h0 sa "java/lang/String" "value" "[B" (.ref b)) (F2 : Fld Z h0 sa "java/lang/String" "coder" "B" (.int (0 : Int32))) (B : Arv Z h0 b kb .byte (3 : Int32) [(.int (nar .byte c0.toInt8.toInt32)), (.int (nar .byte c1.toInt8.toInt32)), (.int (nar .byte c2.toInt8.toInt32))] (.int (0 : Int32))) (hq0 : Chr c0) (hq1 : Chr c1) (hq2 : Chr c2) (hp0 : ¬ (255 : Int32) < c0) (hp1 : ¬ (255 : Int32) < c1) (hp2 : ¬ (255 : Int32) < c2) (X0 : Old Z n0 h0) (SC : Sta Z Z.heap "java/lang/String" "COMPACT_STRINGS" "Z" (.int cst)) (hcs : ¬ cst = (0 : Int32)) (AD : Sta Z Z.heap "java/lang/StringUTF16" "$assertionsDisabled" "Z" (.int (1 : Int32))) (HB : Sta Z Z.heap "java/lang/StringUTF16" "HI_BYTE_SHIFT" "I" (.int (0 : Int32))) (LB : Sta Z Z.heap "java/lang/StringUTF16" "LO_BYTE_SHIFT" "I" (.int (8 : Int32))) (PF : Sta Z Z.heap "jdk/internal/util/Preconditions" "SIOOBE_FORMATTER" "Ljava/util/function/BiFunction;" fv) (hfv : fv.isRef = true) :
    Met l Z consts_1 [] (⟨"java/lang/String", "charAt", "(I)C"⟩ : MethodName) jdk_42_method_56_code 2 (Option.some FieldType.char) [] ({ frames := 4, cells := 0, slots := 0, locals := 77 } : Room) #[(.ref sa), (.int (1 : Int32))] h0 n0 (fun v h => v = some (.int c1) ∧ h0 = h) := by
  refine Met.of (Ls0 := #[.val (.ref sa), .val (.int (1 : Int32))]) pl_18 (by first | (simp [argsToLocals, Value.category]; done) | rfl) hel ?_
  intro p e s m below meth c hx hby hml hret hlk hown hnm hZ
  refine Go.aloadN (q := 1) hx (hb hby d10_0) rfl (by rfl) rfl ?_
  refine Go.callV (q := 4) hx hZ (a := sa) (argsL := []) (rest := []) hown (tw hw 58 rfl) (tw hw 59 rfl) (fun vm hzv => notFace_of_selects (args := #[]) (mvT hzv (tw hw 61 rfl))) (tw hw 61 rfl) (tw hw 60 rfl) (tw hw 8 rfl) (tw hw 62 rfl) (by decide) E (rmIs0 l Z a0 hw hel sa cst h0 n0 Z0 F2 X0 SC hcs) (fun _ hx => nomatch hx) (by rw [hml]; rfl) pd_15 rfl rfl (hb hby d10_1) rfl (by decide) (ble rfl) (ce' := 0) (sl' := 0) rfl rfl (by decide) (by decide) (fun v953 h954 hQ955 => ?_)
  obtain ⟨rfl, rfl⟩ := hQ955
  show Go _ _ _ _ _ _ _ _ _ _ _ _ _ _ _ _ _ _ _ _ 0 0 4 #[.val (.ref sa), .val (.int (1 : Int32))] [(.int (1 : Int32))]
  refine Go.if_eq (q := 7) (t := 16) hx (hb hby d10_4) (by decide) rfl rfl (fun hc4 => absurd hc4 (by decide)) (fun hc4 => ?_)
  refine Go.aloadN (q := 8) hx (hb hby d10_7) rfl (by rfl) rfl ?_
  refine Go.getF (q := 11) hx hZ hown (host := "") (Or.inl (tw hw 26 rfl)) Via.refl F1 (hb hby d10_8) rfl ?_
  refine Go.iloadN (q := 12) hx (hb hby d10_11) rfl rfl ?_
  refine Go.callS (q := 15) hx hZ (argsL := [(.ref b), (.int (1 : Int32))]) (rest := []) hown (tw hw 63 rfl) (tw hw 64 rfl) (tw hw 65 rfl) (tw hw 66 rfl) (by decide) (rmLC3_1 l Z a0 hw hel b kb fv c0 c1 c2 h0 n0 Z0 B hq1 hp1 X0 PF hfv) (fun _ hx => nomatch hx) (by rw [hml]; rfl) pd_5 rfl rfl (hb hby d10_12) rfl (by decide) (ble rfl) (ce' := 0) (sl' := 0) rfl rfl (by decide) (by decide) (fun v956 h957 hQ958 => ?_)
  obtain ⟨rfl, rfl⟩ := hQ958
  show Go _ _ _ _ _ _ _ _ _ _ _ _ _ _ _ _ _ _ _ _ 0 0 15 #[.val (.ref sa), .val (.int (1 : Int32))] [(.int c1)]
  refine Go.retN hx (t := .char) hret (by simp) hlk (hb hby d10_15) (by decide) (by decide) ?_
  exact ⟨congrArg (fun z => some (Value.int z)) (nar_chr hq1), rfl⟩
theorem rmLC3_2 (l : Launch) (Z : State) (a0 : Array Value) (hw : ∀ d ∈ tables_1, d.before a0 Z = true) (hel : EW Z a0 consts_1) (b : Addr) (kb : ClassId) (fv : Value) (c0 c1 c2 : Int32) (h0 : Heap) (n0 : Nat) (Z0 : n0 ≤ h0.size) (B : Arv Z h0 b kb .byte (3 : Int32) [(.int (nar .byte c0.toInt8.toInt32)), (.int (nar .byte c1.toInt8.toInt32)), (.int (nar .byte c2.toInt8.toInt32))] (.int (0 : Int32))) (hq2 : Chr c2) (hp2 : ¬ (255 : Int32) < c2) (X0 : Old Z n0 h0) (PF : Sta Z Z.heap "jdk/internal/util/Preconditions" "SIOOBE_FORMATTER" "Ljava/util/function/BiFunction;" fv) (hfv : fv.isRef = true) :
    Met l Z consts_1 [] (⟨"java/lang/StringLatin1", "charAt", "([BI)C"⟩ : MethodName) jdk_43_method_2_code 2 (Option.some FieldType.char) [] ({ frames := 2, cells := 0, slots := 0, locals := 39 } : Room) #[(.ref b), (.int (2 : Int32))] h0 n0 (fun v h => v = some (.int c2) ∧ h0 = h) := by
  refine Met.of (Ls0 := #[.val (.ref b), .val (.int (2 : Int32))]) pl_17 (by first | (simp [argsToLocals, Value.category]; done) | rfl) hel ?_
  intro p e s m below meth c hx hby hml hret hlk hown hnm hZ
  refine Go.iloadN (q := 1) hx (hb hby d12_0) rfl rfl ?_
  refine Go.aloadN (q := 2) hx (hb hby d12_1) rfl (by rfl) rfl ?_
  refine Go.alen (q := 3) hx hZ B (hb hby d12_2) rfl ?_
  refine Go.callS (q := 6) hx hZ (argsL := [(.int (2 : Int32)), (.int (3 : Int32))]) (rest := []) hown (tw hw 67 rfl) (tw hw 68 rfl) (tw hw 8 rfl) (tw hw 69 rfl) (by decide) (rmX l Z a0 hw hel (2 : Int32) (3 : Int32) fv h0 n0 Z0 (by decide) (by decide) X0 PF hfv) (fun _ hx => nomatch hx) (by rw [hml]; rfl) pd_14 rfl rfl (hb hby d12_3) rfl (by decide) (ble rfl) (ce' := 0) (sl' := 0) rfl rfl (by decide) (by decide) (fun v959 h960 hQ961 => ?_)
  obtain ⟨rfl, rfl⟩ := hQ961
  show Go _ _ _ _ _ _ _ _ _ _ _ _ _ _ _ _ _ _ _ _ 0 0 6 #[.val (.ref b), .val (.int (2 : Int32))] []
  refine Go.aloadN (q := 7) hx (hb hby d12_6) rfl (by rfl) rfl ?_
  refine Go.iloadN (q := 8) hx (hb hby d12_7) rfl rfl ?_
  refine Go.baload (q := 9) (v := (.int (nar .byte c2.toInt8.toInt32))) hx hZ B ⟨by decide, by decide⟩ rfl (hb hby d12_8) rfl ?_
  refine Go.sipush (q := 12) (z := (255 : Int32)) hx (hb hby d12_9) rfl rfl ?_
  refine Go.iand (q := 13) hx (hb hby d12_12) rfl ?_
  refine Go.i2c (q := 14) hx (hb hby d12_13) rfl ?_
  refine Go.retN hx (t := .char) hret (by simp) hlk (hb hby d12_14) (by decide) (by decide) ?_
  exact ⟨congrArg (fun z => some (Value.int z)) (lat_ok hq2 hp2), rfl⟩
theorem rmCh0_3_2 (l : Launch) (Z : State) (a0 : Array Value) (hw : ∀ d ∈ tables_1, d.before a0 Z = true) (hel : EW Z a0 consts_1) (sa b : Addr) (kb : ClassId) (cst : Int32) (fv : Value) (c0 c1 c2 : Int32) (h0 : Heap) (n0 : Nat) (Z0 : n0 ≤ h0.size) (E : Exa Z h0 sa "java/lang/String") (F1 : Fld Z h0 sa "java/lang/String" "value" "[B" (.ref b)) (F2 : Fld Z h0 sa "java/lang/String" "coder" "B" (.int (0 : Int32))) (B : Arv Z h0 b kb .byte (3 : Int32) [(.int (nar .byte c0.toInt8.toInt32)), (.int (nar .byte c1.toInt8.toInt32)), (.int (nar .byte c2.toInt8.toInt32))] (.int (0 : Int32))) (hq0 : Chr c0) (hq1 : Chr c1) (hq2 : Chr c2) (hp0 : ¬ (255 : Int32) < c0) (hp1 : ¬ (255 : Int32) < c1) (hp2 : ¬ (255 : Int32) < c2) (X0 : Old Z n0 h0) (SC : Sta Z Z.heap "java/lang/String" "COMPACT_STRINGS" "Z" (.int cst)) (hcs : ¬ cst = (0 : Int32)) (AD : Sta Z Z.heap "java/lang/StringUTF16" "$assertionsDisabled" "Z" (.int (1 : Int32))) (HB : Sta Z Z.heap "java/lang/StringUTF16" "HI_BYTE_SHIFT" "I" (.int (0 : Int32))) (LB : Sta Z Z.heap "java/lang/StringUTF16" "LO_BYTE_SHIFT" "I" (.int (8 : Int32))) (PF : Sta Z Z.heap "jdk/internal/util/Preconditions" "SIOOBE_FORMATTER" "Ljava/util/function/BiFunction;" fv) (hfv : fv.isRef = true) :
    Met l Z consts_1 [] (⟨"java/lang/String", "charAt", "(I)C"⟩ : MethodName) jdk_42_method_56_code 2 (Option.some FieldType.char) [] ({ frames := 4, cells := 0, slots := 0, locals := 77 } : Room) #[(.ref sa), (.int (2 : Int32))] h0 n0 (fun v h => v = some (.int c2) ∧ h0 = h) := by
  refine Met.of (Ls0 := #[.val (.ref sa), .val (.int (2 : Int32))]) pl_18 (by first | (simp [argsToLocals, Value.category]; done) | rfl) hel ?_
  intro p e s m below meth c hx hby hml hret hlk hown hnm hZ
  refine Go.aloadN (q := 1) hx (hb hby d10_0) rfl (by rfl) rfl ?_
  refine Go.callV (q := 4) hx hZ (a := sa) (argsL := []) (rest := []) hown (tw hw 58 rfl) (tw hw 59 rfl) (fun vm hzv => notFace_of_selects (args := #[]) (mvT hzv (tw hw 61 rfl))) (tw hw 61 rfl) (tw hw 60 rfl) (tw hw 8 rfl) (tw hw 62 rfl) (by decide) E (rmIs0 l Z a0 hw hel sa cst h0 n0 Z0 F2 X0 SC hcs) (fun _ hx => nomatch hx) (by rw [hml]; rfl) pd_15 rfl rfl (hb hby d10_1) rfl (by decide) (ble rfl) (ce' := 0) (sl' := 0) rfl rfl (by decide) (by decide) (fun v962 h963 hQ964 => ?_)
  obtain ⟨rfl, rfl⟩ := hQ964
  show Go _ _ _ _ _ _ _ _ _ _ _ _ _ _ _ _ _ _ _ _ 0 0 4 #[.val (.ref sa), .val (.int (2 : Int32))] [(.int (1 : Int32))]
  refine Go.if_eq (q := 7) (t := 16) hx (hb hby d10_4) (by decide) rfl rfl (fun hc4 => absurd hc4 (by decide)) (fun hc4 => ?_)
  refine Go.aloadN (q := 8) hx (hb hby d10_7) rfl (by rfl) rfl ?_
  refine Go.getF (q := 11) hx hZ hown (host := "") (Or.inl (tw hw 26 rfl)) Via.refl F1 (hb hby d10_8) rfl ?_
  refine Go.iloadN (q := 12) hx (hb hby d10_11) rfl rfl ?_
  refine Go.callS (q := 15) hx hZ (argsL := [(.ref b), (.int (2 : Int32))]) (rest := []) hown (tw hw 63 rfl) (tw hw 64 rfl) (tw hw 65 rfl) (tw hw 66 rfl) (by decide) (rmLC3_2 l Z a0 hw hel b kb fv c0 c1 c2 h0 n0 Z0 B hq2 hp2 X0 PF hfv) (fun _ hx => nomatch hx) (by rw [hml]; rfl) pd_5 rfl rfl (hb hby d10_12) rfl (by decide) (ble rfl) (ce' := 0) (sl' := 0) rfl rfl (by decide) (by decide) (fun v965 h966 hQ967 => ?_)
  obtain ⟨rfl, rfl⟩ := hQ967
  show Go _ _ _ _ _ _ _ _ _ _ _ _ _ _ _ _ _ _ _ _ 0 0 15 #[.val (.ref sa), .val (.int (2 : Int32))] [(.int c2)]
  refine Go.retN hx (t := .char) hret (by simp) hlk (hb hby d10_15) (by decide) (by decide) ?_
  exact ⟨congrArg (fun z => some (Value.int z)) (nar_chr hq2), rfl⟩
theorem rmAs0_3 (l : Launch) (Z : State) (a0 : Array Value) (hw : ∀ d ∈ tables_1, d.before a0 Z = true) (hel : EW Z a0 consts_1) (sa b : Addr) (kb : ClassId) (cst : Int32) (fv : Value) (c0 c1 c2 : Int32) (h0 : Heap) (n0 : Nat) (Z0 : n0 ≤ h0.size) (E : Exa Z h0 sa "java/lang/String") (F1 : Fld Z h0 sa "java/lang/String" "value" "[B" (.ref b)) (F2 : Fld Z h0 sa "java/lang/String" "coder" "B" (.int (0 : Int32))) (B : Arv Z h0 b kb .byte (3 : Int32) [(.int (nar .byte c0.toInt8.toInt32)), (.int (nar .byte c1.toInt8.toInt32)), (.int (nar .byte c2.toInt8.toInt32))] (.int (0 : Int32))) (hq0 : Chr c0) (hq1 : Chr c1) (hq2 : Chr c2) (hp0 : ¬ (255 : Int32) < c0) (hp1 : ¬ (255 : Int32) < c1) (hp2 : ¬ (255 : Int32) < c2) (X0 : Old Z n0 h0) (SC : Sta Z Z.heap "java/lang/String" "COMPACT_STRINGS" "Z" (.int cst)) (hcs : ¬ cst = (0 : Int32)) (AD : Sta Z Z.heap "java/lang/StringUTF16" "$assertionsDisabled" "Z" (.int (1 : Int32))) (HB : Sta Z Z.heap "java/lang/StringUTF16" "HI_BYTE_SHIFT" "I" (.int (0 : Int32))) (LB : Sta Z Z.heap "java/lang/StringUTF16" "LO_BYTE_SHIFT" "I" (.int (8 : Int32))) (PF : Sta Z Z.heap "jdk/internal/util/Preconditions" "SIOOBE_FORMATTER" "Ljava/util/function/BiFunction;" fv) (hfv : fv.isRef = true) :
    Met l Z consts_1 [] (⟨"com/example/epithet/epithet/store/MappedTable", "isAscii", "(Ljava/lang/String;)Z"⟩ : MethodName) prog_59_method_39_code 2 (Option.some FieldType.boolean) [] ({ frames := 5, cells := 0, slots := 0, locals := 96 } : Room) #[(.ref sa)] h0 n0 (fun v h => v = some (.int (if c0 < (128 : Int32) ∧ c1 < (128 : Int32) ∧ c2 < (128 : Int32) then (1 : Int32) else (0 : Int32))) ∧ h0 = h) := by
  refine Met.of (Ls0 := #[.val (.ref sa), .unset]) pl_15 (by first | (simp [argsToLocals, Value.category]; done) | rfl) hel ?_
  intro p e s m below meth c hx hby hml hret hlk hown hnm hZ
  refine Go.iconst (q := 1) (z := (0 : Int32)) hx (hb hby d4_0) rfl rfl ?_
  refine Go.istoreN (q := 2) (l' := #[.val (.ref sa), .val (.int (0 : Int32))]) hx (hb hby d4_1) rfl rfl ?_
  refine Go.iloadN (q := 3) hx (hb hby d4_2) rfl rfl ?_
  refine Go.aloadN (q := 4) hx (hb hby d4_3) rfl (by rfl) rfl ?_
  refine Go.callV (q := 7) hx hZ (a := sa) (argsL := []) (rest := [(.int (0 : Int32))]) hown (tw hw 32 rfl) (tw hw 33 rfl) (fun vm hzv => notFace_of_selects (args := #[]) (mvT hzv (tw hw 35 rfl))) (tw hw 35 rfl) (tw hw 34 rfl) (tw hw 8 rfl) (tw hw 36 rfl) (by decide) E (rmLe0_3 l Z a0 hw hel sa b kb cst fv c0 c1 c2 h0 n0 Z0 E F1 F2 B hq0 hq1 hq2 hp0 hp1 hp2 X0 SC hcs AD HB LB PF hfv) (fun _ hx => nomatch hx) (by rw [hml]; rfl) pd_12 rfl rfl (hb hby d4_4) rfl (by decide) (ble rfl) (ce' := 0) (sl' := 0) rfl rfl (by decide) (by decide) (fun v968 h969 hQ970 => ?_)
  obtain ⟨rfl, rfl⟩ := hQ970
  show Go _ _ _ _ _ _ _ _ _ _ _ _ _ _ _ _ _ _ _ _ 0 0 7 #[.val (.ref sa), .val (.int (0 : Int32))] [(.int (3 : Int32)), (.int (0 : Int32))]
  refine Go.icmp_ge (q := 10) (t := 29) hx (hb hby d4_7) (by decide) rfl rfl (fun hc7 => absurd hc7 (by decide)) (fun hc7 => ?_)
  refine Go.aloadN (q := 11) hx (hb hby d4_10) rfl (by rfl) rfl ?_
  refine Go.iloadN (q := 12) hx (hb hby d4_11) rfl rfl ?_
  refine Go.callV (q := 15) hx hZ (a := sa) (argsL := [(.int (0 : Int32))]) (rest := []) hown (tw hw 53 rfl) (tw hw 54 rfl) (fun vm hzv => notFace_of_selects (args := #[]) (mvT hzv (tw hw 56 rfl))) (tw hw 56 rfl) (tw hw 55 rfl) (tw hw 8 rfl) (tw hw 57 rfl) (by decide) E (rmCh0_3_0 l Z a0 hw hel sa b kb cst fv c0 c1 c2 h0 n0 Z0 E F1 F2 B hq0 hq1 hq2 hp0 hp1 hp2 X0 SC hcs AD HB LB PF hfv) (fun _ hx => nomatch hx) (by rw [hml]; rfl) pd_13 rfl rfl (hb hby d4_12) rfl (by decide) (ble rfl) (ce' := 0) (sl' := 0) rfl rfl (by decide) (by decide) (fun v971 h972 hQ973 => ?_)
  obtain ⟨rfl, rfl⟩ := hQ973
  show Go _ _ _ _ _ _ _ _ _ _ _ _ _ _ _ _ _ _ _ _ 0 0 15 #[.val (.ref sa), .val (.int (0 : Int32))] [(.int c0)]
  refine Go.sipush (q := 18) (z := (128 : Int32)) hx (hb hby d4_15) rfl rfl ?_
  refine Go.icmp_lt (q := 21) (t := 23) hx (hb hby d4_18) (by decide) rfl rfl (fun hc18 => ?_) (fun hc18 => ?_)
  · skip
    refine Go.iinc (q := 26) (l' := #[.val (.ref sa), .val (.int ((0 : Int32) + (1 : Int32)))]) hx (hb hby d4_23) rfl rfl rfl ?_
    refine Go.goto (q := 2) hx (hb hby d4_26) (by decide) rfl ?_
    rw [show (0 : Int32) + (1 : Int32) = (1 : Int32) from by decide]
    refine Go.iloadN (q := 3) hx (hb hby d4_2) rfl rfl ?_
    refine Go.aloadN (q := 4) hx (hb hby d4_3) rfl (by rfl) rfl ?_
    refine Go.callV (q := 7) hx hZ (a := sa) (argsL := []) (rest := [(.int (1 : Int32))]) hown (tw hw 32 rfl) (tw hw 33 rfl) (fun vm hzv => notFace_of_selects (args := #[]) (mvT hzv (tw hw 35 rfl))) (tw hw 35 rfl) (tw hw 34 rfl) (tw hw 8 rfl) (tw hw 36 rfl) (by decide) E (rmLe0_3 l Z a0 hw hel sa b kb cst fv c0 c1 c2 h0 n0 Z0 E F1 F2 B hq0 hq1 hq2 hp0 hp1 hp2 X0 SC hcs AD HB LB PF hfv) (fun _ hx => nomatch hx) (by rw [hml]; rfl) pd_12 rfl rfl (hb hby d4_4) rfl (by decide) (ble rfl) (ce' := 0) (sl' := 0) rfl rfl (by decide) (by decide) (fun v974 h975 hQ976 => ?_)
    obtain ⟨rfl, rfl⟩ := hQ976
    show Go _ _ _ _ _ _ _ _ _ _ _ _ _ _ _ _ _ _ _ _ 0 0 7 #[.val (.ref sa), .val (.int (1 : Int32))] [(.int (3 : Int32)), (.int (1 : Int32))]
    refine Go.icmp_ge (q := 10) (t := 29) hx (hb hby d4_7) (by decide) rfl rfl (fun hc7_1 => absurd hc7_1 (by decide)) (fun hc7_1 => ?_)
    refine Go.aloadN (q := 11) hx (hb hby d4_10) rfl (by rfl) rfl ?_
    refine Go.iloadN (q := 12) hx (hb hby d4_11) rfl rfl ?_
    refine Go.callV (q := 15) hx hZ (a := sa) (argsL := [(.int (1 : Int32))]) (rest := []) hown (tw hw 53 rfl) (tw hw 54 rfl) (fun vm hzv => notFace_of_selects (args := #[]) (mvT hzv (tw hw 56 rfl))) (tw hw 56 rfl) (tw hw 55 rfl) (tw hw 8 rfl) (tw hw 57 rfl) (by decide) E (rmCh0_3_1 l Z a0 hw hel sa b kb cst fv c0 c1 c2 h0 n0 Z0 E F1 F2 B hq0 hq1 hq2 hp0 hp1 hp2 X0 SC hcs AD HB LB PF hfv) (fun _ hx => nomatch hx) (by rw [hml]; rfl) pd_13 rfl rfl (hb hby d4_12) rfl (by decide) (ble rfl) (ce' := 0) (sl' := 0) rfl rfl (by decide) (by decide) (fun v977 h978 hQ979 => ?_)
    obtain ⟨rfl, rfl⟩ := hQ979
    show Go _ _ _ _ _ _ _ _ _ _ _ _ _ _ _ _ _ _ _ _ 0 0 15 #[.val (.ref sa), .val (.int (1 : Int32))] [(.int c1)]
    refine Go.sipush (q := 18) (z := (128 : Int32)) hx (hb hby d4_15) rfl rfl ?_
    refine Go.icmp_lt (q := 21) (t := 23) hx (hb hby d4_18) (by decide) rfl rfl (fun hc18_1 => ?_) (fun hc18_1 => ?_)
    · skip
      refine Go.iinc (q := 26) (l' := #[.val (.ref sa), .val (.int ((1 : Int32) + (1 : Int32)))]) hx (hb hby d4_23) rfl rfl rfl ?_
      refine Go.goto (q := 2) hx (hb hby d4_26) (by decide) rfl ?_
      rw [show (1 : Int32) + (1 : Int32) = (2 : Int32) from by decide]
      refine Go.iloadN (q := 3) hx (hb hby d4_2) rfl rfl ?_
      refine Go.aloadN (q := 4) hx (hb hby d4_3) rfl (by rfl) rfl ?_
      refine Go.callV (q := 7) hx hZ (a := sa) (argsL := []) (rest := [(.int (2 : Int32))]) hown (tw hw 32 rfl) (tw hw 33 rfl) (fun vm hzv => notFace_of_selects (args := #[]) (mvT hzv (tw hw 35 rfl))) (tw hw 35 rfl) (tw hw 34 rfl) (tw hw 8 rfl) (tw hw 36 rfl) (by decide) E (rmLe0_3 l Z a0 hw hel sa b kb cst fv c0 c1 c2 h0 n0 Z0 E F1 F2 B hq0 hq1 hq2 hp0 hp1 hp2 X0 SC hcs AD HB LB PF hfv) (fun _ hx => nomatch hx) (by rw [hml]; rfl) pd_12 rfl rfl (hb hby d4_4) rfl (by decide) (ble rfl) (ce' := 0) (sl' := 0) rfl rfl (by decide) (by decide) (fun v980 h981 hQ982 => ?_)
      obtain ⟨rfl, rfl⟩ := hQ982
      show Go _ _ _ _ _ _ _ _ _ _ _ _ _ _ _ _ _ _ _ _ 0 0 7 #[.val (.ref sa), .val (.int (2 : Int32))] [(.int (3 : Int32)), (.int (2 : Int32))]
      refine Go.icmp_ge (q := 10) (t := 29) hx (hb hby d4_7) (by decide) rfl rfl (fun hc7_2 => absurd hc7_2 (by decide)) (fun hc7_2 => ?_)
      refine Go.aloadN (q := 11) hx (hb hby d4_10) rfl (by rfl) rfl ?_
      refine Go.iloadN (q := 12) hx (hb hby d4_11) rfl rfl ?_
      refine Go.callV (q := 15) hx hZ (a := sa) (argsL := [(.int (2 : Int32))]) (rest := []) hown (tw hw 53 rfl) (tw hw 54 rfl) (fun vm hzv => notFace_of_selects (args := #[]) (mvT hzv (tw hw 56 rfl))) (tw hw 56 rfl) (tw hw 55 rfl) (tw hw 8 rfl) (tw hw 57 rfl) (by decide) E (rmCh0_3_2 l Z a0 hw hel sa b kb cst fv c0 c1 c2 h0 n0 Z0 E F1 F2 B hq0 hq1 hq2 hp0 hp1 hp2 X0 SC hcs AD HB LB PF hfv) (fun _ hx => nomatch hx) (by rw [hml]; rfl) pd_13 rfl rfl (hb hby d4_12) rfl (by decide) (ble rfl) (ce' := 0) (sl' := 0) rfl rfl (by decide) (by decide) (fun v983 h984 hQ985 => ?_)
      obtain ⟨rfl, rfl⟩ := hQ985
      show Go _ _ _ _ _ _ _ _ _ _ _ _ _ _ _ _ _ _ _ _ 0 0 15 #[.val (.ref sa), .val (.int (2 : Int32))] [(.int c2)]
      refine Go.sipush (q := 18) (z := (128 : Int32)) hx (hb hby d4_15) rfl rfl ?_
      refine Go.icmp_lt (q := 21) (t := 23) hx (hb hby d4_18) (by decide) rfl rfl (fun hc18_2 => ?_) (fun hc18_2 => ?_)
      · skip
        refine Go.iinc (q := 26) (l' := #[.val (.ref sa), .val (.int ((2 : Int32) + (1 : Int32)))]) hx (hb hby d4_23) rfl rfl rfl ?_
        refine Go.goto (q := 2) hx (hb hby d4_26) (by decide) rfl ?_
        rw [show (2 : Int32) + (1 : Int32) = (3 : Int32) from by decide]
        refine Go.iloadN (q := 3) hx (hb hby d4_2) rfl rfl ?_
        refine Go.aloadN (q := 4) hx (hb hby d4_3) rfl (by rfl) rfl ?_
        refine Go.callV (q := 7) hx hZ (a := sa) (argsL := []) (rest := [(.int (3 : Int32))]) hown (tw hw 32 rfl) (tw hw 33 rfl) (fun vm hzv => notFace_of_selects (args := #[]) (mvT hzv (tw hw 35 rfl))) (tw hw 35 rfl) (tw hw 34 rfl) (tw hw 8 rfl) (tw hw 36 rfl) (by decide) E (rmLe0_3 l Z a0 hw hel sa b kb cst fv c0 c1 c2 h0 n0 Z0 E F1 F2 B hq0 hq1 hq2 hp0 hp1 hp2 X0 SC hcs AD HB LB PF hfv) (fun _ hx => nomatch hx) (by rw [hml]; rfl) pd_12 rfl rfl (hb hby d4_4) rfl (by decide) (ble rfl) (ce' := 0) (sl' := 0) rfl rfl (by decide) (by decide) (fun v986 h987 hQ988 => ?_)
        obtain ⟨rfl, rfl⟩ := hQ988
        show Go _ _ _ _ _ _ _ _ _ _ _ _ _ _ _ _ _ _ _ _ 0 0 7 #[.val (.ref sa), .val (.int (3 : Int32))] [(.int (3 : Int32)), (.int (3 : Int32))]
        refine Go.icmp_ge (q := 10) (t := 29) hx (hb hby d4_7) (by decide) rfl rfl (fun hc7_3 => ?_) (fun hc7_3 => absurd hc7_3 (by decide))
        refine Go.iconst (q := 30) (z := (1 : Int32)) hx (hb hby d4_29) rfl rfl ?_
        refine Go.retN hx (t := .boolean) hret (by simp) hlk (hb hby d4_30) (by decide) (by decide) ?_
        exact ⟨congrArg (fun z => some (Value.int z)) ((if_pos ⟨hc18, hc18_1, hc18_2⟩).symm : (1 : Int32) = _), rfl⟩
      · skip
        refine Go.iconst (q := 22) (z := (0 : Int32)) hx (hb hby d4_21) rfl rfl ?_
        refine Go.retN hx (t := .boolean) hret (by simp) hlk (hb hby d4_22) (by decide) (by decide) ?_
        exact ⟨congrArg (fun z => some (Value.int z)) ((if_neg (fun q => absurd q.2.2 hc18_2)).symm : (0 : Int32) = _), rfl⟩
    · skip
      refine Go.iconst (q := 22) (z := (0 : Int32)) hx (hb hby d4_21) rfl rfl ?_
      refine Go.retN hx (t := .boolean) hret (by simp) hlk (hb hby d4_22) (by decide) (by decide) ?_
      exact ⟨congrArg (fun z => some (Value.int z)) ((if_neg (fun q => absurd q.2.1 hc18_1)).symm : (0 : Int32) = _), rfl⟩
  · skip
    refine Go.iconst (q := 22) (z := (0 : Int32)) hx (hb hby d4_21) rfl rfl ?_
    refine Go.retN hx (t := .boolean) hret (by simp) hlk (hb hby d4_22) (by decide) (by decide) ?_
    exact ⟨congrArg (fun z => some (Value.int z)) ((if_neg (fun q => absurd q.1 hc18)).symm : (0 : Int32) = _), rfl⟩
theorem rmLe1_3 (l : Launch) (Z : State) (a0 : Array Value) (hw : ∀ d ∈ tables_1, d.before a0 Z = true) (hel : EW Z a0 consts_1) (sa b : Addr) (kb : ClassId) (cst : Int32) (fv : Value) (c0 c1 c2 : Int32) (h0 : Heap) (n0 : Nat) (Z0 : n0 ≤ h0.size) (E : Exa Z h0 sa "java/lang/String") (F1 : Fld Z h0 sa "java/lang/String" "value" "[B" (.ref b)) (F2 : Fld Z h0 sa "java/lang/String" "coder" "B" (.int (1 : Int32))) (B : Arv Z h0 b kb .byte (6 : Int32) [(.int (nar .byte (c0 >>> ((0 : Int32) &&& 31)).toInt8.toInt32)), (.int (nar .byte (c0 >>> ((8 : Int32) &&& 31)).toInt8.toInt32)), (.int (nar .byte (c1 >>> ((0 : Int32) &&& 31)).toInt8.toInt32)), (.int (nar .byte (c1 >>> ((8 : Int32) &&& 31)).toInt8.toInt32)), (.int (nar .byte (c2 >>> ((0 : Int32) &&& 31)).toInt8.toInt32)), (.int (nar .byte (c2 >>> ((8 : Int32) &&& 31)).toInt8.toInt32))] (.int (0 : Int32))) (hq0 : Chr c0) (hq1 : Chr c1) (hq2 : Chr c2) (X0 : Old Z n0 h0) (SC : Sta Z Z.heap "java/lang/String" "COMPACT_STRINGS" "Z" (.int cst)) (hcs : ¬ cst = (0 : Int32)) (AD : Sta Z Z.heap "java/lang/StringUTF16" "$assertionsDisabled" "Z" (.int (1 : Int32))) (HB : Sta Z Z.heap "java/lang/StringUTF16" "HI_BYTE_SHIFT" "I" (.int (0 : Int32))) (LB : Sta Z Z.heap "java/lang/StringUTF16" "LO_BYTE_SHIFT" "I" (.int (8 : Int32))) (PF : Sta Z Z.heap "jdk/internal/util/Preconditions" "SIOOBE_FORMATTER" "Ljava/util/function/BiFunction;" fv) (hfv : fv.isRef = true) :
    Met l Z consts_1 [] (⟨"java/lang/String", "length", "()I"⟩ : MethodName) jdk_42_method_54_code 1 (Option.some FieldType.int) [] ({ frames := 1, cells := 0, slots := 0, locals := 18 } : Room) #[(.ref sa)] h0 n0 (fun v h => v = some (.int (3 : Int32)) ∧ h0 = h) := by
  refine Met.of (Ls0 := #[.val (.ref sa)]) pl_14 (by first | (simp [argsToLocals, Value.category]; done) | rfl) hel ?_
  intro p e s m below meth c hx hby hml hret hlk hown hnm hZ
  refine Go.aloadN (q := 1) hx (hb hby d5_0) rfl (by rfl) rfl ?_
  refine Go.getF (q := 4) hx hZ hown (host := "") (Or.inl (tw hw 26 rfl)) Via.refl F1 (hb hby d5_1) rfl ?_
  refine Go.alen (q := 5) hx hZ B (hb hby d5_4) rfl ?_
  refine Go.aloadN (q := 6) hx (hb hby d5_5) rfl (by rfl) rfl ?_
  refine Go.callV (q := 9) hx hZ (a := sa) (argsL := []) (rest := [(.int (6 : Int32))]) hown (tw hw 37 rfl) (tw hw 38 rfl) (fun vm hzv => notFace_of_selects (args := #[]) (mvT hzv (tw hw 40 rfl))) (tw hw 40 rfl) (tw hw 39 rfl) (tw hw 8 rfl) (tw hw 41 rfl) (by decide) E (rmCo1 l Z a0 hw hel sa cst h0 n0 Z0 F2 X0 SC hcs) (fun _ hx => nomatch hx) (by rw [hml]; rfl) pd_11 rfl rfl (hb hby d5_6) rfl (by decide) (ble rfl) (ce' := 0) (sl' := 0) rfl rfl (by decide) (by decide) (fun v989 h990 hQ991 => ?_)
  obtain ⟨rfl, rfl⟩ := hQ991
  show Go _ _ _ _ _ _ _ _ _ _ _ _ _ _ _ _ _ _ _ _ 0 0 9 #[.val (.ref sa)] [(.int (1 : Int32)), (.int (6 : Int32))]
  refine Go.ishr (q := 10) hx (hb hby d5_9) rfl ?_
  rw [show (6 : Int32) >>> ((1 : Int32) &&& 31) = (3 : Int32) from by decide]
  refine Go.retI hx hret hlk (hb hby d5_10) (by decide) (by decide) ?_
  exact ⟨rfl, rfl⟩
theorem rmUI3_0 (l : Launch) (Z : State) (a0 : Array Value) (hw : ∀ d ∈ tables_1, d.before a0 Z = true) (hel : EW Z a0 consts_1) (b : Addr) (kb : ClassId) (fv : Value) (c0 c1 c2 : Int32) (h0 : Heap) (n0 : Nat) (Z0 : n0 ≤ h0.size) (B : Arv Z h0 b kb .byte (6 : Int32) [(.int (nar .byte (c0 >>> ((0 : Int32) &&& 31)).toInt8.toInt32)), (.int (nar .byte (c0 >>> ((8 : Int32) &&& 31)).toInt8.toInt32)), (.int (nar .byte (c1 >>> ((0 : Int32) &&& 31)).toInt8.toInt32)), (.int (nar .byte (c1 >>> ((8 : Int32) &&& 31)).toInt8.toInt32)), (.int (nar .byte (c2 >>> ((0 : Int32) &&& 31)).toInt8.toInt32)), (.int (nar .byte (c2 >>> ((8 : Int32) &&& 31)).toInt8.toInt32))] (.int (0 : Int32))) (hq0 : Chr c0) (X0 : Old Z n0 h0) (AD : Sta Z Z.heap "java/lang/StringUTF16" "$assertionsDisabled" "Z" (.int (1 : Int32))) (HB : Sta Z Z.heap "java/lang/StringUTF16" "HI_BYTE_SHIFT" "I" (.int (0 : Int32))) (LB : Sta Z Z.heap "java/lang/StringUTF16" "LO_BYTE_SHIFT" "I" (.int (8 : Int32))) (PF : Sta Z Z.heap "jdk/internal/util/Preconditions" "SIOOBE_FORMATTER" "Ljava/util/function/BiFunction;" fv) (hfv : fv.isRef = true) :
    Met l Z consts_1 [] (⟨"java/lang/StringUTF16", "checkIndex", "(I[B)V"⟩ : MethodName) jdk_52_method_91_code 2 (Option.none : Option FieldType) [] ({ frames := 2, cells := 0, slots := 0, locals := 39 } : Room) #[(.int (0 : Int32)), (.ref b)] h0 n0 (fun v h => v = none ∧ h0 = h) := by
  refine Met.of (Ls0 := #[.val (.int (0 : Int32)), .val (.ref b)]) pl_19 (by first | (simp [argsToLocals, Value.category]; done) | rfl) hel ?_
  intro p e s m below meth c hx hby hml hret hlk hown hnm hZ
  refine Go.iloadN (q := 1) hx (hb hby d21_0) rfl rfl ?_
  refine Go.aloadN (q := 2) hx (hb hby d21_1) rfl (by rfl) rfl ?_
  refine Go.callS (q := 5) hx hZ (argsL := [(.ref b)]) (rest := [(.int (0 : Int32))]) hown (tw hw 100 rfl) (tw hw 101 rfl) (tw hw 45 rfl) (tw hw 102 rfl) (by decide) (rmUL3 l Z a0 hw hel b kb _ h0 n0 Z0 B) (fun _ hx => nomatch hx) (by rw [hml]; rfl) pd_7 rfl rfl (hb hby d21_2) rfl (by decide) (ble rfl) (ce' := 0) (sl' := 0) rfl rfl (by decide) (by decide) (fun v992 h993 hQ994 => ?_)
  obtain ⟨rfl, rfl⟩ := hQ994
  show Go _ _ _ _ _ _ _ _ _ _ _ _ _ _ _ _ _ _ _ _ 0 0 5 #[.val (.int (0 : Int32)), .val (.ref b)] [(.int (3 : Int32)), (.int (0 : Int32))]
  refine Go.callS (q := 8) hx hZ (argsL := [(.int (0 : Int32)), (.int (3 : Int32))]) (rest := []) hown (tw hw 103 rfl) (tw hw 68 rfl) (tw hw 8 rfl) (tw hw 69 rfl) (by decide) (rmX l Z a0 hw hel (0 : Int32) (3 : Int32) fv h0 n0 Z0 (by decide) (by decide) X0 PF hfv) (fun _ hx => nomatch hx) (by rw [hml]; rfl) pd_14 rfl rfl (hb hby d21_5) rfl (by decide) (ble rfl) (ce' := 0) (sl' := 0) rfl rfl (by decide) (by decide) (fun v995 h996 hQ997 => ?_)
  obtain ⟨rfl, rfl⟩ := hQ997
  show Go _ _ _ _ _ _ _ _ _ _ _ _ _ _ _ _ _ _ _ _ 0 0 8 #[.val (.int (0 : Int32)), .val (.ref b)] []
  refine Go.ret0 hx hret hlk (hb hby d21_8) (by decide) (by decide) ?_
  exact ⟨rfl, rfl⟩
theorem rmUC3_0 (l : Launch) (Z : State) (a0 : Array Value) (hw : ∀ d ∈ tables_1, d.before a0 Z = true) (hel : EW Z a0 consts_1) (b : Addr) (kb : ClassId) (fv : Value) (c0 c1 c2 : Int32) (h0 : Heap) (n0 : Nat) (Z0 : n0 ≤ h0.size) (B : Arv Z h0 b kb .byte (6 : Int32) [(.int (nar .byte (c0 >>> ((0 : Int32) &&& 31)).toInt8.toInt32)), (.int (nar .byte (c0 >>> ((8 : Int32) &&& 31)).toInt8.toInt32)), (.int (nar .byte (c1 >>> ((0 : Int32) &&& 31)).toInt8.toInt32)), (.int (nar .byte (c1 >>> ((8 : Int32) &&& 31)).toInt8.toInt32)), (.int (nar .byte (c2 >>> ((0 : Int32) &&& 31)).toInt8.toInt32)), (.int (nar .byte (c2 >>> ((8 : Int32) &&& 31)).toInt8.toInt32))] (.int (0 : Int32))) (hq0 : Chr c0) (X0 : Old Z n0 h0) (AD : Sta Z Z.heap "java/lang/StringUTF16" "$assertionsDisabled" "Z" (.int (1 : Int32))) (HB : Sta Z Z.heap "java/lang/StringUTF16" "HI_BYTE_SHIFT" "I" (.int (0 : Int32))) (LB : Sta Z Z.heap "java/lang/StringUTF16" "LO_BYTE_SHIFT" "I" (.int (8 : Int32))) (PF : Sta Z Z.heap "jdk/internal/util/Preconditions" "SIOOBE_FORMATTER" "Ljava/util/function/BiFunction;" fv) (hfv : fv.isRef = true) :
    Met l Z consts_1 [] (⟨"java/lang/StringUTF16", "charAt", "([BI)C"⟩ : MethodName) jdk_52_method_83_code 2 (Option.some FieldType.char) [] ({ frames := 3, cells := 0, slots := 0, locals := 58 } : Room) #[(.ref b), (.int (0 : Int32))] h0 n0 (fun v h => v = some (.int c0) ∧ h0 = h) := by
  refine Met.of (Ls0 := #[.val (.ref b), .val (.int (0 : Int32))]) pl_20 (by first | (simp [argsToLocals, Value.category]; done) | rfl) hel ?_
  intro p e s m below meth c hx hby hml hret hlk hown hnm hZ
  refine Go.iloadN (q := 1) hx (hb hby d20_0) rfl rfl ?_
  refine Go.aloadN (q := 2) hx (hb hby d20_1) rfl (by rfl) rfl ?_
  refine Go.callS (q := 5) hx hZ (argsL := [(.int (0 : Int32)), (.ref b)]) (rest := []) hown (tw hw 97 rfl) (tw hw 98 rfl) (tw hw 45 rfl) (tw hw 99 rfl) (by decide) (rmUI3_0 l Z a0 hw hel b kb fv c0 c1 c2 h0 n0 Z0 B hq0 X0 AD HB LB PF hfv) (fun _ hx => nomatch hx) (by rw [hml]; rfl) pd_16 rfl rfl (hb hby d20_2) rfl (by decide) (ble rfl) (ce' := 0) (sl' := 0) rfl rfl (by decide) (by decide) (fun v998 h999 hQ1000 => ?_)
  obtain ⟨rfl, rfl⟩ := hQ1000
  show Go _ _ _ _ _ _ _ _ _ _ _ _ _ _ _ _ _ _ _ _ 0 0 5 #[.val (.ref b), .val (.int (0 : Int32))] []
  refine Go.aloadN (q := 6) hx (hb hby d20_5) rfl (by rfl) rfl ?_
  refine Go.iloadN (q := 7) hx (hb hby d20_6) rfl rfl ?_
  refine Go.callS (q := 10) hx hZ (argsL := [(.ref b), (.int (0 : Int32))]) (rest := []) hown (tw hw 91 rfl) (tw hw 92 rfl) (tw hw 45 rfl) (tw hw 93 rfl) (by decide) (rmG3_0 l Z a0 hw hel b kb c0 c1 c2 h0 n0 Z0 B hq0 X0 AD HB LB) (fun _ hx => nomatch hx) (by rw [hml]; rfl) pd_5 rfl rfl (hb hby d20_7) rfl (by decide) (ble rfl) (ce' := 0) (sl' := 0) rfl rfl (by decide) (by decide) (fun v1001 h1002 hQ1003 => ?_)
  obtain ⟨rfl, rfl⟩ := hQ1003
  show Go _ _ _ _ _ _ _ _ _ _ _ _ _ _ _ _ _ _ _ _ 0 0 10 #[.val (.ref b), .val (.int (0 : Int32))] [(.int c0)]
  refine Go.retN hx (t := .char) hret (by simp) hlk (hb hby d20_10) (by decide) (by decide) ?_
  exact ⟨congrArg (fun z => some (Value.int z)) (nar_chr hq0), rfl⟩
theorem rmCh1_3_0 (l : Launch) (Z : State) (a0 : Array Value) (hw : ∀ d ∈ tables_1, d.before a0 Z = true) (hel : EW Z a0 consts_1) (sa b : Addr) (kb : ClassId) (cst : Int32) (fv : Value) (c0 c1 c2 : Int32) (h0 : Heap) (n0 : Nat) (Z0 : n0 ≤ h0.size) (E : Exa Z h0 sa "java/lang/String") (F1 : Fld Z h0 sa "java/lang/String" "value" "[B" (.ref b)) (F2 : Fld Z h0 sa "java/lang/String" "coder" "B" (.int (1 : Int32))) (B : Arv Z h0 b kb .byte (6 : Int32) [(.int (nar .byte (c0 >>> ((0 : Int32) &&& 31)).toInt8.toInt32)), (.int (nar .byte (c0 >>> ((8 : Int32) &&& 31)).toInt8.toInt32)), (.int (nar .byte (c1 >>> ((0 : Int32) &&& 31)).toInt8.toInt32)), (.int (nar .byte (c1 >>> ((8 : Int32) &&& 31)).toInt8.toInt32)), (.int (nar .byte (c2 >>> ((0 : Int32) &&& 31)).toInt8.toInt32)), (.int (nar .byte (c2 >>> ((8 : Int32) &&& 31)).toInt8.toInt32))] (.int (0 : Int32))) (hq0 : Chr c0) (hq1 : Chr c1) (hq2 : Chr c2) (X0 : Old Z n0 h0) (SC : Sta Z Z.heap "java/lang/String" "COMPACT_STRINGS" "Z" (.int cst)) (hcs : ¬ cst = (0 : Int32)) (AD : Sta Z Z.heap "java/lang/StringUTF16" "$assertionsDisabled" "Z" (.int (1 : Int32))) (HB : Sta Z Z.heap "java/lang/StringUTF16" "HI_BYTE_SHIFT" "I" (.int (0 : Int32))) (LB : Sta Z Z.heap "java/lang/StringUTF16" "LO_BYTE_SHIFT" "I" (.int (8 : Int32))) (PF : Sta Z Z.heap "jdk/internal/util/Preconditions" "SIOOBE_FORMATTER" "Ljava/util/function/BiFunction;" fv) (hfv : fv.isRef = true) :
    Met l Z consts_1 [] (⟨"java/lang/String", "charAt", "(I)C"⟩ : MethodName) jdk_42_method_56_code 2 (Option.some FieldType.char) [] ({ frames := 4, cells := 0, slots := 0, locals := 77 } : Room) #[(.ref sa), (.int (0 : Int32))] h0 n0 (fun v h => v = some (.int c0) ∧ h0 = h) := by
  refine Met.of (Ls0 := #[.val (.ref sa), .val (.int (0 : Int32))]) pl_18 (by first | (simp [argsToLocals, Value.category]; done) | rfl) hel ?_
  intro p e s m below meth c hx hby hml hret hlk hown hnm hZ
  refine Go.aloadN (q := 1) hx (hb hby d10_0) rfl (by rfl) rfl ?_
  refine Go.callV (q := 4) hx hZ (a := sa) (argsL := []) (rest := []) hown (tw hw 58 rfl) (tw hw 59 rfl) (fun vm hzv => notFace_of_selects (args := #[]) (mvT hzv (tw hw 61 rfl))) (tw hw 61 rfl) (tw hw 60 rfl) (tw hw 8 rfl) (tw hw 62 rfl) (by decide) E (rmIs1 l Z a0 hw hel sa cst h0 n0 Z0 F2 X0 SC hcs) (fun _ hx => nomatch hx) (by rw [hml]; rfl) pd_15 rfl rfl (hb hby d10_1) rfl (by decide) (ble rfl) (ce' := 0) (sl' := 0) rfl rfl (by decide) (by decide) (fun v1004 h1005 hQ1006 => ?_)
  obtain ⟨rfl, rfl⟩ := hQ1006
  show Go _ _ _ _ _ _ _ _ _ _ _ _ _ _ _ _ _ _ _ _ 0 0 4 #[.val (.ref sa), .val (.int (0 : Int32))] [(.int (0 : Int32))]
  refine Go.if_eq (q := 7) (t := 16) hx (hb hby d10_4) (by decide) rfl rfl (fun hc4 => ?_) (fun hc4 => absurd hc4 (by decide))
  refine Go.aloadN (q := 17) hx (hb hby d10_16) rfl (by rfl) rfl ?_
  refine Go.getF (q := 20) hx hZ hown (host := "") (Or.inl (tw hw 26 rfl)) Via.refl F1 (hb hby d10_17) rfl ?_
  refine Go.iloadN (q := 21) hx (hb hby d10_20) rfl rfl ?_
  refine Go.callS (q := 24) hx hZ (argsL := [(.ref b), (.int (0 : Int32))]) (rest := []) hown (tw hw 94 rfl) (tw hw 95 rfl) (tw hw 45 rfl) (tw hw 96 rfl) (by decide) (rmUC3_0 l Z a0 hw hel b kb fv c0 c1 c2 h0 n0 Z0 B hq0 X0 AD HB LB PF hfv) (fun _ hx => nomatch hx) (by rw [hml]; rfl) pd_5 rfl rfl (hb hby d10_21) rfl (by decide) (ble rfl) (ce' := 0) (sl' := 0) rfl rfl (by decide) (by decide) (fun v1007 h1008 hQ1009 => ?_)
  obtain ⟨rfl, rfl⟩ := hQ1009
  show Go _ _ _ _ _ _ _ _ _ _ _ _ _ _ _ _ _ _ _ _ 0 0 24 #[.val (.ref sa), .val (.int (0 : Int32))] [(.int c0)]
  refine Go.retN hx (t := .char) hret (by simp) hlk (hb hby d10_24) (by decide) (by decide) ?_
  exact ⟨congrArg (fun z => some (Value.int z)) (nar_chr hq0), rfl⟩
theorem rmUI3_1 (l : Launch) (Z : State) (a0 : Array Value) (hw : ∀ d ∈ tables_1, d.before a0 Z = true) (hel : EW Z a0 consts_1) (b : Addr) (kb : ClassId) (fv : Value) (c0 c1 c2 : Int32) (h0 : Heap) (n0 : Nat) (Z0 : n0 ≤ h0.size) (B : Arv Z h0 b kb .byte (6 : Int32) [(.int (nar .byte (c0 >>> ((0 : Int32) &&& 31)).toInt8.toInt32)), (.int (nar .byte (c0 >>> ((8 : Int32) &&& 31)).toInt8.toInt32)), (.int (nar .byte (c1 >>> ((0 : Int32) &&& 31)).toInt8.toInt32)), (.int (nar .byte (c1 >>> ((8 : Int32) &&& 31)).toInt8.toInt32)), (.int (nar .byte (c2 >>> ((0 : Int32) &&& 31)).toInt8.toInt32)), (.int (nar .byte (c2 >>> ((8 : Int32) &&& 31)).toInt8.toInt32))] (.int (0 : Int32))) (hq1 : Chr c1) (X0 : Old Z n0 h0) (AD : Sta Z Z.heap "java/lang/StringUTF16" "$assertionsDisabled" "Z" (.int (1 : Int32))) (HB : Sta Z Z.heap "java/lang/StringUTF16" "HI_BYTE_SHIFT" "I" (.int (0 : Int32))) (LB : Sta Z Z.heap "java/lang/StringUTF16" "LO_BYTE_SHIFT" "I" (.int (8 : Int32))) (PF : Sta Z Z.heap "jdk/internal/util/Preconditions" "SIOOBE_FORMATTER" "Ljava/util/function/BiFunction;" fv) (hfv : fv.isRef = true) :
    Met l Z consts_1 [] (⟨"java/lang/StringUTF16", "checkIndex", "(I[B)V"⟩ : MethodName) jdk_52_method_91_code 2 (Option.none : Option FieldType) [] ({ frames := 2, cells := 0, slots := 0, locals := 39 } : Room) #[(.int (1 : Int32)), (.ref b)] h0 n0 (fun v h => v = none ∧ h0 = h) := by
  refine Met.of (Ls0 := #[.val (.int (1 : Int32)), .val (.ref b)]) pl_19 (by first | (simp [argsToLocals, Value.category]; done) | rfl) hel ?_
  intro p e s m below meth c hx hby hml hret hlk hown hnm hZ
  refine Go.iloadN (q := 1) hx (hb hby d21_0) rfl rfl ?_
  refine Go.aloadN (q := 2) hx (hb hby d21_1) rfl (by rfl) rfl ?_
  refine Go.callS (q := 5) hx hZ (argsL := [(.ref b)]) (rest := [(.int (1 : Int32))]) hown (tw hw 100 rfl) (tw hw 101 rfl) (tw hw 45 rfl) (tw hw 102 rfl) (by decide) (rmUL3 l Z a0 hw hel b kb _ h0 n0 Z0 B) (fun _ hx => nomatch hx) (by rw [hml]; rfl) pd_7 rfl rfl (hb hby d21_2) rfl (by decide) (ble rfl) (ce' := 0) (sl' := 0) rfl rfl (by decide) (by decide) (fun v1010 h1011 hQ1012 => ?_)
  obtain ⟨rfl, rfl⟩ := hQ1012
  show Go _ _ _ _ _ _ _ _ _ _ _ _ _ _ _ _ _ _ _ _ 0 0 5 #[.val (.int (1 : Int32)), .val (.ref b)] [(.int (3 : Int32)), (.int (1 : Int32))]
  refine Go.callS (q := 8) hx hZ (argsL := [(.int (1 : Int32)), (.int (3 : Int32))]) (rest := []) hown (tw hw 103 rfl) (tw hw 68 rfl) (tw hw 8 rfl) (tw hw 69 rfl) (by decide) (rmX l Z a0 hw hel (1 : Int32) (3 : Int32) fv h0 n0 Z0 (by decide) (by decide) X0 PF hfv) (fun _ hx => nomatch hx) (by rw [hml]; rfl) pd_14 rfl rfl (hb hby d21_5) rfl (by decide) (ble rfl) (ce' := 0) (sl' := 0) rfl rfl (by decide) (by decide) (fun v1013 h1014 hQ1015 => ?_)
  obtain ⟨rfl, rfl⟩ := hQ1015
  show Go _ _ _ _ _ _ _ _ _ _ _ _ _ _ _ _ _ _ _ _ 0 0 8 #[.val (.int (1 : Int32)), .val (.ref b)] []
  refine Go.ret0 hx hret hlk (hb hby d21_8) (by decide) (by decide) ?_
  exact ⟨rfl, rfl⟩
theorem rmUC3_1 (l : Launch) (Z : State) (a0 : Array Value) (hw : ∀ d ∈ tables_1, d.before a0 Z = true) (hel : EW Z a0 consts_1) (b : Addr) (kb : ClassId) (fv : Value) (c0 c1 c2 : Int32) (h0 : Heap) (n0 : Nat) (Z0 : n0 ≤ h0.size) (B : Arv Z h0 b kb .byte (6 : Int32) [(.int (nar .byte (c0 >>> ((0 : Int32) &&& 31)).toInt8.toInt32)), (.int (nar .byte (c0 >>> ((8 : Int32) &&& 31)).toInt8.toInt32)), (.int (nar .byte (c1 >>> ((0 : Int32) &&& 31)).toInt8.toInt32)), (.int (nar .byte (c1 >>> ((8 : Int32) &&& 31)).toInt8.toInt32)), (.int (nar .byte (c2 >>> ((0 : Int32) &&& 31)).toInt8.toInt32)), (.int (nar .byte (c2 >>> ((8 : Int32) &&& 31)).toInt8.toInt32))] (.int (0 : Int32))) (hq1 : Chr c1) (X0 : Old Z n0 h0) (AD : Sta Z Z.heap "java/lang/StringUTF16" "$assertionsDisabled" "Z" (.int (1 : Int32))) (HB : Sta Z Z.heap "java/lang/StringUTF16" "HI_BYTE_SHIFT" "I" (.int (0 : Int32))) (LB : Sta Z Z.heap "java/lang/StringUTF16" "LO_BYTE_SHIFT" "I" (.int (8 : Int32))) (PF : Sta Z Z.heap "jdk/internal/util/Preconditions" "SIOOBE_FORMATTER" "Ljava/util/function/BiFunction;" fv) (hfv : fv.isRef = true) :
    Met l Z consts_1 [] (⟨"java/lang/StringUTF16", "charAt", "([BI)C"⟩ : MethodName) jdk_52_method_83_code 2 (Option.some FieldType.char) [] ({ frames := 3, cells := 0, slots := 0, locals := 58 } : Room) #[(.ref b), (.int (1 : Int32))] h0 n0 (fun v h => v = some (.int c1) ∧ h0 = h) := by
  refine Met.of (Ls0 := #[.val (.ref b), .val (.int (1 : Int32))]) pl_20 (by first | (simp [argsToLocals, Value.category]; done) | rfl) hel ?_
  intro p e s m below meth c hx hby hml hret hlk hown hnm hZ
  refine Go.iloadN (q := 1) hx (hb hby d20_0) rfl rfl ?_
  refine Go.aloadN (q := 2) hx (hb hby d20_1) rfl (by rfl) rfl ?_
  refine Go.callS (q := 5) hx hZ (argsL := [(.int (1 : Int32)), (.ref b)]) (rest := []) hown (tw hw 97 rfl) (tw hw 98 rfl) (tw hw 45 rfl) (tw hw 99 rfl) (by decide) (rmUI3_1 l Z a0 hw hel b kb fv c0 c1 c2 h0 n0 Z0 B hq1 X0 AD HB LB PF hfv) (fun _ hx => nomatch hx) (by rw [hml]; rfl) pd_16 rfl rfl (hb hby d20_2) rfl (by decide) (ble rfl) (ce' := 0) (sl' := 0) rfl rfl (by decide) (by decide) (fun v1016 h1017 hQ1018 => ?_)
  obtain ⟨rfl, rfl⟩ := hQ1018
  show Go _ _ _ _ _ _ _ _ _ _ _ _ _ _ _ _ _ _ _ _ 0 0 5 #[.val (.ref b), .val (.int (1 : Int32))] []
  refine Go.aloadN (q := 6) hx (hb hby d20_5) rfl (by rfl) rfl ?_
  refine Go.iloadN (q := 7) hx (hb hby d20_6) rfl rfl ?_
  refine Go.callS (q := 10) hx hZ (argsL := [(.ref b), (.int (1 : Int32))]) (rest := []) hown (tw hw 91 rfl) (tw hw 92 rfl) (tw hw 45 rfl) (tw hw 93 rfl) (by decide) (rmG3_1 l Z a0 hw hel b kb c0 c1 c2 h0 n0 Z0 B hq1 X0 AD HB LB) (fun _ hx => nomatch hx) (by rw [hml]; rfl) pd_5 rfl rfl (hb hby d20_7) rfl (by decide) (ble rfl) (ce' := 0) (sl' := 0) rfl rfl (by decide) (by decide) (fun v1019 h1020 hQ1021 => ?_)
  obtain ⟨rfl, rfl⟩ := hQ1021
  show Go _ _ _ _ _ _ _ _ _ _ _ _ _ _ _ _ _ _ _ _ 0 0 10 #[.val (.ref b), .val (.int (1 : Int32))] [(.int c1)]
  refine Go.retN hx (t := .char) hret (by simp) hlk (hb hby d20_10) (by decide) (by decide) ?_
  exact ⟨congrArg (fun z => some (Value.int z)) (nar_chr hq1), rfl⟩
theorem rmCh1_3_1 (l : Launch) (Z : State) (a0 : Array Value) (hw : ∀ d ∈ tables_1, d.before a0 Z = true) (hel : EW Z a0 consts_1) (sa b : Addr) (kb : ClassId) (cst : Int32) (fv : Value) (c0 c1 c2 : Int32) (h0 : Heap) (n0 : Nat) (Z0 : n0 ≤ h0.size) (E : Exa Z h0 sa "java/lang/String") (F1 : Fld Z h0 sa "java/lang/String" "value" "[B" (.ref b)) (F2 : Fld Z h0 sa "java/lang/String" "coder" "B" (.int (1 : Int32))) (B : Arv Z h0 b kb .byte (6 : Int32) [(.int (nar .byte (c0 >>> ((0 : Int32) &&& 31)).toInt8.toInt32)), (.int (nar .byte (c0 >>> ((8 : Int32) &&& 31)).toInt8.toInt32)), (.int (nar .byte (c1 >>> ((0 : Int32) &&& 31)).toInt8.toInt32)), (.int (nar .byte (c1 >>> ((8 : Int32) &&& 31)).toInt8.toInt32)), (.int (nar .byte (c2 >>> ((0 : Int32) &&& 31)).toInt8.toInt32)), (.int (nar .byte (c2 >>> ((8 : Int32) &&& 31)).toInt8.toInt32))] (.int (0 : Int32))) (hq0 : Chr c0) (hq1 : Chr c1) (hq2 : Chr c2) (X0 : Old Z n0 h0) (SC : Sta Z Z.heap "java/lang/String" "COMPACT_STRINGS" "Z" (.int cst)) (hcs : ¬ cst = (0 : Int32)) (AD : Sta Z Z.heap "java/lang/StringUTF16" "$assertionsDisabled" "Z" (.int (1 : Int32))) (HB : Sta Z Z.heap "java/lang/StringUTF16" "HI_BYTE_SHIFT" "I" (.int (0 : Int32))) (LB : Sta Z Z.heap "java/lang/StringUTF16" "LO_BYTE_SHIFT" "I" (.int (8 : Int32))) (PF : Sta Z Z.heap "jdk/internal/util/Preconditions" "SIOOBE_FORMATTER" "Ljava/util/function/BiFunction;" fv) (hfv : fv.isRef = true) :
    Met l Z consts_1 [] (⟨"java/lang/String", "charAt", "(I)C"⟩ : MethodName) jdk_42_method_56_code 2 (Option.some FieldType.char) [] ({ frames := 4, cells := 0, slots := 0, locals := 77 } : Room) #[(.ref sa), (.int (1 : Int32))] h0 n0 (fun v h => v = some (.int c1) ∧ h0 = h) := by
  refine Met.of (Ls0 := #[.val (.ref sa), .val (.int (1 : Int32))]) pl_18 (by first | (simp [argsToLocals, Value.category]; done) | rfl) hel ?_
  intro p e s m below meth c hx hby hml hret hlk hown hnm hZ
  refine Go.aloadN (q := 1) hx (hb hby d10_0) rfl (by rfl) rfl ?_
  refine Go.callV (q := 4) hx hZ (a := sa) (argsL := []) (rest := []) hown (tw hw 58 rfl) (tw hw 59 rfl) (fun vm hzv => notFace_of_selects (args := #[]) (mvT hzv (tw hw 61 rfl))) (tw hw 61 rfl) (tw hw 60 rfl) (tw hw 8 rfl) (tw hw 62 rfl) (by decide) E (rmIs1 l Z a0 hw hel sa cst h0 n0 Z0 F2 X0 SC hcs) (fun _ hx => nomatch hx) (by rw [hml]; rfl) pd_15 rfl rfl (hb hby d10_1) rfl (by decide) (ble rfl) (ce' := 0) (sl' := 0) rfl rfl (by decide) (by decide) (fun v1022 h1023 hQ1024 => ?_)
  obtain ⟨rfl, rfl⟩ := hQ1024
  show Go _ _ _ _ _ _ _ _ _ _ _ _ _ _ _ _ _ _ _ _ 0 0 4 #[.val (.ref sa), .val (.int (1 : Int32))] [(.int (0 : Int32))]
  refine Go.if_eq (q := 7) (t := 16) hx (hb hby d10_4) (by decide) rfl rfl (fun hc4 => ?_) (fun hc4 => absurd hc4 (by decide))
  refine Go.aloadN (q := 17) hx (hb hby d10_16) rfl (by rfl) rfl ?_
  refine Go.getF (q := 20) hx hZ hown (host := "") (Or.inl (tw hw 26 rfl)) Via.refl F1 (hb hby d10_17) rfl ?_
  refine Go.iloadN (q := 21) hx (hb hby d10_20) rfl rfl ?_
  refine Go.callS (q := 24) hx hZ (argsL := [(.ref b), (.int (1 : Int32))]) (rest := []) hown (tw hw 94 rfl) (tw hw 95 rfl) (tw hw 45 rfl) (tw hw 96 rfl) (by decide) (rmUC3_1 l Z a0 hw hel b kb fv c0 c1 c2 h0 n0 Z0 B hq1 X0 AD HB LB PF hfv) (fun _ hx => nomatch hx) (by rw [hml]; rfl) pd_5 rfl rfl (hb hby d10_21) rfl (by decide) (ble rfl) (ce' := 0) (sl' := 0) rfl rfl (by decide) (by decide) (fun v1025 h1026 hQ1027 => ?_)
  obtain ⟨rfl, rfl⟩ := hQ1027
  show Go _ _ _ _ _ _ _ _ _ _ _ _ _ _ _ _ _ _ _ _ 0 0 24 #[.val (.ref sa), .val (.int (1 : Int32))] [(.int c1)]
  refine Go.retN hx (t := .char) hret (by simp) hlk (hb hby d10_24) (by decide) (by decide) ?_
  exact ⟨congrArg (fun z => some (Value.int z)) (nar_chr hq1), rfl⟩
theorem rmUI3_2 (l : Launch) (Z : State) (a0 : Array Value) (hw : ∀ d ∈ tables_1, d.before a0 Z = true) (hel : EW Z a0 consts_1) (b : Addr) (kb : ClassId) (fv : Value) (c0 c1 c2 : Int32) (h0 : Heap) (n0 : Nat) (Z0 : n0 ≤ h0.size) (B : Arv Z h0 b kb .byte (6 : Int32) [(.int (nar .byte (c0 >>> ((0 : Int32) &&& 31)).toInt8.toInt32)), (.int (nar .byte (c0 >>> ((8 : Int32) &&& 31)).toInt8.toInt32)), (.int (nar .byte (c1 >>> ((0 : Int32) &&& 31)).toInt8.toInt32)), (.int (nar .byte (c1 >>> ((8 : Int32) &&& 31)).toInt8.toInt32)), (.int (nar .byte (c2 >>> ((0 : Int32) &&& 31)).toInt8.toInt32)), (.int (nar .byte (c2 >>> ((8 : Int32) &&& 31)).toInt8.toInt32))] (.int (0 : Int32))) (hq2 : Chr c2) (X0 : Old Z n0 h0) (AD : Sta Z Z.heap "java/lang/StringUTF16" "$assertionsDisabled" "Z" (.int (1 : Int32))) (HB : Sta Z Z.heap "java/lang/StringUTF16" "HI_BYTE_SHIFT" "I" (.int (0 : Int32))) (LB : Sta Z Z.heap "java/lang/StringUTF16" "LO_BYTE_SHIFT" "I" (.int (8 : Int32))) (PF : Sta Z Z.heap "jdk/internal/util/Preconditions" "SIOOBE_FORMATTER" "Ljava/util/function/BiFunction;" fv) (hfv : fv.isRef = true) :
    Met l Z consts_1 [] (⟨"java/lang/StringUTF16", "checkIndex", "(I[B)V"⟩ : MethodName) jdk_52_method_91_code 2 (Option.none : Option FieldType) [] ({ frames := 2, cells := 0, slots := 0, locals := 39 } : Room) #[(.int (2 : Int32)), (.ref b)] h0 n0 (fun v h => v = none ∧ h0 = h) := by
  refine Met.of (Ls0 := #[.val (.int (2 : Int32)), .val (.ref b)]) pl_19 (by first | (simp [argsToLocals, Value.category]; done) | rfl) hel ?_
  intro p e s m below meth c hx hby hml hret hlk hown hnm hZ
  refine Go.iloadN (q := 1) hx (hb hby d21_0) rfl rfl ?_
  refine Go.aloadN (q := 2) hx (hb hby d21_1) rfl (by rfl) rfl ?_
  refine Go.callS (q := 5) hx hZ (argsL := [(.ref b)]) (rest := [(.int (2 : Int32))]) hown (tw hw 100 rfl) (tw hw 101 rfl) (tw hw 45 rfl) (tw hw 102 rfl) (by decide) (rmUL3 l Z a0 hw hel b kb _ h0 n0 Z0 B) (fun _ hx => nomatch hx) (by rw [hml]; rfl) pd_7 rfl rfl (hb hby d21_2) rfl (by decide) (ble rfl) (ce' := 0) (sl' := 0) rfl rfl (by decide) (by decide) (fun v1028 h1029 hQ1030 => ?_)
  obtain ⟨rfl, rfl⟩ := hQ1030
  show Go _ _ _ _ _ _ _ _ _ _ _ _ _ _ _ _ _ _ _ _ 0 0 5 #[.val (.int (2 : Int32)), .val (.ref b)] [(.int (3 : Int32)), (.int (2 : Int32))]
  refine Go.callS (q := 8) hx hZ (argsL := [(.int (2 : Int32)), (.int (3 : Int32))]) (rest := []) hown (tw hw 103 rfl) (tw hw 68 rfl) (tw hw 8 rfl) (tw hw 69 rfl) (by decide) (rmX l Z a0 hw hel (2 : Int32) (3 : Int32) fv h0 n0 Z0 (by decide) (by decide) X0 PF hfv) (fun _ hx => nomatch hx) (by rw [hml]; rfl) pd_14 rfl rfl (hb hby d21_5) rfl (by decide) (ble rfl) (ce' := 0) (sl' := 0) rfl rfl (by decide) (by decide) (fun v1031 h1032 hQ1033 => ?_)
  obtain ⟨rfl, rfl⟩ := hQ1033
  show Go _ _ _ _ _ _ _ _ _ _ _ _ _ _ _ _ _ _ _ _ 0 0 8 #[.val (.int (2 : Int32)), .val (.ref b)] []
  refine Go.ret0 hx hret hlk (hb hby d21_8) (by decide) (by decide) ?_
  exact ⟨rfl, rfl⟩
theorem rmUC3_2 (l : Launch) (Z : State) (a0 : Array Value) (hw : ∀ d ∈ tables_1, d.before a0 Z = true) (hel : EW Z a0 consts_1) (b : Addr) (kb : ClassId) (fv : Value) (c0 c1 c2 : Int32) (h0 : Heap) (n0 : Nat) (Z0 : n0 ≤ h0.size) (B : Arv Z h0 b kb .byte (6 : Int32) [(.int (nar .byte (c0 >>> ((0 : Int32) &&& 31)).toInt8.toInt32)), (.int (nar .byte (c0 >>> ((8 : Int32) &&& 31)).toInt8.toInt32)), (.int (nar .byte (c1 >>> ((0 : Int32) &&& 31)).toInt8.toInt32)), (.int (nar .byte (c1 >>> ((8 : Int32) &&& 31)).toInt8.toInt32)), (.int (nar .byte (c2 >>> ((0 : Int32) &&& 31)).toInt8.toInt32)), (.int (nar .byte (c2 >>> ((8 : Int32) &&& 31)).toInt8.toInt32))] (.int (0 : Int32))) (hq2 : Chr c2) (X0 : Old Z n0 h0) (AD : Sta Z Z.heap "java/lang/StringUTF16" "$assertionsDisabled" "Z" (.int (1 : Int32))) (HB : Sta Z Z.heap "java/lang/StringUTF16" "HI_BYTE_SHIFT" "I" (.int (0 : Int32))) (LB : Sta Z Z.heap "java/lang/StringUTF16" "LO_BYTE_SHIFT" "I" (.int (8 : Int32))) (PF : Sta Z Z.heap "jdk/internal/util/Preconditions" "SIOOBE_FORMATTER" "Ljava/util/function/BiFunction;" fv) (hfv : fv.isRef = true) :
    Met l Z consts_1 [] (⟨"java/lang/StringUTF16", "charAt", "([BI)C"⟩ : MethodName) jdk_52_method_83_code 2 (Option.some FieldType.char) [] ({ frames := 3, cells := 0, slots := 0, locals := 58 } : Room) #[(.ref b), (.int (2 : Int32))] h0 n0 (fun v h => v = some (.int c2) ∧ h0 = h) := by
  refine Met.of (Ls0 := #[.val (.ref b), .val (.int (2 : Int32))]) pl_20 (by first | (simp [argsToLocals, Value.category]; done) | rfl) hel ?_
  intro p e s m below meth c hx hby hml hret hlk hown hnm hZ
  refine Go.iloadN (q := 1) hx (hb hby d20_0) rfl rfl ?_
  refine Go.aloadN (q := 2) hx (hb hby d20_1) rfl (by rfl) rfl ?_
  refine Go.callS (q := 5) hx hZ (argsL := [(.int (2 : Int32)), (.ref b)]) (rest := []) hown (tw hw 97 rfl) (tw hw 98 rfl) (tw hw 45 rfl) (tw hw 99 rfl) (by decide) (rmUI3_2 l Z a0 hw hel b kb fv c0 c1 c2 h0 n0 Z0 B hq2 X0 AD HB LB PF hfv) (fun _ hx => nomatch hx) (by rw [hml]; rfl) pd_16 rfl rfl (hb hby d20_2) rfl (by decide) (ble rfl) (ce' := 0) (sl' := 0) rfl rfl (by decide) (by decide) (fun v1034 h1035 hQ1036 => ?_)
  obtain ⟨rfl, rfl⟩ := hQ1036
  show Go _ _ _ _ _ _ _ _ _ _ _ _ _ _ _ _ _ _ _ _ 0 0 5 #[.val (.ref b), .val (.int (2 : Int32))] []
  refine Go.aloadN (q := 6) hx (hb hby d20_5) rfl (by rfl) rfl ?_
  refine Go.iloadN (q := 7) hx (hb hby d20_6) rfl rfl ?_
  refine Go.callS (q := 10) hx hZ (argsL := [(.ref b), (.int (2 : Int32))]) (rest := []) hown (tw hw 91 rfl) (tw hw 92 rfl) (tw hw 45 rfl) (tw hw 93 rfl) (by decide) (rmG3_2 l Z a0 hw hel b kb c0 c1 c2 h0 n0 Z0 B hq2 X0 AD HB LB) (fun _ hx => nomatch hx) (by rw [hml]; rfl) pd_5 rfl rfl (hb hby d20_7) rfl (by decide) (ble rfl) (ce' := 0) (sl' := 0) rfl rfl (by decide) (by decide) (fun v1037 h1038 hQ1039 => ?_)
  obtain ⟨rfl, rfl⟩ := hQ1039
  show Go _ _ _ _ _ _ _ _ _ _ _ _ _ _ _ _ _ _ _ _ 0 0 10 #[.val (.ref b), .val (.int (2 : Int32))] [(.int c2)]
  refine Go.retN hx (t := .char) hret (by simp) hlk (hb hby d20_10) (by decide) (by decide) ?_
  exact ⟨congrArg (fun z => some (Value.int z)) (nar_chr hq2), rfl⟩
theorem rmCh1_3_2 (l : Launch) (Z : State) (a0 : Array Value) (hw : ∀ d ∈ tables_1, d.before a0 Z = true) (hel : EW Z a0 consts_1) (sa b : Addr) (kb : ClassId) (cst : Int32) (fv : Value) (c0 c1 c2 : Int32) (h0 : Heap) (n0 : Nat) (Z0 : n0 ≤ h0.size) (E : Exa Z h0 sa "java/lang/String") (F1 : Fld Z h0 sa "java/lang/String" "value" "[B" (.ref b)) (F2 : Fld Z h0 sa "java/lang/String" "coder" "B" (.int (1 : Int32))) (B : Arv Z h0 b kb .byte (6 : Int32) [(.int (nar .byte (c0 >>> ((0 : Int32) &&& 31)).toInt8.toInt32)), (.int (nar .byte (c0 >>> ((8 : Int32) &&& 31)).toInt8.toInt32)), (.int (nar .byte (c1 >>> ((0 : Int32) &&& 31)).toInt8.toInt32)), (.int (nar .byte (c1 >>> ((8 : Int32) &&& 31)).toInt8.toInt32)), (.int (nar .byte (c2 >>> ((0 : Int32) &&& 31)).toInt8.toInt32)), (.int (nar .byte (c2 >>> ((8 : Int32) &&& 31)).toInt8.toInt32))] (.int (0 : Int32))) (hq0 : Chr c0) (hq1 : Chr c1) (hq2 : Chr c2) (X0 : Old Z n0 h0) (SC : Sta Z Z.heap "java/lang/String" "COMPACT_STRINGS" "Z" (.int cst)) (hcs : ¬ cst = (0 : Int32)) (AD : Sta Z Z.heap "java/lang/StringUTF16" "$assertionsDisabled" "Z" (.int (1 : Int32))) (HB : Sta Z Z.heap "java/lang/StringUTF16" "HI_BYTE_SHIFT" "I" (.int (0 : Int32))) (LB : Sta Z Z.heap "java/lang/StringUTF16" "LO_BYTE_SHIFT" "I" (.int (8 : Int32))) (PF : Sta Z Z.heap "jdk/internal/util/Preconditions" "SIOOBE_FORMATTER" "Ljava/util/function/BiFunction;" fv) (hfv : fv.isRef = true) :
    Met l Z consts_1 [] (⟨"java/lang/String", "charAt", "(I)C"⟩ : MethodName) jdk_42_method_56_code 2 (Option.some FieldType.char) [] ({ frames := 4, cells := 0, slots := 0, locals := 77 } : Room) #[(.ref sa), (.int (2 : Int32))] h0 n0 (fun v h => v = some (.int c2) ∧ h0 = h) := by
  refine Met.of (Ls0 := #[.val (.ref sa), .val (.int (2 : Int32))]) pl_18 (by first | (simp [argsToLocals, Value.category]; done) | rfl) hel ?_
  intro p e s m below meth c hx hby hml hret hlk hown hnm hZ
  refine Go.aloadN (q := 1) hx (hb hby d10_0) rfl (by rfl) rfl ?_
  refine Go.callV (q := 4) hx hZ (a := sa) (argsL := []) (rest := []) hown (tw hw 58 rfl) (tw hw 59 rfl) (fun vm hzv => notFace_of_selects (args := #[]) (mvT hzv (tw hw 61 rfl))) (tw hw 61 rfl) (tw hw 60 rfl) (tw hw 8 rfl) (tw hw 62 rfl) (by decide) E (rmIs1 l Z a0 hw hel sa cst h0 n0 Z0 F2 X0 SC hcs) (fun _ hx => nomatch hx) (by rw [hml]; rfl) pd_15 rfl rfl (hb hby d10_1) rfl (by decide) (ble rfl) (ce' := 0) (sl' := 0) rfl rfl (by decide) (by decide) (fun v1040 h1041 hQ1042 => ?_)
  obtain ⟨rfl, rfl⟩ := hQ1042
  show Go _ _ _ _ _ _ _ _ _ _ _ _ _ _ _ _ _ _ _ _ 0 0 4 #[.val (.ref sa), .val (.int (2 : Int32))] [(.int (0 : Int32))]
  refine Go.if_eq (q := 7) (t := 16) hx (hb hby d10_4) (by decide) rfl rfl (fun hc4 => ?_) (fun hc4 => absurd hc4 (by decide))
  refine Go.aloadN (q := 17) hx (hb hby d10_16) rfl (by rfl) rfl ?_
  refine Go.getF (q := 20) hx hZ hown (host := "") (Or.inl (tw hw 26 rfl)) Via.refl F1 (hb hby d10_17) rfl ?_
  refine Go.iloadN (q := 21) hx (hb hby d10_20) rfl rfl ?_
  refine Go.callS (q := 24) hx hZ (argsL := [(.ref b), (.int (2 : Int32))]) (rest := []) hown (tw hw 94 rfl) (tw hw 95 rfl) (tw hw 45 rfl) (tw hw 96 rfl) (by decide) (rmUC3_2 l Z a0 hw hel b kb fv c0 c1 c2 h0 n0 Z0 B hq2 X0 AD HB LB PF hfv) (fun _ hx => nomatch hx) (by rw [hml]; rfl) pd_5 rfl rfl (hb hby d10_21) rfl (by decide) (ble rfl) (ce' := 0) (sl' := 0) rfl rfl (by decide) (by decide) (fun v1043 h1044 hQ1045 => ?_)
  obtain ⟨rfl, rfl⟩ := hQ1045
  show Go _ _ _ _ _ _ _ _ _ _ _ _ _ _ _ _ _ _ _ _ 0 0 24 #[.val (.ref sa), .val (.int (2 : Int32))] [(.int c2)]
  refine Go.retN hx (t := .char) hret (by simp) hlk (hb hby d10_24) (by decide) (by decide) ?_
  exact ⟨congrArg (fun z => some (Value.int z)) (nar_chr hq2), rfl⟩
theorem rmAs1_3 (l : Launch) (Z : State) (a0 : Array Value) (hw : ∀ d ∈ tables_1, d.before a0 Z = true) (hel : EW Z a0 consts_1) (sa b : Addr) (kb : ClassId) (cst : Int32) (fv : Value) (c0 c1 c2 : Int32) (h0 : Heap) (n0 : Nat) (Z0 : n0 ≤ h0.size) (E : Exa Z h0 sa "java/lang/String") (F1 : Fld Z h0 sa "java/lang/String" "value" "[B" (.ref b)) (F2 : Fld Z h0 sa "java/lang/String" "coder" "B" (.int (1 : Int32))) (B : Arv Z h0 b kb .byte (6 : Int32) [(.int (nar .byte (c0 >>> ((0 : Int32) &&& 31)).toInt8.toInt32)), (.int (nar .byte (c0 >>> ((8 : Int32) &&& 31)).toInt8.toInt32)), (.int (nar .byte (c1 >>> ((0 : Int32) &&& 31)).toInt8.toInt32)), (.int (nar .byte (c1 >>> ((8 : Int32) &&& 31)).toInt8.toInt32)), (.int (nar .byte (c2 >>> ((0 : Int32) &&& 31)).toInt8.toInt32)), (.int (nar .byte (c2 >>> ((8 : Int32) &&& 31)).toInt8.toInt32))] (.int (0 : Int32))) (hq0 : Chr c0) (hq1 : Chr c1) (hq2 : Chr c2) (X0 : Old Z n0 h0) (SC : Sta Z Z.heap "java/lang/String" "COMPACT_STRINGS" "Z" (.int cst)) (hcs : ¬ cst = (0 : Int32)) (AD : Sta Z Z.heap "java/lang/StringUTF16" "$assertionsDisabled" "Z" (.int (1 : Int32))) (HB : Sta Z Z.heap "java/lang/StringUTF16" "HI_BYTE_SHIFT" "I" (.int (0 : Int32))) (LB : Sta Z Z.heap "java/lang/StringUTF16" "LO_BYTE_SHIFT" "I" (.int (8 : Int32))) (PF : Sta Z Z.heap "jdk/internal/util/Preconditions" "SIOOBE_FORMATTER" "Ljava/util/function/BiFunction;" fv) (hfv : fv.isRef = true) :
    Met l Z consts_1 [] (⟨"com/example/epithet/epithet/store/MappedTable", "isAscii", "(Ljava/lang/String;)Z"⟩ : MethodName) prog_59_method_39_code 2 (Option.some FieldType.boolean) [] ({ frames := 5, cells := 0, slots := 0, locals := 96 } : Room) #[(.ref sa)] h0 n0 (fun v h => v = some (.int (if c0 < (128 : Int32) ∧ c1 < (128 : Int32) ∧ c2 < (128 : Int32) then (1 : Int32) else (0 : Int32))) ∧ h0 = h) := by
  refine Met.of (Ls0 := #[.val (.ref sa), .unset]) pl_15 (by first | (simp [argsToLocals, Value.category]; done) | rfl) hel ?_
  intro p e s m below meth c hx hby hml hret hlk hown hnm hZ
  refine Go.iconst (q := 1) (z := (0 : Int32)) hx (hb hby d4_0) rfl rfl ?_
  refine Go.istoreN (q := 2) (l' := #[.val (.ref sa), .val (.int (0 : Int32))]) hx (hb hby d4_1) rfl rfl ?_
  refine Go.iloadN (q := 3) hx (hb hby d4_2) rfl rfl ?_
  refine Go.aloadN (q := 4) hx (hb hby d4_3) rfl (by rfl) rfl ?_
  refine Go.callV (q := 7) hx hZ (a := sa) (argsL := []) (rest := [(.int (0 : Int32))]) hown (tw hw 32 rfl) (tw hw 33 rfl) (fun vm hzv => notFace_of_selects (args := #[]) (mvT hzv (tw hw 35 rfl))) (tw hw 35 rfl) (tw hw 34 rfl) (tw hw 8 rfl) (tw hw 36 rfl) (by decide) E (rmLe1_3 l Z a0 hw hel sa b kb cst fv c0 c1 c2 h0 n0 Z0 E F1 F2 B hq0 hq1 hq2 X0 SC hcs AD HB LB PF hfv) (fun _ hx => nomatch hx) (by rw [hml]; rfl) pd_12 rfl rfl (hb hby d4_4) rfl (by decide) (ble rfl) (ce' := 0) (sl' := 0) rfl rfl (by decide) (by decide) (fun v1046 h1047 hQ1048 => ?_)
  obtain ⟨rfl, rfl⟩ := hQ1048
  show Go _ _ _ _ _ _ _ _ _ _ _ _ _ _ _ _ _ _ _ _ 0 0 7 #[.val (.ref sa), .val (.int (0 : Int32))] [(.int (3 : Int32)), (.int (0 : Int32))]
  refine Go.icmp_ge (q := 10) (t := 29) hx (hb hby d4_7) (by decide) rfl rfl (fun hc7 => absurd hc7 (by decide)) (fun hc7 => ?_)
  refine Go.aloadN (q := 11) hx (hb hby d4_10) rfl (by rfl) rfl ?_
  refine Go.iloadN (q := 12) hx (hb hby d4_11) rfl rfl ?_
  refine Go.callV (q := 15) hx hZ (a := sa) (argsL := [(.int (0 : Int32))]) (rest := []) hown (tw hw 53 rfl) (tw hw 54 rfl) (fun vm hzv => notFace_of_selects (args := #[]) (mvT hzv (tw hw 56 rfl))) (tw hw 56 rfl) (tw hw 55 rfl) (tw hw 8 rfl) (tw hw 57 rfl) (by decide) E (rmCh1_3_0 l Z a0 hw hel sa b kb cst fv c0 c1 c2 h0 n0 Z0 E F1 F2 B hq0 hq1 hq2 X0 SC hcs AD HB LB PF hfv) (fun _ hx => nomatch hx) (by rw [hml]; rfl) pd_13 rfl rfl (hb hby d4_12) rfl (by decide) (ble rfl) (ce' := 0) (sl' := 0) rfl rfl (by decide) (by decide) (fun v1049 h1050 hQ1051 => ?_)
  obtain ⟨rfl, rfl⟩ := hQ1051
  show Go _ _ _ _ _ _ _ _ _ _ _ _ _ _ _ _ _ _ _ _ 0 0 15 #[.val (.ref sa), .val (.int (0 : Int32))] [(.int c0)]
  refine Go.sipush (q := 18) (z := (128 : Int32)) hx (hb hby d4_15) rfl rfl ?_
  refine Go.icmp_lt (q := 21) (t := 23) hx (hb hby d4_18) (by decide) rfl rfl (fun hc18 => ?_) (fun hc18 => ?_)
  · skip
    refine Go.iinc (q := 26) (l' := #[.val (.ref sa), .val (.int ((0 : Int32) + (1 : Int32)))]) hx (hb hby d4_23) rfl rfl rfl ?_
    refine Go.goto (q := 2) hx (hb hby d4_26) (by decide) rfl ?_
    rw [show (0 : Int32) + (1 : Int32) = (1 : Int32) from by decide]
    refine Go.iloadN (q := 3) hx (hb hby d4_2) rfl rfl ?_
    refine Go.aloadN (q := 4) hx (hb hby d4_3) rfl (by rfl) rfl ?_
    refine Go.callV (q := 7) hx hZ (a := sa) (argsL := []) (rest := [(.int (1 : Int32))]) hown (tw hw 32 rfl) (tw hw 33 rfl) (fun vm hzv => notFace_of_selects (args := #[]) (mvT hzv (tw hw 35 rfl))) (tw hw 35 rfl) (tw hw 34 rfl) (tw hw 8 rfl) (tw hw 36 rfl) (by decide) E (rmLe1_3 l Z a0 hw hel sa b kb cst fv c0 c1 c2 h0 n0 Z0 E F1 F2 B hq0 hq1 hq2 X0 SC hcs AD HB LB PF hfv) (fun _ hx => nomatch hx) (by rw [hml]; rfl) pd_12 rfl rfl (hb hby d4_4) rfl (by decide) (ble rfl) (ce' := 0) (sl' := 0) rfl rfl (by decide) (by decide) (fun v1052 h1053 hQ1054 => ?_)
    obtain ⟨rfl, rfl⟩ := hQ1054
    show Go _ _ _ _ _ _ _ _ _ _ _ _ _ _ _ _ _ _ _ _ 0 0 7 #[.val (.ref sa), .val (.int (1 : Int32))] [(.int (3 : Int32)), (.int (1 : Int32))]
    refine Go.icmp_ge (q := 10) (t := 29) hx (hb hby d4_7) (by decide) rfl rfl (fun hc7_1 => absurd hc7_1 (by decide)) (fun hc7_1 => ?_)
    refine Go.aloadN (q := 11) hx (hb hby d4_10) rfl (by rfl) rfl ?_
    refine Go.iloadN (q := 12) hx (hb hby d4_11) rfl rfl ?_
    refine Go.callV (q := 15) hx hZ (a := sa) (argsL := [(.int (1 : Int32))]) (rest := []) hown (tw hw 53 rfl) (tw hw 54 rfl) (fun vm hzv => notFace_of_selects (args := #[]) (mvT hzv (tw hw 56 rfl))) (tw hw 56 rfl) (tw hw 55 rfl) (tw hw 8 rfl) (tw hw 57 rfl) (by decide) E (rmCh1_3_1 l Z a0 hw hel sa b kb cst fv c0 c1 c2 h0 n0 Z0 E F1 F2 B hq0 hq1 hq2 X0 SC hcs AD HB LB PF hfv) (fun _ hx => nomatch hx) (by rw [hml]; rfl) pd_13 rfl rfl (hb hby d4_12) rfl (by decide) (ble rfl) (ce' := 0) (sl' := 0) rfl rfl (by decide) (by decide) (fun v1055 h1056 hQ1057 => ?_)
    obtain ⟨rfl, rfl⟩ := hQ1057
    show Go _ _ _ _ _ _ _ _ _ _ _ _ _ _ _ _ _ _ _ _ 0 0 15 #[.val (.ref sa), .val (.int (1 : Int32))] [(.int c1)]
    refine Go.sipush (q := 18) (z := (128 : Int32)) hx (hb hby d4_15) rfl rfl ?_
    refine Go.icmp_lt (q := 21) (t := 23) hx (hb hby d4_18) (by decide) rfl rfl (fun hc18_1 => ?_) (fun hc18_1 => ?_)
    · skip
      refine Go.iinc (q := 26) (l' := #[.val (.ref sa), .val (.int ((1 : Int32) + (1 : Int32)))]) hx (hb hby d4_23) rfl rfl rfl ?_
      refine Go.goto (q := 2) hx (hb hby d4_26) (by decide) rfl ?_
      rw [show (1 : Int32) + (1 : Int32) = (2 : Int32) from by decide]
      refine Go.iloadN (q := 3) hx (hb hby d4_2) rfl rfl ?_
      refine Go.aloadN (q := 4) hx (hb hby d4_3) rfl (by rfl) rfl ?_
      refine Go.callV (q := 7) hx hZ (a := sa) (argsL := []) (rest := [(.int (2 : Int32))]) hown (tw hw 32 rfl) (tw hw 33 rfl) (fun vm hzv => notFace_of_selects (args := #[]) (mvT hzv (tw hw 35 rfl))) (tw hw 35 rfl) (tw hw 34 rfl) (tw hw 8 rfl) (tw hw 36 rfl) (by decide) E (rmLe1_3 l Z a0 hw hel sa b kb cst fv c0 c1 c2 h0 n0 Z0 E F1 F2 B hq0 hq1 hq2 X0 SC hcs AD HB LB PF hfv) (fun _ hx => nomatch hx) (by rw [hml]; rfl) pd_12 rfl rfl (hb hby d4_4) rfl (by decide) (ble rfl) (ce' := 0) (sl' := 0) rfl rfl (by decide) (by decide) (fun v1058 h1059 hQ1060 => ?_)
      obtain ⟨rfl, rfl⟩ := hQ1060
      show Go _ _ _ _ _ _ _ _ _ _ _ _ _ _ _ _ _ _ _ _ 0 0 7 #[.val (.ref sa), .val (.int (2 : Int32))] [(.int (3 : Int32)), (.int (2 : Int32))]
      refine Go.icmp_ge (q := 10) (t := 29) hx (hb hby d4_7) (by decide) rfl rfl (fun hc7_2 => absurd hc7_2 (by decide)) (fun hc7_2 => ?_)
      refine Go.aloadN (q := 11) hx (hb hby d4_10) rfl (by rfl) rfl ?_
      refine Go.iloadN (q := 12) hx (hb hby d4_11) rfl rfl ?_
      refine Go.callV (q := 15) hx hZ (a := sa) (argsL := [(.int (2 : Int32))]) (rest := []) hown (tw hw 53 rfl) (tw hw 54 rfl) (fun vm hzv => notFace_of_selects (args := #[]) (mvT hzv (tw hw 56 rfl))) (tw hw 56 rfl) (tw hw 55 rfl) (tw hw 8 rfl) (tw hw 57 rfl) (by decide) E (rmCh1_3_2 l Z a0 hw hel sa b kb cst fv c0 c1 c2 h0 n0 Z0 E F1 F2 B hq0 hq1 hq2 X0 SC hcs AD HB LB PF hfv) (fun _ hx => nomatch hx) (by rw [hml]; rfl) pd_13 rfl rfl (hb hby d4_12) rfl (by decide) (ble rfl) (ce' := 0) (sl' := 0) rfl rfl (by decide) (by decide) (fun v1061 h1062 hQ1063 => ?_)
      obtain ⟨rfl, rfl⟩ := hQ1063
      show Go _ _ _ _ _ _ _ _ _ _ _ _ _ _ _ _ _ _ _ _ 0 0 15 #[.val (.ref sa), .val (.int (2 : Int32))] [(.int c2)]
      refine Go.sipush (q := 18) (z := (128 : Int32)) hx (hb hby d4_15) rfl rfl ?_
      refine Go.icmp_lt (q := 21) (t := 23) hx (hb hby d4_18) (by decide) rfl rfl (fun hc18_2 => ?_) (fun hc18_2 => ?_)
      · skip
        refine Go.iinc (q := 26) (l' := #[.val (.ref sa), .val (.int ((2 : Int32) + (1 : Int32)))]) hx (hb hby d4_23) rfl rfl rfl ?_
        refine Go.goto (q := 2) hx (hb hby d4_26) (by decide) rfl ?_
        rw [show (2 : Int32) + (1 : Int32) = (3 : Int32) from by decide]
        refine Go.iloadN (q := 3) hx (hb hby d4_2) rfl rfl ?_
        refine Go.aloadN (q := 4) hx (hb hby d4_3) rfl (by rfl) rfl ?_
        refine Go.callV (q := 7) hx hZ (a := sa) (argsL := []) (rest := [(.int (3 : Int32))]) hown (tw hw 32 rfl) (tw hw 33 rfl) (fun vm hzv => notFace_of_selects (args := #[]) (mvT hzv (tw hw 35 rfl))) (tw hw 35 rfl) (tw hw 34 rfl) (tw hw 8 rfl) (tw hw 36 rfl) (by decide) E (rmLe1_3 l Z a0 hw hel sa b kb cst fv c0 c1 c2 h0 n0 Z0 E F1 F2 B hq0 hq1 hq2 X0 SC hcs AD HB LB PF hfv) (fun _ hx => nomatch hx) (by rw [hml]; rfl) pd_12 rfl rfl (hb hby d4_4) rfl (by decide) (ble rfl) (ce' := 0) (sl' := 0) rfl rfl (by decide) (by decide) (fun v1064 h1065 hQ1066 => ?_)
        obtain ⟨rfl, rfl⟩ := hQ1066
        show Go _ _ _ _ _ _ _ _ _ _ _ _ _ _ _ _ _ _ _ _ 0 0 7 #[.val (.ref sa), .val (.int (3 : Int32))] [(.int (3 : Int32)), (.int (3 : Int32))]
        refine Go.icmp_ge (q := 10) (t := 29) hx (hb hby d4_7) (by decide) rfl rfl (fun hc7_3 => ?_) (fun hc7_3 => absurd hc7_3 (by decide))
        refine Go.iconst (q := 30) (z := (1 : Int32)) hx (hb hby d4_29) rfl rfl ?_
        refine Go.retN hx (t := .boolean) hret (by simp) hlk (hb hby d4_30) (by decide) (by decide) ?_
        exact ⟨congrArg (fun z => some (Value.int z)) ((if_pos ⟨hc18, hc18_1, hc18_2⟩).symm : (1 : Int32) = _), rfl⟩
      · skip
        refine Go.iconst (q := 22) (z := (0 : Int32)) hx (hb hby d4_21) rfl rfl ?_
        refine Go.retN hx (t := .boolean) hret (by simp) hlk (hb hby d4_22) (by decide) (by decide) ?_
        exact ⟨congrArg (fun z => some (Value.int z)) ((if_neg (fun q => absurd q.2.2 hc18_2)).symm : (0 : Int32) = _), rfl⟩
    · skip
      refine Go.iconst (q := 22) (z := (0 : Int32)) hx (hb hby d4_21) rfl rfl ?_
      refine Go.retN hx (t := .boolean) hret (by simp) hlk (hb hby d4_22) (by decide) (by decide) ?_
      exact ⟨congrArg (fun z => some (Value.int z)) ((if_neg (fun q => absurd q.2.1 hc18_1)).symm : (0 : Int32) = _), rfl⟩
  · skip
    refine Go.iconst (q := 22) (z := (0 : Int32)) hx (hb hby d4_21) rfl rfl ?_
    refine Go.retN hx (t := .boolean) hret (by simp) hlk (hb hby d4_22) (by decide) (by decide) ?_
    exact ⟨congrArg (fun z => some (Value.int z)) ((if_neg (fun q => absurd q.1 hc18)).symm : (0 : Int32) = _), rfl⟩
def Str3 (Z : State) (h : Heap) (sa : Addr) (c0 c1 c2 : Int32) : Prop := Exa Z h sa "java/lang/String" ∧ ∃ b kb, Fld Z h sa "java/lang/String" "value" "[B" (.ref b) ∧ (((¬ (255 : Int32) < c0) ∧ (¬ (255 : Int32) < c1) ∧ (¬ (255 : Int32) < c2) ∧ Fld Z h sa "java/lang/String" "coder" "B" (.int (0 : Int32)) ∧ Arv Z h b kb .byte (3 : Int32) [(.int (nar .byte c0.toInt8.toInt32)), (.int (nar .byte c1.toInt8.toInt32)), (.int (nar .byte c2.toInt8.toInt32))] (.int (0 : Int32))) ∨ (Fld Z h sa "java/lang/String" "coder" "B" (.int (1 : Int32)) ∧ Arv Z h b kb .byte (6 : Int32) [(.int (nar .byte (c0 >>> ((0 : Int32) &&& 31)).toInt8.toInt32)), (.int (nar .byte (c0 >>> ((8 : Int32) &&& 31)).toInt8.toInt32)), (.int (nar .byte (c1 >>> ((0 : Int32) &&& 31)).toInt8.toInt32)), (.int (nar .byte (c1 >>> ((8 : Int32) &&& 31)).toInt8.toInt32)), (.int (nar .byte (c2 >>> ((0 : Int32) &&& 31)).toInt8.toInt32)), (.int (nar .byte (c2 >>> ((8 : Int32) &&& 31)).toInt8.toInt32))] (.int (0 : Int32))))
theorem rmAs3 (l : Launch) (Z : State) (a0 : Array Value) (hw : ∀ d ∈ tables_1, d.before a0 Z = true) (hel : EW Z a0 consts_1) (sa : Addr) (cst : Int32) (fv : Value) (c0 c1 c2 : Int32) (h0 : Heap) (n0 : Nat) (Z0 : n0 ≤ h0.size) (T : Str3 Z h0 sa c0 c1 c2) (hq0 : Chr c0) (hq1 : Chr c1) (hq2 : Chr c2) (X0 : Old Z n0 h0) (SC : Sta Z Z.heap "java/lang/String" "COMPACT_STRINGS" "Z" (.int cst)) (hcs : ¬ cst = (0 : Int32)) (AD : Sta Z Z.heap "java/lang/StringUTF16" "$assertionsDisabled" "Z" (.int (1 : Int32))) (HB : Sta Z Z.heap "java/lang/StringUTF16" "HI_BYTE_SHIFT" "I" (.int (0 : Int32))) (LB : Sta Z Z.heap "java/lang/StringUTF16" "LO_BYTE_SHIFT" "I" (.int (8 : Int32))) (PF : Sta Z Z.heap "jdk/internal/util/Preconditions" "SIOOBE_FORMATTER" "Ljava/util/function/BiFunction;" fv) (hfv : fv.isRef = true) :
    Met l Z consts_1 [] (⟨"com/example/epithet/epithet/store/MappedTable", "isAscii", "(Ljava/lang/String;)Z"⟩ : MethodName) prog_59_method_39_code 2 (Option.some FieldType.boolean) [] ({ frames := 5, cells := 0, slots := 0, locals := 96 } : Room) #[(.ref sa)] h0 n0 (fun v h => v = some (.int (if c0 < (128 : Int32) ∧ c1 < (128 : Int32) ∧ c2 < (128 : Int32) then (1 : Int32) else (0 : Int32))) ∧ h0 = h) := by
  obtain ⟨E, b, kb, F1, ⟨hp0, hp1, hp2, F2, B⟩ | ⟨F2, B⟩⟩ := T
  · exact rmAs0_3 l Z a0 hw hel sa b kb cst fv c0 c1 c2 h0 n0 Z0 E F1 F2 B hq0 hq1 hq2 hp0 hp1 hp2 X0 SC hcs AD HB LB PF hfv
  · exact rmAs1_3 l Z a0 hw hel sa b kb cst fv c0 c1 c2 h0 n0 Z0 E F1 F2 B hq0 hq1 hq2  X0 SC hcs AD HB LB PF hfv
theorem rmUL4 (l : Launch) (Z : State) (a0 : Array Value) (hw : ∀ d ∈ tables_1, d.before a0 Z = true) (hel : EW Z a0 consts_1) (b : Addr) (kb : ClassId) (vs : List Value) (h0 : Heap) (n0 : Nat) (Z0 : n0 ≤ h0.size) (B : Arv Z h0 b kb .byte (8 : Int32) vs (.int (0 : Int32))) :
    Met l Z consts_1 [] (⟨"java/lang/StringUTF16", "length", "([B)I"⟩ : MethodName) jdk_52_method_6_code 1 (Option.some FieldType.int) [] ({ frames := 0, cells := 0, slots := 0, locals := 0 } : Room) #[(.ref b)] h0 n0 (fun v h => v = some (.int (4 : Int32)) ∧ h0 = h) := by
  refine Met.of (Ls0 := #[.val (.ref b)]) pl_16 (by first | (simp [argsToLocals, Value.category]; done) | rfl) hel ?_
  intro p e s m below meth c hx hby hml hret hlk hown hnm hZ
  refine Go.aloadN (q := 1) hx (hb hby d22_0) rfl (by rfl) rfl ?_
  refine Go.alen (q := 2) hx hZ B (hb hby d22_1) rfl ?_
  refine Go.iconst (q := 3) (z := (1 : Int32)) hx (hb hby d22_2) rfl rfl ?_
  refine Go.ishr (q := 4) hx (hb hby d22_3) rfl ?_
  rw [show (8 : Int32) >>> ((1 : Int32) &&& 31) = (4 : Int32) from by decide]
  refine Go.retI hx hret hlk (hb hby d22_4) (by decide) (by decide) ?_
  exact ⟨rfl, rfl⟩
theorem rmLe0_4 (l : Launch) (Z : State) (a0 : Array Value) (hw : ∀ d ∈ tables_1, d.before a0 Z = true) (hel : EW Z a0 consts_1) (sa b : Addr) (kb : ClassId) (cst : Int32) (fv : Value) (c0 c1 c2 c3 : Int32) (h0 : Heap) (n0 : Nat) (Z0 : n0 ≤ h0.size) (E : Exa Z h0 sa "java/lang/String") (F1 : Fld Z h0 sa "java/lang/String" "value" "[B" (.ref b)) (F2 : Fld Z h0 sa "java/lang/String" "coder" "B" (.int (0 : Int32))) (B : Arv Z h0 b kb .byte (4 : Int32) [(.int (nar .byte c0.toInt8.toInt32)), (.int (nar .byte c1.toInt8.toInt32)), (.int (nar .byte c2.toInt8.toInt32)), (.int (nar .byte c3.toInt8.toInt32))] (.int (0 : Int32))) (hq0 : Chr c0) (hq1 : Chr c1) (hq2 : Chr c2) (hq3 : Chr c3) (hp0 : ¬ (255 : Int32) < c0) (hp1 : ¬ (255 : Int32) < c1) (hp2 : ¬ (255 : Int32) < c2) (hp3 : ¬ (255 : Int32) < c3) (X0 : Old Z n0 h0) (SC : Sta Z Z.heap "java/lang/String" "COMPACT_STRINGS" "Z" (.int cst)) (hcs : ¬ cst = (0 : Int32)) (AD : Sta Z Z.heap "java/lang/StringUTF16" "$assertionsDisabled" "Z" (.int (1 : Int32))) (HB : Sta Z Z.heap "java/lang/StringUTF16" "HI_BYTE_SHIFT" "I" (.int (0 : Int32))) (LB : Sta Z Z.heap "java/lang/StringUTF16" "LO_BYTE_SHIFT" "I" (.int (8 : Int32))) (PF : Sta Z Z.heap "jdk/internal/util/Preconditions" "SIOOBE_FORMATTER" "Ljava/util/function/BiFunction;" fv) (hfv : fv.isRef = true) :
    Met l Z consts_1 [] (⟨"java/lang/String", "length", "()I"⟩ : MethodName) jdk_42_method_54_code 1 (Option.some FieldType.int) [] ({ frames := 1, cells := 0, slots := 0, locals := 18 } : Room) #[(.ref sa)] h0 n0 (fun v h => v = some (.int (4 : Int32)) ∧ h0 = h) := by
  refine Met.of (Ls0 := #[.val (.ref sa)]) pl_14 (by first | (simp [argsToLocals, Value.category]; done) | rfl) hel ?_
  intro p e s m below meth c hx hby hml hret hlk hown hnm hZ
  refine Go.aloadN (q := 1) hx (hb hby d5_0) rfl (by rfl) rfl ?_
  refine Go.getF (q := 4) hx hZ hown (host := "") (Or.inl (tw hw 26 rfl)) Via.refl F1 (hb hby d5_1) rfl ?_
  refine Go.alen (q := 5) hx hZ B (hb hby d5_4) rfl ?_
  refine Go.aloadN (q := 6) hx (hb hby d5_5) rfl (by rfl) rfl ?_
  refine Go.callV (q := 9) hx hZ (a := sa) (argsL := []) (rest := [(.int (4 : Int32))]) hown (tw hw 37 rfl) (tw hw 38 rfl) (fun vm hzv => notFace_of_selects (args := #[]) (mvT hzv (tw hw 40 rfl))) (tw hw 40 rfl) (tw hw 39 rfl) (tw hw 8 rfl) (tw hw 41 rfl) (by decide) E (rmCo0 l Z a0 hw hel sa cst h0 n0 Z0 F2 X0 SC hcs) (fun _ hx => nomatch hx) (by rw [hml]; rfl) pd_11 rfl rfl (hb hby d5_6) rfl (by decide) (ble rfl) (ce' := 0) (sl' := 0) rfl rfl (by decide) (by decide) (fun v1067 h1068 hQ1069 => ?_)
  obtain ⟨rfl, rfl⟩ := hQ1069
  show Go _ _ _ _ _ _ _ _ _ _ _ _ _ _ _ _ _ _ _ _ 0 0 9 #[.val (.ref sa)] [(.int (0 : Int32)), (.int (4 : Int32))]
  refine Go.ishr (q := 10) hx (hb hby d5_9) rfl ?_
  rw [show (4 : Int32) >>> ((0 : Int32) &&& 31) = (4 : Int32) from by decide]
  refine Go.retI hx hret hlk (hb hby d5_10) (by decide) (by decide) ?_
  exact ⟨rfl, rfl⟩
theorem rmLC4_0 (l : Launch) (Z : State) (a0 : Array Value) (hw : ∀ d ∈ tables_1, d.before a0 Z = true) (hel : EW Z a0 consts_1) (b : Addr) (kb : ClassId) (fv : Value) (c0 c1 c2 c3 : Int32) (h0 : Heap) (n0 : Nat) (Z0 : n0 ≤ h0.size) (B : Arv Z h0 b kb .byte (4 : Int32) [(.int (nar .byte c0.toInt8.toInt32)), (.int (nar .byte c1.toInt8.toInt32)), (.int (nar .byte c2.toInt8.toInt32)), (.int (nar .byte c3.toInt8.toInt32))] (.int (0 : Int32))) (hq0 : Chr c0) (hp0 : ¬ (255 : Int32) < c0) (X0 : Old Z n0 h0) (PF : Sta Z Z.heap "jdk/internal/util/Preconditions" "SIOOBE_FORMATTER" "Ljava/util/function/BiFunction;" fv) (hfv : fv.isRef = true) :
    Met l Z consts_1 [] (⟨"java/lang/StringLatin1", "charAt", "([BI)C"⟩ : MethodName) jdk_43_method_2_code 2 (Option.some FieldType.char) [] ({ frames := 2, cells := 0, slots := 0, locals := 39 } : Room) #[(.ref b), (.int (0 : Int32))] h0 n0 (fun v h => v = some (.int c0) ∧ h0 = h) := by
  refine Met.of (Ls0 := #[.val (.ref b), .val (.int (0 : Int32))]) pl_17 (by first | (simp [argsToLocals, Value.category]; done) | rfl) hel ?_
  intro p e s m below meth c hx hby hml hret hlk hown hnm hZ
  refine Go.iloadN (q := 1) hx (hb hby d12_0) rfl rfl ?_
  refine Go.aloadN (q := 2) hx (hb hby d12_1) rfl (by rfl) rfl ?_
  refine Go.alen (q := 3) hx hZ B (hb hby d12_2) rfl ?_
  refine Go.callS (q := 6) hx hZ (argsL := [(.int (0 : Int32)), (.int (4 : Int32))]) (rest := []) hown (tw hw 67 rfl) (tw hw 68 rfl) (tw hw 8 rfl) (tw hw 69 rfl) (by decide) (rmX l Z a0 hw hel (0 : Int32) (4 : Int32) fv h0 n0 Z0 (by decide) (by decide) X0 PF hfv) (fun _ hx => nomatch hx) (by rw [hml]; rfl) pd_14 rfl rfl (hb hby d12_3) rfl (by decide) (ble rfl) (ce' := 0) (sl' := 0) rfl rfl (by decide) (by decide) (fun v1070 h1071 hQ1072 => ?_)
  obtain ⟨rfl, rfl⟩ := hQ1072
  show Go _ _ _ _ _ _ _ _ _ _ _ _ _ _ _ _ _ _ _ _ 0 0 6 #[.val (.ref b), .val (.int (0 : Int32))] []
  refine Go.aloadN (q := 7) hx (hb hby d12_6) rfl (by rfl) rfl ?_
  refine Go.iloadN (q := 8) hx (hb hby d12_7) rfl rfl ?_
  refine Go.baload (q := 9) (v := (.int (nar .byte c0.toInt8.toInt32))) hx hZ B ⟨by decide, by decide⟩ rfl (hb hby d12_8) rfl ?_
  refine Go.sipush (q := 12) (z := (255 : Int32)) hx (hb hby d12_9) rfl rfl ?_
  refine Go.iand (q := 13) hx (hb hby d12_12) rfl ?_
  refine Go.i2c (q := 14) hx (hb hby d12_13) rfl ?_
  refine Go.retN hx (t := .char) hret (by simp) hlk (hb hby d12_14) (by decide) (by decide) ?_
  exact ⟨congrArg (fun z => some (Value.int z)) (lat_ok hq0 hp0), rfl⟩
theorem rmCh0_4_0 (l : Launch) (Z : State) (a0 : Array Value) (hw : ∀ d ∈ tables_1, d.before a0 Z = true) (hel : EW Z a0 consts_1) (sa b : Addr) (kb : ClassId) (cst : Int32) (fv : Value) (c0 c1 c2 c3 : Int32) (h0 : Heap) (n0 : Nat) (Z0 : n0 ≤ h0.size) (E : Exa Z h0 sa "java/lang/String") (F1 : Fld Z h0 sa "java/lang/String" "value" "[B" (.ref b)) (F2 : Fld Z h0 sa "java/lang/String" "coder" "B" (.int (0 : Int32))) (B : Arv Z h0 b kb .byte (4 : Int32) [(.int (nar .byte c0.toInt8.toInt32)), (.int (nar .byte c1.toInt8.toInt32)), (.int (nar .byte c2.toInt8.toInt32)), (.int (nar .byte c3.toInt8.toInt32))] (.int (0 : Int32))) (hq0 : Chr c0) (hq1 : Chr c1) (hq2 : Chr c2) (hq3 : Chr c3) (hp0 : ¬ (255 : Int32) < c0) (hp1 : ¬ (255 : Int32) < c1) (hp2 : ¬ (255 : Int32) < c2) (hp3 : ¬ (255 : Int32) < c3) (X0 : Old Z n0 h0) (SC : Sta Z Z.heap "java/lang/String" "COMPACT_STRINGS" "Z" (.int cst)) (hcs : ¬ cst = (0 : Int32)) (AD : Sta Z Z.heap "java/lang/StringUTF16" "$assertionsDisabled" "Z" (.int (1 : Int32))) (HB : Sta Z Z.heap "java/lang/StringUTF16" "HI_BYTE_SHIFT" "I" (.int (0 : Int32))) (LB : Sta Z Z.heap "java/lang/StringUTF16" "LO_BYTE_SHIFT" "I" (.int (8 : Int32))) (PF : Sta Z Z.heap "jdk/internal/util/Preconditions" "SIOOBE_FORMATTER" "Ljava/util/function/BiFunction;" fv) (hfv : fv.isRef = true) :
    Met l Z consts_1 [] (⟨"java/lang/String", "charAt", "(I)C"⟩ : MethodName) jdk_42_method_56_code 2 (Option.some FieldType.char) [] ({ frames := 4, cells := 0, slots := 0, locals := 77 } : Room) #[(.ref sa), (.int (0 : Int32))] h0 n0 (fun v h => v = some (.int c0) ∧ h0 = h) := by
  refine Met.of (Ls0 := #[.val (.ref sa), .val (.int (0 : Int32))]) pl_18 (by first | (simp [argsToLocals, Value.category]; done) | rfl) hel ?_
  intro p e s m below meth c hx hby hml hret hlk hown hnm hZ
  refine Go.aloadN (q := 1) hx (hb hby d10_0) rfl (by rfl) rfl ?_
  refine Go.callV (q := 4) hx hZ (a := sa) (argsL := []) (rest := []) hown (tw hw 58 rfl) (tw hw 59 rfl) (fun vm hzv => notFace_of_selects (args := #[]) (mvT hzv (tw hw 61 rfl))) (tw hw 61 rfl) (tw hw 60 rfl) (tw hw 8 rfl) (tw hw 62 rfl) (by decide) E (rmIs0 l Z a0 hw hel sa cst h0 n0 Z0 F2 X0 SC hcs) (fun _ hx => nomatch hx) (by rw [hml]; rfl) pd_15 rfl rfl (hb hby d10_1) rfl (by decide) (ble rfl) (ce' := 0) (sl' := 0) rfl rfl (by decide) (by decide) (fun v1073 h1074 hQ1075 => ?_)
  obtain ⟨rfl, rfl⟩ := hQ1075
  show Go _ _ _ _ _ _ _ _ _ _ _ _ _ _ _ _ _ _ _ _ 0 0 4 #[.val (.ref sa), .val (.int (0 : Int32))] [(.int (1 : Int32))]
  refine Go.if_eq (q := 7) (t := 16) hx (hb hby d10_4) (by decide) rfl rfl (fun hc4 => absurd hc4 (by decide)) (fun hc4 => ?_)
  refine Go.aloadN (q := 8) hx (hb hby d10_7) rfl (by rfl) rfl ?_
  refine Go.getF (q := 11) hx hZ hown (host := "") (Or.inl (tw hw 26 rfl)) Via.refl F1 (hb hby d10_8) rfl ?_
  refine Go.iloadN (q := 12) hx (hb hby d10_11) rfl rfl ?_
  refine Go.callS (q := 15) hx hZ (argsL := [(.ref b), (.int (0 : Int32))]) (rest := []) hown (tw hw 63 rfl) (tw hw 64 rfl) (tw hw 65 rfl) (tw hw 66 rfl) (by decide) (rmLC4_0 l Z a0 hw hel b kb fv c0 c1 c2 c3 h0 n0 Z0 B hq0 hp0 X0 PF hfv) (fun _ hx => nomatch hx) (by rw [hml]; rfl) pd_5 rfl rfl (hb hby d10_12) rfl (by decide) (ble rfl) (ce' := 0) (sl' := 0) rfl rfl (by decide) (by decide) (fun v1076 h1077 hQ1078 => ?_)
  obtain ⟨rfl, rfl⟩ := hQ1078
  show Go _ _ _ _ _ _ _ _ _ _ _ _ _ _ _ _ _ _ _ _ 0 0 15 #[.val (.ref sa), .val (.int (0 : Int32))] [(.int c0)]
  refine Go.retN hx (t := .char) hret (by simp) hlk (hb hby d10_15) (by decide) (by decide) ?_
  exact ⟨congrArg (fun z => some (Value.int z)) (nar_chr hq0), rfl⟩
theorem rmLC4_1 (l : Launch) (Z : State) (a0 : Array Value) (hw : ∀ d ∈ tables_1, d.before a0 Z = true) (hel : EW Z a0 consts_1) (b : Addr) (kb : ClassId) (fv : Value) (c0 c1 c2 c3 : Int32) (h0 : Heap) (n0 : Nat) (Z0 : n0 ≤ h0.size) (B : Arv Z h0 b kb .byte (4 : Int32) [(.int (nar .byte c0.toInt8.toInt32)), (.int (nar .byte c1.toInt8.toInt32)), (.int (nar .byte c2.toInt8.toInt32)), (.int (nar .byte c3.toInt8.toInt32))] (.int (0 : Int32))) (hq1 : Chr c1) (hp1 : ¬ (255 : Int32) < c1) (X0 : Old Z n0 h0) (PF : Sta Z Z.heap "jdk/internal/util/Preconditions" "SIOOBE_FORMATTER" "Ljava/util/function/BiFunction;" fv) (hfv : fv.isRef = true) :
    Met l Z consts_1 [] (⟨"java/lang/StringLatin1", "charAt", "([BI)C"⟩ : MethodName) jdk_43_method_2_code 2 (Option.some FieldType.char) [] ({ frames := 2, cells := 0, slots := 0, locals := 39 } : Room) #[(.ref b), (.int (1 : Int32))] h0 n0 (fun v h => v = some (.int c1) ∧ h0 = h) := by
  refine Met.of (Ls0 := #[.val (.ref b), .val (.int (1 : Int32))]) pl_17 (by first | (simp [argsToLocals, Value.category]; done) | rfl) hel ?_
  intro p e s m below meth c hx hby hml hret hlk hown hnm hZ
  refine Go.iloadN (q := 1) hx (hb hby d12_0) rfl rfl ?_
  refine Go.aloadN (q := 2) hx (hb hby d12_1) rfl (by rfl) rfl ?_
  refine Go.alen (q := 3) hx hZ B (hb hby d12_2) rfl ?_
  refine Go.callS (q := 6) hx hZ (argsL := [(.int (1 : Int32)), (.int (4 : Int32))]) (rest := []) hown (tw hw 67 rfl) (tw hw 68 rfl) (tw hw 8 rfl) (tw hw 69 rfl) (by decide) (rmX l Z a0 hw hel (1 : Int32) (4 : Int32) fv h0 n0 Z0 (by decide) (by decide) X0 PF hfv) (fun _ hx => nomatch hx) (by rw [hml]; rfl) pd_14 rfl rfl (hb hby d12_3) rfl (by decide) (ble rfl) (ce' := 0) (sl' := 0) rfl rfl (by decide) (by decide) (fun v1079 h1080 hQ1081 => ?_)
  obtain ⟨rfl, rfl⟩ := hQ1081
  show Go _ _ _ _ _ _ _ _ _ _ _ _ _ _ _ _ _ _ _ _ 0 0 6 #[.val (.ref b), .val (.int (1 : Int32))] []
  refine Go.aloadN (q := 7) hx (hb hby d12_6) rfl (by rfl) rfl ?_
  refine Go.iloadN (q := 8) hx (hb hby d12_7) rfl rfl ?_
  refine Go.baload (q := 9) (v := (.int (nar .byte c1.toInt8.toInt32))) hx hZ B ⟨by decide, by decide⟩ rfl (hb hby d12_8) rfl ?_
  refine Go.sipush (q := 12) (z := (255 : Int32)) hx (hb hby d12_9) rfl rfl ?_
  refine Go.iand (q := 13) hx (hb hby d12_12) rfl ?_
  refine Go.i2c (q := 14) hx (hb hby d12_13) rfl ?_
  refine Go.retN hx (t := .char) hret (by simp) hlk (hb hby d12_14) (by decide) (by decide) ?_
  exact ⟨congrArg (fun z => some (Value.int z)) (lat_ok hq1 hp1), rfl⟩
theorem rmCh0_4_1 (l : Launch) (Z : State) (a0 : Array Value) (hw : ∀ d ∈ tables_1, d.before a0 Z = true) (hel : EW Z a0 consts_1) (sa b : Addr) (kb : ClassId) (cst : Int32) (fv : Value) (c0 c1 c2 c3 : Int32) (h0 : Heap) (n0 : Nat) (Z0 : n0 ≤ h0.size) (E : Exa Z h0 sa "java/lang/String") (F1 : Fld Z h0 sa "java/lang/String" "value" "[B" (.ref b)) (F2 : Fld Z h0 sa "java/lang/String" "coder" "B" (.int (0 : Int32))) (B : Arv Z h0 b kb .byte (4 : Int32) [(.int (nar .byte c0.toInt8.toInt32)), (.int (nar .byte c1.toInt8.toInt32)), (.int (nar .byte c2.toInt8.toInt32)), (.int (nar .byte c3.toInt8.toInt32))] (.int (0 : Int32))) (hq0 : Chr c0) (hq1 : Chr c1) (hq2 : Chr c2) (hq3 : Chr c3) (hp0 : ¬ (255 : Int32) < c0) (hp1 : ¬ (255 : Int32) < c1) (hp2 : ¬ (255 : Int32) < c2) (hp3 : ¬ (255 : Int32) < c3) (X0 : Old Z n0 h0) (SC : Sta Z Z.heap "java/lang/String" "COMPACT_STRINGS" "Z" (.int cst)) (hcs : ¬ cst = (0 : Int32)) (AD : Sta Z Z.heap "java/lang/StringUTF16" "$assertionsDisabled" "Z" (.int (1 : Int32))) (HB : Sta Z Z.heap "java/lang/StringUTF16" "HI_BYTE_SHIFT" "I" (.int (0 : Int32))) (LB : Sta Z Z.heap "java/lang/StringUTF16" "LO_BYTE_SHIFT" "I" (.int (8 : Int32))) (PF : Sta Z Z.heap "jdk/internal/util/Preconditions" "SIOOBE_FORMATTER" "Ljava/util/function/BiFunction;" fv) (hfv : fv.isRef = true) :
    Met l Z consts_1 [] (⟨"java/lang/String", "charAt", "(I)C"⟩ : MethodName) jdk_42_method_56_code 2 (Option.some FieldType.char) [] ({ frames := 4, cells := 0, slots := 0, locals := 77 } : Room) #[(.ref sa), (.int (1 : Int32))] h0 n0 (fun v h => v = some (.int c1) ∧ h0 = h) := by
  refine Met.of (Ls0 := #[.val (.ref sa), .val (.int (1 : Int32))]) pl_18 (by first | (simp [argsToLocals, Value.category]; done) | rfl) hel ?_
  intro p e s m below meth c hx hby hml hret hlk hown hnm hZ
  refine Go.aloadN (q := 1) hx (hb hby d10_0) rfl (by rfl) rfl ?_
  refine Go.callV (q := 4) hx hZ (a := sa) (argsL := []) (rest := []) hown (tw hw 58 rfl) (tw hw 59 rfl) (fun vm hzv => notFace_of_selects (args := #[]) (mvT hzv (tw hw 61 rfl))) (tw hw 61 rfl) (tw hw 60 rfl) (tw hw 8 rfl) (tw hw 62 rfl) (by decide) E (rmIs0 l Z a0 hw hel sa cst h0 n0 Z0 F2 X0 SC hcs) (fun _ hx => nomatch hx) (by rw [hml]; rfl) pd_15 rfl rfl (hb hby d10_1) rfl (by decide) (ble rfl) (ce' := 0) (sl' := 0) rfl rfl (by decide) (by decide) (fun v1082 h1083 hQ1084 => ?_)
  obtain ⟨rfl, rfl⟩ := hQ1084
  show Go _ _ _ _ _ _ _ _ _ _ _ _ _ _ _ _ _ _ _ _ 0 0 4 #[.val (.ref sa), .val (.int (1 : Int32))] [(.int (1 : Int32))]
  refine Go.if_eq (q := 7) (t := 16) hx (hb hby d10_4) (by decide) rfl rfl (fun hc4 => absurd hc4 (by decide)) (fun hc4 => ?_)
  refine Go.aloadN (q := 8) hx (hb hby d10_7) rfl (by rfl) rfl ?_
  refine Go.getF (q := 11) hx hZ hown (host := "") (Or.inl (tw hw 26 rfl)) Via.refl F1 (hb hby d10_8) rfl ?_
  refine Go.iloadN (q := 12) hx (hb hby d10_11) rfl rfl ?_
  refine Go.callS (q := 15) hx hZ (argsL := [(.ref b), (.int (1 : Int32))]) (rest := []) hown (tw hw 63 rfl) (tw hw 64 rfl) (tw hw 65 rfl) (tw hw 66 rfl) (by decide) (rmLC4_1 l Z a0 hw hel b kb fv c0 c1 c2 c3 h0 n0 Z0 B hq1 hp1 X0 PF hfv) (fun _ hx => nomatch hx) (by rw [hml]; rfl) pd_5 rfl rfl (hb hby d10_12) rfl (by decide) (ble rfl) (ce' := 0) (sl' := 0) rfl rfl (by decide) (by decide) (fun v1085 h1086 hQ1087 => ?_)
  obtain ⟨rfl, rfl⟩ := hQ1087
  show Go _ _ _ _ _ _ _ _ _ _ _ _ _ _ _ _ _ _ _ _ 0 0 15 #[.val (.ref sa), .val (.int (1 : Int32))] [(.int c1)]
  refine Go.retN hx (t := .char) hret (by simp) hlk (hb hby d10_15) (by decide) (by decide) ?_
  exact ⟨congrArg (fun z => some (Value.int z)) (nar_chr hq1), rfl⟩
theorem rmLC4_2 (l : Launch) (Z : State) (a0 : Array Value) (hw : ∀ d ∈ tables_1, d.before a0 Z = true) (hel : EW Z a0 consts_1) (b : Addr) (kb : ClassId) (fv : Value) (c0 c1 c2 c3 : Int32) (h0 : Heap) (n0 : Nat) (Z0 : n0 ≤ h0.size) (B : Arv Z h0 b kb .byte (4 : Int32) [(.int (nar .byte c0.toInt8.toInt32)), (.int (nar .byte c1.toInt8.toInt32)), (.int (nar .byte c2.toInt8.toInt32)), (.int (nar .byte c3.toInt8.toInt32))] (.int (0 : Int32))) (hq2 : Chr c2) (hp2 : ¬ (255 : Int32) < c2) (X0 : Old Z n0 h0) (PF : Sta Z Z.heap "jdk/internal/util/Preconditions" "SIOOBE_FORMATTER" "Ljava/util/function/BiFunction;" fv) (hfv : fv.isRef = true) :
    Met l Z consts_1 [] (⟨"java/lang/StringLatin1", "charAt", "([BI)C"⟩ : MethodName) jdk_43_method_2_code 2 (Option.some FieldType.char) [] ({ frames := 2, cells := 0, slots := 0, locals := 39 } : Room) #[(.ref b), (.int (2 : Int32))] h0 n0 (fun v h => v = some (.int c2) ∧ h0 = h) := by
  refine Met.of (Ls0 := #[.val (.ref b), .val (.int (2 : Int32))]) pl_17 (by first | (simp [argsToLocals, Value.category]; done) | rfl) hel ?_
  intro p e s m below meth c hx hby hml hret hlk hown hnm hZ
  refine Go.iloadN (q := 1) hx (hb hby d12_0) rfl rfl ?_
  refine Go.aloadN (q := 2) hx (hb hby d12_1) rfl (by rfl) rfl ?_
  refine Go.alen (q := 3) hx hZ B (hb hby d12_2) rfl ?_
  refine Go.callS (q := 6) hx hZ (argsL := [(.int (2 : Int32)), (.int (4 : Int32))]) (rest := []) hown (tw hw 67 rfl) (tw hw 68 rfl) (tw hw 8 rfl) (tw hw 69 rfl) (by decide) (rmX l Z a0 hw hel (2 : Int32) (4 : Int32) fv h0 n0 Z0 (by decide) (by decide) X0 PF hfv) (fun _ hx => nomatch hx) (by rw [hml]; rfl) pd_14 rfl rfl (hb hby d12_3) rfl (by decide) (ble rfl) (ce' := 0) (sl' := 0) rfl rfl (by decide) (by decide) (fun v1088 h1089 hQ1090 => ?_)
  obtain ⟨rfl, rfl⟩ := hQ1090
  show Go _ _ _ _ _ _ _ _ _ _ _ _ _ _ _ _ _ _ _ _ 0 0 6 #[.val (.ref b), .val (.int (2 : Int32))] []
  refine Go.aloadN (q := 7) hx (hb hby d12_6) rfl (by rfl) rfl ?_
  refine Go.iloadN (q := 8) hx (hb hby d12_7) rfl rfl ?_
  refine Go.baload (q := 9) (v := (.int (nar .byte c2.toInt8.toInt32))) hx hZ B ⟨by decide, by decide⟩ rfl (hb hby d12_8) rfl ?_
  refine Go.sipush (q := 12) (z := (255 : Int32)) hx (hb hby d12_9) rfl rfl ?_
  refine Go.iand (q := 13) hx (hb hby d12_12) rfl ?_
  refine Go.i2c (q := 14) hx (hb hby d12_13) rfl ?_
  refine Go.retN hx (t := .char) hret (by simp) hlk (hb hby d12_14) (by decide) (by decide) ?_
  exact ⟨congrArg (fun z => some (Value.int z)) (lat_ok hq2 hp2), rfl⟩
theorem rmCh0_4_2 (l : Launch) (Z : State) (a0 : Array Value) (hw : ∀ d ∈ tables_1, d.before a0 Z = true) (hel : EW Z a0 consts_1) (sa b : Addr) (kb : ClassId) (cst : Int32) (fv : Value) (c0 c1 c2 c3 : Int32) (h0 : Heap) (n0 : Nat) (Z0 : n0 ≤ h0.size) (E : Exa Z h0 sa "java/lang/String") (F1 : Fld Z h0 sa "java/lang/String" "value" "[B" (.ref b)) (F2 : Fld Z h0 sa "java/lang/String" "coder" "B" (.int (0 : Int32))) (B : Arv Z h0 b kb .byte (4 : Int32) [(.int (nar .byte c0.toInt8.toInt32)), (.int (nar .byte c1.toInt8.toInt32)), (.int (nar .byte c2.toInt8.toInt32)), (.int (nar .byte c3.toInt8.toInt32))] (.int (0 : Int32))) (hq0 : Chr c0) (hq1 : Chr c1) (hq2 : Chr c2) (hq3 : Chr c3) (hp0 : ¬ (255 : Int32) < c0) (hp1 : ¬ (255 : Int32) < c1) (hp2 : ¬ (255 : Int32) < c2) (hp3 : ¬ (255 : Int32) < c3) (X0 : Old Z n0 h0) (SC : Sta Z Z.heap "java/lang/String" "COMPACT_STRINGS" "Z" (.int cst)) (hcs : ¬ cst = (0 : Int32)) (AD : Sta Z Z.heap "java/lang/StringUTF16" "$assertionsDisabled" "Z" (.int (1 : Int32))) (HB : Sta Z Z.heap "java/lang/StringUTF16" "HI_BYTE_SHIFT" "I" (.int (0 : Int32))) (LB : Sta Z Z.heap "java/lang/StringUTF16" "LO_BYTE_SHIFT" "I" (.int (8 : Int32))) (PF : Sta Z Z.heap "jdk/internal/util/Preconditions" "SIOOBE_FORMATTER" "Ljava/util/function/BiFunction;" fv) (hfv : fv.isRef = true) :
    Met l Z consts_1 [] (⟨"java/lang/String", "charAt", "(I)C"⟩ : MethodName) jdk_42_method_56_code 2 (Option.some FieldType.char) [] ({ frames := 4, cells := 0, slots := 0, locals := 77 } : Room) #[(.ref sa), (.int (2 : Int32))] h0 n0 (fun v h => v = some (.int c2) ∧ h0 = h) := by
  refine Met.of (Ls0 := #[.val (.ref sa), .val (.int (2 : Int32))]) pl_18 (by first | (simp [argsToLocals, Value.category]; done) | rfl) hel ?_
  intro p e s m below meth c hx hby hml hret hlk hown hnm hZ
  refine Go.aloadN (q := 1) hx (hb hby d10_0) rfl (by rfl) rfl ?_
  refine Go.callV (q := 4) hx hZ (a := sa) (argsL := []) (rest := []) hown (tw hw 58 rfl) (tw hw 59 rfl) (fun vm hzv => notFace_of_selects (args := #[]) (mvT hzv (tw hw 61 rfl))) (tw hw 61 rfl) (tw hw 60 rfl) (tw hw 8 rfl) (tw hw 62 rfl) (by decide) E (rmIs0 l Z a0 hw hel sa cst h0 n0 Z0 F2 X0 SC hcs) (fun _ hx => nomatch hx) (by rw [hml]; rfl) pd_15 rfl rfl (hb hby d10_1) rfl (by decide) (ble rfl) (ce' := 0) (sl' := 0) rfl rfl (by decide) (by decide) (fun v1091 h1092 hQ1093 => ?_)
  obtain ⟨rfl, rfl⟩ := hQ1093
  show Go _ _ _ _ _ _ _ _ _ _ _ _ _ _ _ _ _ _ _ _ 0 0 4 #[.val (.ref sa), .val (.int (2 : Int32))] [(.int (1 : Int32))]
  refine Go.if_eq (q := 7) (t := 16) hx (hb hby d10_4) (by decide) rfl rfl (fun hc4 => absurd hc4 (by decide)) (fun hc4 => ?_)
  refine Go.aloadN (q := 8) hx (hb hby d10_7) rfl (by rfl) rfl ?_
  refine Go.getF (q := 11) hx hZ hown (host := "") (Or.inl (tw hw 26 rfl)) Via.refl F1 (hb hby d10_8) rfl ?_
  refine Go.iloadN (q := 12) hx (hb hby d10_11) rfl rfl ?_
  refine Go.callS (q := 15) hx hZ (argsL := [(.ref b), (.int (2 : Int32))]) (rest := []) hown (tw hw 63 rfl) (tw hw 64 rfl) (tw hw 65 rfl) (tw hw 66 rfl) (by decide) (rmLC4_2 l Z a0 hw hel b kb fv c0 c1 c2 c3 h0 n0 Z0 B hq2 hp2 X0 PF hfv) (fun _ hx => nomatch hx) (by rw [hml]; rfl) pd_5 rfl rfl (hb hby d10_12) rfl (by decide) (ble rfl) (ce' := 0) (sl' := 0) rfl rfl (by decide) (by decide) (fun v1094 h1095 hQ1096 => ?_)
  obtain ⟨rfl, rfl⟩ := hQ1096
  show Go _ _ _ _ _ _ _ _ _ _ _ _ _ _ _ _ _ _ _ _ 0 0 15 #[.val (.ref sa), .val (.int (2 : Int32))] [(.int c2)]
  refine Go.retN hx (t := .char) hret (by simp) hlk (hb hby d10_15) (by decide) (by decide) ?_
  exact ⟨congrArg (fun z => some (Value.int z)) (nar_chr hq2), rfl⟩
theorem rmLC4_3 (l : Launch) (Z : State) (a0 : Array Value) (hw : ∀ d ∈ tables_1, d.before a0 Z = true) (hel : EW Z a0 consts_1) (b : Addr) (kb : ClassId) (fv : Value) (c0 c1 c2 c3 : Int32) (h0 : Heap) (n0 : Nat) (Z0 : n0 ≤ h0.size) (B : Arv Z h0 b kb .byte (4 : Int32) [(.int (nar .byte c0.toInt8.toInt32)), (.int (nar .byte c1.toInt8.toInt32)), (.int (nar .byte c2.toInt8.toInt32)), (.int (nar .byte c3.toInt8.toInt32))] (.int (0 : Int32))) (hq3 : Chr c3) (hp3 : ¬ (255 : Int32) < c3) (X0 : Old Z n0 h0) (PF : Sta Z Z.heap "jdk/internal/util/Preconditions" "SIOOBE_FORMATTER" "Ljava/util/function/BiFunction;" fv) (hfv : fv.isRef = true) :
    Met l Z consts_1 [] (⟨"java/lang/StringLatin1", "charAt", "([BI)C"⟩ : MethodName) jdk_43_method_2_code 2 (Option.some FieldType.char) [] ({ frames := 2, cells := 0, slots := 0, locals := 39 } : Room) #[(.ref b), (.int (3 : Int32))] h0 n0 (fun v h => v = some (.int c3) ∧ h0 = h) := by
  refine Met.of (Ls0 := #[.val (.ref b), .val (.int (3 : Int32))]) pl_17 (by first | (simp [argsToLocals, Value.category]; done) | rfl) hel ?_
  intro p e s m below meth c hx hby hml hret hlk hown hnm hZ
  refine Go.iloadN (q := 1) hx (hb hby d12_0) rfl rfl ?_
  refine Go.aloadN (q := 2) hx (hb hby d12_1) rfl (by rfl) rfl ?_
  refine Go.alen (q := 3) hx hZ B (hb hby d12_2) rfl ?_
  refine Go.callS (q := 6) hx hZ (argsL := [(.int (3 : Int32)), (.int (4 : Int32))]) (rest := []) hown (tw hw 67 rfl) (tw hw 68 rfl) (tw hw 8 rfl) (tw hw 69 rfl) (by decide) (rmX l Z a0 hw hel (3 : Int32) (4 : Int32) fv h0 n0 Z0 (by decide) (by decide) X0 PF hfv) (fun _ hx => nomatch hx) (by rw [hml]; rfl) pd_14 rfl rfl (hb hby d12_3) rfl (by decide) (ble rfl) (ce' := 0) (sl' := 0) rfl rfl (by decide) (by decide) (fun v1097 h1098 hQ1099 => ?_)
  obtain ⟨rfl, rfl⟩ := hQ1099
  show Go _ _ _ _ _ _ _ _ _ _ _ _ _ _ _ _ _ _ _ _ 0 0 6 #[.val (.ref b), .val (.int (3 : Int32))] []
  refine Go.aloadN (q := 7) hx (hb hby d12_6) rfl (by rfl) rfl ?_
  refine Go.iloadN (q := 8) hx (hb hby d12_7) rfl rfl ?_
  refine Go.baload (q := 9) (v := (.int (nar .byte c3.toInt8.toInt32))) hx hZ B ⟨by decide, by decide⟩ rfl (hb hby d12_8) rfl ?_
  refine Go.sipush (q := 12) (z := (255 : Int32)) hx (hb hby d12_9) rfl rfl ?_
  refine Go.iand (q := 13) hx (hb hby d12_12) rfl ?_
  refine Go.i2c (q := 14) hx (hb hby d12_13) rfl ?_
  refine Go.retN hx (t := .char) hret (by simp) hlk (hb hby d12_14) (by decide) (by decide) ?_
  exact ⟨congrArg (fun z => some (Value.int z)) (lat_ok hq3 hp3), rfl⟩
theorem rmCh0_4_3 (l : Launch) (Z : State) (a0 : Array Value) (hw : ∀ d ∈ tables_1, d.before a0 Z = true) (hel : EW Z a0 consts_1) (sa b : Addr) (kb : ClassId) (cst : Int32) (fv : Value) (c0 c1 c2 c3 : Int32) (h0 : Heap) (n0 : Nat) (Z0 : n0 ≤ h0.size) (E : Exa Z h0 sa "java/lang/String") (F1 : Fld Z h0 sa "java/lang/String" "value" "[B" (.ref b)) (F2 : Fld Z h0 sa "java/lang/String" "coder" "B" (.int (0 : Int32))) (B : Arv Z h0 b kb .byte (4 : Int32) [(.int (nar .byte c0.toInt8.toInt32)), (.int (nar .byte c1.toInt8.toInt32)), (.int (nar .byte c2.toInt8.toInt32)), (.int (nar .byte c3.toInt8.toInt32))] (.int (0 : Int32))) (hq0 : Chr c0) (hq1 : Chr c1) (hq2 : Chr c2) (hq3 : Chr c3) (hp0 : ¬ (255 : Int32) < c0) (hp1 : ¬ (255 : Int32) < c1) (hp2 : ¬ (255 : Int32) < c2) (hp3 : ¬ (255 : Int32) < c3) (X0 : Old Z n0 h0) (SC : Sta Z Z.heap "java/lang/String" "COMPACT_STRINGS" "Z" (.int cst)) (hcs : ¬ cst = (0 : Int32)) (AD : Sta Z Z.heap "java/lang/StringUTF16" "$assertionsDisabled" "Z" (.int (1 : Int32))) (HB : Sta Z Z.heap "java/lang/StringUTF16" "HI_BYTE_SHIFT" "I" (.int (0 : Int32))) (LB : Sta Z Z.heap "java/lang/StringUTF16" "LO_BYTE_SHIFT" "I" (.int (8 : Int32))) (PF : Sta Z Z.heap "jdk/internal/util/Preconditions" "SIOOBE_FORMATTER" "Ljava/util/function/BiFunction;" fv) (hfv : fv.isRef = true) :
    Met l Z consts_1 [] (⟨"java/lang/String", "charAt", "(I)C"⟩ : MethodName) jdk_42_method_56_code 2 (Option.some FieldType.char) [] ({ frames := 4, cells := 0, slots := 0, locals := 77 } : Room) #[(.ref sa), (.int (3 : Int32))] h0 n0 (fun v h => v = some (.int c3) ∧ h0 = h) := by
  refine Met.of (Ls0 := #[.val (.ref sa), .val (.int (3 : Int32))]) pl_18 (by first | (simp [argsToLocals, Value.category]; done) | rfl) hel ?_
  intro p e s m below meth c hx hby hml hret hlk hown hnm hZ
  refine Go.aloadN (q := 1) hx (hb hby d10_0) rfl (by rfl) rfl ?_
  refine Go.callV (q := 4) hx hZ (a := sa) (argsL := []) (rest := []) hown (tw hw 58 rfl) (tw hw 59 rfl) (fun vm hzv => notFace_of_selects (args := #[]) (mvT hzv (tw hw 61 rfl))) (tw hw 61 rfl) (tw hw 60 rfl) (tw hw 8 rfl) (tw hw 62 rfl) (by decide) E (rmIs0 l Z a0 hw hel sa cst h0 n0 Z0 F2 X0 SC hcs) (fun _ hx => nomatch hx) (by rw [hml]; rfl) pd_15 rfl rfl (hb hby d10_1) rfl (by decide) (ble rfl) (ce' := 0) (sl' := 0) rfl rfl (by decide) (by decide) (fun v1100 h1101 hQ1102 => ?_)
  obtain ⟨rfl, rfl⟩ := hQ1102
  show Go _ _ _ _ _ _ _ _ _ _ _ _ _ _ _ _ _ _ _ _ 0 0 4 #[.val (.ref sa), .val (.int (3 : Int32))] [(.int (1 : Int32))]
  refine Go.if_eq (q := 7) (t := 16) hx (hb hby d10_4) (by decide) rfl rfl (fun hc4 => absurd hc4 (by decide)) (fun hc4 => ?_)
  refine Go.aloadN (q := 8) hx (hb hby d10_7) rfl (by rfl) rfl ?_
  refine Go.getF (q := 11) hx hZ hown (host := "") (Or.inl (tw hw 26 rfl)) Via.refl F1 (hb hby d10_8) rfl ?_
  refine Go.iloadN (q := 12) hx (hb hby d10_11) rfl rfl ?_
  refine Go.callS (q := 15) hx hZ (argsL := [(.ref b), (.int (3 : Int32))]) (rest := []) hown (tw hw 63 rfl) (tw hw 64 rfl) (tw hw 65 rfl) (tw hw 66 rfl) (by decide) (rmLC4_3 l Z a0 hw hel b kb fv c0 c1 c2 c3 h0 n0 Z0 B hq3 hp3 X0 PF hfv) (fun _ hx => nomatch hx) (by rw [hml]; rfl) pd_5 rfl rfl (hb hby d10_12) rfl (by decide) (ble rfl) (ce' := 0) (sl' := 0) rfl rfl (by decide) (by decide) (fun v1103 h1104 hQ1105 => ?_)
  obtain ⟨rfl, rfl⟩ := hQ1105
  show Go _ _ _ _ _ _ _ _ _ _ _ _ _ _ _ _ _ _ _ _ 0 0 15 #[.val (.ref sa), .val (.int (3 : Int32))] [(.int c3)]
  refine Go.retN hx (t := .char) hret (by simp) hlk (hb hby d10_15) (by decide) (by decide) ?_
  exact ⟨congrArg (fun z => some (Value.int z)) (nar_chr hq3), rfl⟩
theorem rmAs0_4 (l : Launch) (Z : State) (a0 : Array Value) (hw : ∀ d ∈ tables_1, d.before a0 Z = true) (hel : EW Z a0 consts_1) (sa b : Addr) (kb : ClassId) (cst : Int32) (fv : Value) (c0 c1 c2 c3 : Int32) (h0 : Heap) (n0 : Nat) (Z0 : n0 ≤ h0.size) (E : Exa Z h0 sa "java/lang/String") (F1 : Fld Z h0 sa "java/lang/String" "value" "[B" (.ref b)) (F2 : Fld Z h0 sa "java/lang/String" "coder" "B" (.int (0 : Int32))) (B : Arv Z h0 b kb .byte (4 : Int32) [(.int (nar .byte c0.toInt8.toInt32)), (.int (nar .byte c1.toInt8.toInt32)), (.int (nar .byte c2.toInt8.toInt32)), (.int (nar .byte c3.toInt8.toInt32))] (.int (0 : Int32))) (hq0 : Chr c0) (hq1 : Chr c1) (hq2 : Chr c2) (hq3 : Chr c3) (hp0 : ¬ (255 : Int32) < c0) (hp1 : ¬ (255 : Int32) < c1) (hp2 : ¬ (255 : Int32) < c2) (hp3 : ¬ (255 : Int32) < c3) (X0 : Old Z n0 h0) (SC : Sta Z Z.heap "java/lang/String" "COMPACT_STRINGS" "Z" (.int cst)) (hcs : ¬ cst = (0 : Int32)) (AD : Sta Z Z.heap "java/lang/StringUTF16" "$assertionsDisabled" "Z" (.int (1 : Int32))) (HB : Sta Z Z.heap "java/lang/StringUTF16" "HI_BYTE_SHIFT" "I" (.int (0 : Int32))) (LB : Sta Z Z.heap "java/lang/StringUTF16" "LO_BYTE_SHIFT" "I" (.int (8 : Int32))) (PF : Sta Z Z.heap "jdk/internal/util/Preconditions" "SIOOBE_FORMATTER" "Ljava/util/function/BiFunction;" fv) (hfv : fv.isRef = true) :
    Met l Z consts_1 [] (⟨"com/example/epithet/epithet/store/MappedTable", "isAscii", "(Ljava/lang/String;)Z"⟩ : MethodName) prog_59_method_39_code 2 (Option.some FieldType.boolean) [] ({ frames := 5, cells := 0, slots := 0, locals := 96 } : Room) #[(.ref sa)] h0 n0 (fun v h => v = some (.int (if c0 < (128 : Int32) ∧ c1 < (128 : Int32) ∧ c2 < (128 : Int32) ∧ c3 < (128 : Int32) then (1 : Int32) else (0 : Int32))) ∧ h0 = h) := by
  refine Met.of (Ls0 := #[.val (.ref sa), .unset]) pl_15 (by first | (simp [argsToLocals, Value.category]; done) | rfl) hel ?_
  intro p e s m below meth c hx hby hml hret hlk hown hnm hZ
  refine Go.iconst (q := 1) (z := (0 : Int32)) hx (hb hby d4_0) rfl rfl ?_
  refine Go.istoreN (q := 2) (l' := #[.val (.ref sa), .val (.int (0 : Int32))]) hx (hb hby d4_1) rfl rfl ?_
  refine Go.iloadN (q := 3) hx (hb hby d4_2) rfl rfl ?_
  refine Go.aloadN (q := 4) hx (hb hby d4_3) rfl (by rfl) rfl ?_
  refine Go.callV (q := 7) hx hZ (a := sa) (argsL := []) (rest := [(.int (0 : Int32))]) hown (tw hw 32 rfl) (tw hw 33 rfl) (fun vm hzv => notFace_of_selects (args := #[]) (mvT hzv (tw hw 35 rfl))) (tw hw 35 rfl) (tw hw 34 rfl) (tw hw 8 rfl) (tw hw 36 rfl) (by decide) E (rmLe0_4 l Z a0 hw hel sa b kb cst fv c0 c1 c2 c3 h0 n0 Z0 E F1 F2 B hq0 hq1 hq2 hq3 hp0 hp1 hp2 hp3 X0 SC hcs AD HB LB PF hfv) (fun _ hx => nomatch hx) (by rw [hml]; rfl) pd_12 rfl rfl (hb hby d4_4) rfl (by decide) (ble rfl) (ce' := 0) (sl' := 0) rfl rfl (by decide) (by decide) (fun v1106 h1107 hQ1108 => ?_)
  obtain ⟨rfl, rfl⟩ := hQ1108
  show Go _ _ _ _ _ _ _ _ _ _ _ _ _ _ _ _ _ _ _ _ 0 0 7 #[.val (.ref sa), .val (.int (0 : Int32))] [(.int (4 : Int32)), (.int (0 : Int32))]
  refine Go.icmp_ge (q := 10) (t := 29) hx (hb hby d4_7) (by decide) rfl rfl (fun hc7 => absurd hc7 (by decide)) (fun hc7 => ?_)
  refine Go.aloadN (q := 11) hx (hb hby d4_10) rfl (by rfl) rfl ?_
  refine Go.iloadN (q := 12) hx (hb hby d4_11) rfl rfl ?_
  refine Go.callV (q := 15) hx hZ (a := sa) (argsL := [(.int (0 : Int32))]) (rest := []) hown (tw hw 53 rfl) (tw hw 54 rfl) (fun vm hzv => notFace_of_selects (args := #[]) (mvT hzv (tw hw 56 rfl))) (tw hw 56 rfl) (tw hw 55 rfl) (tw hw 8 rfl) (tw hw 57 rfl) (by decide) E (rmCh0_4_0 l Z a0 hw hel sa b kb cst fv c0 c1 c2 c3 h0 n0 Z0 E F1 F2 B hq0 hq1 hq2 hq3 hp0 hp1 hp2 hp3 X0 SC hcs AD HB LB PF hfv) (fun _ hx => nomatch hx) (by rw [hml]; rfl) pd_13 rfl rfl (hb hby d4_12) rfl (by decide) (ble rfl) (ce' := 0) (sl' := 0) rfl rfl (by decide) (by decide) (fun v1109 h1110 hQ1111 => ?_)
  obtain ⟨rfl, rfl⟩ := hQ1111
  show Go _ _ _ _ _ _ _ _ _ _ _ _ _ _ _ _ _ _ _ _ 0 0 15 #[.val (.ref sa), .val (.int (0 : Int32))] [(.int c0)]
  refine Go.sipush (q := 18) (z := (128 : Int32)) hx (hb hby d4_15) rfl rfl ?_
  refine Go.icmp_lt (q := 21) (t := 23) hx (hb hby d4_18) (by decide) rfl rfl (fun hc18 => ?_) (fun hc18 => ?_)
  · skip
    refine Go.iinc (q := 26) (l' := #[.val (.ref sa), .val (.int ((0 : Int32) + (1 : Int32)))]) hx (hb hby d4_23) rfl rfl rfl ?_
    refine Go.goto (q := 2) hx (hb hby d4_26) (by decide) rfl ?_
    rw [show (0 : Int32) + (1 : Int32) = (1 : Int32) from by decide]
    refine Go.iloadN (q := 3) hx (hb hby d4_2) rfl rfl ?_
    refine Go.aloadN (q := 4) hx (hb hby d4_3) rfl (by rfl) rfl ?_
    refine Go.callV (q := 7) hx hZ (a := sa) (argsL := []) (rest := [(.int (1 : Int32))]) hown (tw hw 32 rfl) (tw hw 33 rfl) (fun vm hzv => notFace_of_selects (args := #[]) (mvT hzv (tw hw 35 rfl))) (tw hw 35 rfl) (tw hw 34 rfl) (tw hw 8 rfl) (tw hw 36 rfl) (by decide) E (rmLe0_4 l Z a0 hw hel sa b kb cst fv c0 c1 c2 c3 h0 n0 Z0 E F1 F2 B hq0 hq1 hq2 hq3 hp0 hp1 hp2 hp3 X0 SC hcs AD HB LB PF hfv) (fun _ hx => nomatch hx) (by rw [hml]; rfl) pd_12 rfl rfl (hb hby d4_4) rfl (by decide) (ble rfl) (ce' := 0) (sl' := 0) rfl rfl (by decide) (by decide) (fun v1112 h1113 hQ1114 => ?_)
    obtain ⟨rfl, rfl⟩ := hQ1114
    show Go _ _ _ _ _ _ _ _ _ _ _ _ _ _ _ _ _ _ _ _ 0 0 7 #[.val (.ref sa), .val (.int (1 : Int32))] [(.int (4 : Int32)), (.int (1 : Int32))]
    refine Go.icmp_ge (q := 10) (t := 29) hx (hb hby d4_7) (by decide) rfl rfl (fun hc7_1 => absurd hc7_1 (by decide)) (fun hc7_1 => ?_)
    refine Go.aloadN (q := 11) hx (hb hby d4_10) rfl (by rfl) rfl ?_
    refine Go.iloadN (q := 12) hx (hb hby d4_11) rfl rfl ?_
    refine Go.callV (q := 15) hx hZ (a := sa) (argsL := [(.int (1 : Int32))]) (rest := []) hown (tw hw 53 rfl) (tw hw 54 rfl) (fun vm hzv => notFace_of_selects (args := #[]) (mvT hzv (tw hw 56 rfl))) (tw hw 56 rfl) (tw hw 55 rfl) (tw hw 8 rfl) (tw hw 57 rfl) (by decide) E (rmCh0_4_1 l Z a0 hw hel sa b kb cst fv c0 c1 c2 c3 h0 n0 Z0 E F1 F2 B hq0 hq1 hq2 hq3 hp0 hp1 hp2 hp3 X0 SC hcs AD HB LB PF hfv) (fun _ hx => nomatch hx) (by rw [hml]; rfl) pd_13 rfl rfl (hb hby d4_12) rfl (by decide) (ble rfl) (ce' := 0) (sl' := 0) rfl rfl (by decide) (by decide) (fun v1115 h1116 hQ1117 => ?_)
    obtain ⟨rfl, rfl⟩ := hQ1117
    show Go _ _ _ _ _ _ _ _ _ _ _ _ _ _ _ _ _ _ _ _ 0 0 15 #[.val (.ref sa), .val (.int (1 : Int32))] [(.int c1)]
    refine Go.sipush (q := 18) (z := (128 : Int32)) hx (hb hby d4_15) rfl rfl ?_
    refine Go.icmp_lt (q := 21) (t := 23) hx (hb hby d4_18) (by decide) rfl rfl (fun hc18_1 => ?_) (fun hc18_1 => ?_)
    · skip
      refine Go.iinc (q := 26) (l' := #[.val (.ref sa), .val (.int ((1 : Int32) + (1 : Int32)))]) hx (hb hby d4_23) rfl rfl rfl ?_
      refine Go.goto (q := 2) hx (hb hby d4_26) (by decide) rfl ?_
      rw [show (1 : Int32) + (1 : Int32) = (2 : Int32) from by decide]
      refine Go.iloadN (q := 3) hx (hb hby d4_2) rfl rfl ?_
      refine Go.aloadN (q := 4) hx (hb hby d4_3) rfl (by rfl) rfl ?_
      refine Go.callV (q := 7) hx hZ (a := sa) (argsL := []) (rest := [(.int (2 : Int32))]) hown (tw hw 32 rfl) (tw hw 33 rfl) (fun vm hzv => notFace_of_selects (args := #[]) (mvT hzv (tw hw 35 rfl))) (tw hw 35 rfl) (tw hw 34 rfl) (tw hw 8 rfl) (tw hw 36 rfl) (by decide) E (rmLe0_4 l Z a0 hw hel sa b kb cst fv c0 c1 c2 c3 h0 n0 Z0 E F1 F2 B hq0 hq1 hq2 hq3 hp0 hp1 hp2 hp3 X0 SC hcs AD HB LB PF hfv) (fun _ hx => nomatch hx) (by rw [hml]; rfl) pd_12 rfl rfl (hb hby d4_4) rfl (by decide) (ble rfl) (ce' := 0) (sl' := 0) rfl rfl (by decide) (by decide) (fun v1118 h1119 hQ1120 => ?_)
      obtain ⟨rfl, rfl⟩ := hQ1120
      show Go _ _ _ _ _ _ _ _ _ _ _ _ _ _ _ _ _ _ _ _ 0 0 7 #[.val (.ref sa), .val (.int (2 : Int32))] [(.int (4 : Int32)), (.int (2 : Int32))]
      refine Go.icmp_ge (q := 10) (t := 29) hx (hb hby d4_7) (by decide) rfl rfl (fun hc7_2 => absurd hc7_2 (by decide)) (fun hc7_2 => ?_)
      refine Go.aloadN (q := 11) hx (hb hby d4_10) rfl (by rfl) rfl ?_
      refine Go.iloadN (q := 12) hx (hb hby d4_11) rfl rfl ?_
      refine Go.callV (q := 15) hx hZ (a := sa) (argsL := [(.int (2 : Int32))]) (rest := []) hown (tw hw 53 rfl) (tw hw 54 rfl) (fun vm hzv => notFace_of_selects (args := #[]) (mvT hzv (tw hw 56 rfl))) (tw hw 56 rfl) (tw hw 55 rfl) (tw hw 8 rfl) (tw hw 57 rfl) (by decide) E (rmCh0_4_2 l Z a0 hw hel sa b kb cst fv c0 c1 c2 c3 h0 n0 Z0 E F1 F2 B hq0 hq1 hq2 hq3 hp0 hp1 hp2 hp3 X0 SC hcs AD HB LB PF hfv) (fun _ hx => nomatch hx) (by rw [hml]; rfl) pd_13 rfl rfl (hb hby d4_12) rfl (by decide) (ble rfl) (ce' := 0) (sl' := 0) rfl rfl (by decide) (by decide) (fun v1121 h1122 hQ1123 => ?_)
      obtain ⟨rfl, rfl⟩ := hQ1123
      show Go _ _ _ _ _ _ _ _ _ _ _ _ _ _ _ _ _ _ _ _ 0 0 15 #[.val (.ref sa), .val (.int (2 : Int32))] [(.int c2)]
      refine Go.sipush (q := 18) (z := (128 : Int32)) hx (hb hby d4_15) rfl rfl ?_
      refine Go.icmp_lt (q := 21) (t := 23) hx (hb hby d4_18) (by decide) rfl rfl (fun hc18_2 => ?_) (fun hc18_2 => ?_)
      · skip
        refine Go.iinc (q := 26) (l' := #[.val (.ref sa), .val (.int ((2 : Int32) + (1 : Int32)))]) hx (hb hby d4_23) rfl rfl rfl ?_
        refine Go.goto (q := 2) hx (hb hby d4_26) (by decide) rfl ?_
        rw [show (2 : Int32) + (1 : Int32) = (3 : Int32) from by decide]
        refine Go.iloadN (q := 3) hx (hb hby d4_2) rfl rfl ?_
        refine Go.aloadN (q := 4) hx (hb hby d4_3) rfl (by rfl) rfl ?_
        refine Go.callV (q := 7) hx hZ (a := sa) (argsL := []) (rest := [(.int (3 : Int32))]) hown (tw hw 32 rfl) (tw hw 33 rfl) (fun vm hzv => notFace_of_selects (args := #[]) (mvT hzv (tw hw 35 rfl))) (tw hw 35 rfl) (tw hw 34 rfl) (tw hw 8 rfl) (tw hw 36 rfl) (by decide) E (rmLe0_4 l Z a0 hw hel sa b kb cst fv c0 c1 c2 c3 h0 n0 Z0 E F1 F2 B hq0 hq1 hq2 hq3 hp0 hp1 hp2 hp3 X0 SC hcs AD HB LB PF hfv) (fun _ hx => nomatch hx) (by rw [hml]; rfl) pd_12 rfl rfl (hb hby d4_4) rfl (by decide) (ble rfl) (ce' := 0) (sl' := 0) rfl rfl (by decide) (by decide) (fun v1124 h1125 hQ1126 => ?_)
        obtain ⟨rfl, rfl⟩ := hQ1126
        show Go _ _ _ _ _ _ _ _ _ _ _ _ _ _ _ _ _ _ _ _ 0 0 7 #[.val (.ref sa), .val (.int (3 : Int32))] [(.int (4 : Int32)), (.int (3 : Int32))]
        refine Go.icmp_ge (q := 10) (t := 29) hx (hb hby d4_7) (by decide) rfl rfl (fun hc7_3 => absurd hc7_3 (by decide)) (fun hc7_3 => ?_)
        refine Go.aloadN (q := 11) hx (hb hby d4_10) rfl (by rfl) rfl ?_
        refine Go.iloadN (q := 12) hx (hb hby d4_11) rfl rfl ?_
        refine Go.callV (q := 15) hx hZ (a := sa) (argsL := [(.int (3 : Int32))]) (rest := []) hown (tw hw 53 rfl) (tw hw 54 rfl) (fun vm hzv => notFace_of_selects (args := #[]) (mvT hzv (tw hw 56 rfl))) (tw hw 56 rfl) (tw hw 55 rfl) (tw hw 8 rfl) (tw hw 57 rfl) (by decide) E (rmCh0_4_3 l Z a0 hw hel sa b kb cst fv c0 c1 c2 c3 h0 n0 Z0 E F1 F2 B hq0 hq1 hq2 hq3 hp0 hp1 hp2 hp3 X0 SC hcs AD HB LB PF hfv) (fun _ hx => nomatch hx) (by rw [hml]; rfl) pd_13 rfl rfl (hb hby d4_12) rfl (by decide) (ble rfl) (ce' := 0) (sl' := 0) rfl rfl (by decide) (by decide) (fun v1127 h1128 hQ1129 => ?_)
        obtain ⟨rfl, rfl⟩ := hQ1129
        show Go _ _ _ _ _ _ _ _ _ _ _ _ _ _ _ _ _ _ _ _ 0 0 15 #[.val (.ref sa), .val (.int (3 : Int32))] [(.int c3)]
        refine Go.sipush (q := 18) (z := (128 : Int32)) hx (hb hby d4_15) rfl rfl ?_
        refine Go.icmp_lt (q := 21) (t := 23) hx (hb hby d4_18) (by decide) rfl rfl (fun hc18_3 => ?_) (fun hc18_3 => ?_)
        · skip
          refine Go.iinc (q := 26) (l' := #[.val (.ref sa), .val (.int ((3 : Int32) + (1 : Int32)))]) hx (hb hby d4_23) rfl rfl rfl ?_
          refine Go.goto (q := 2) hx (hb hby d4_26) (by decide) rfl ?_
          rw [show (3 : Int32) + (1 : Int32) = (4 : Int32) from by decide]
          refine Go.iloadN (q := 3) hx (hb hby d4_2) rfl rfl ?_
          refine Go.aloadN (q := 4) hx (hb hby d4_3) rfl (by rfl) rfl ?_
          refine Go.callV (q := 7) hx hZ (a := sa) (argsL := []) (rest := [(.int (4 : Int32))]) hown (tw hw 32 rfl) (tw hw 33 rfl) (fun vm hzv => notFace_of_selects (args := #[]) (mvT hzv (tw hw 35 rfl))) (tw hw 35 rfl) (tw hw 34 rfl) (tw hw 8 rfl) (tw hw 36 rfl) (by decide) E (rmLe0_4 l Z a0 hw hel sa b kb cst fv c0 c1 c2 c3 h0 n0 Z0 E F1 F2 B hq0 hq1 hq2 hq3 hp0 hp1 hp2 hp3 X0 SC hcs AD HB LB PF hfv) (fun _ hx => nomatch hx) (by rw [hml]; rfl) pd_12 rfl rfl (hb hby d4_4) rfl (by decide) (ble rfl) (ce' := 0) (sl' := 0) rfl rfl (by decide) (by decide) (fun v1130 h1131 hQ1132 => ?_)
          obtain ⟨rfl, rfl⟩ := hQ1132
          show Go _ _ _ _ _ _ _ _ _ _ _ _ _ _ _ _ _ _ _ _ 0 0 7 #[.val (.ref sa), .val (.int (4 : Int32))] [(.int (4 : Int32)), (.int (4 : Int32))]
          refine Go.icmp_ge (q := 10) (t := 29) hx (hb hby d4_7) (by decide) rfl rfl (fun hc7_4 => ?_) (fun hc7_4 => absurd hc7_4 (by decide))
          refine Go.iconst (q := 30) (z := (1 : Int32)) hx (hb hby d4_29) rfl rfl ?_
          refine Go.retN hx (t := .boolean) hret (by simp) hlk (hb hby d4_30) (by decide) (by decide) ?_
          exact ⟨congrArg (fun z => some (Value.int z)) ((if_pos ⟨hc18, hc18_1, hc18_2, hc18_3⟩).symm : (1 : Int32) = _), rfl⟩
        · skip
          refine Go.iconst (q := 22) (z := (0 : Int32)) hx (hb hby d4_21) rfl rfl ?_
          refine Go.retN hx (t := .boolean) hret (by simp) hlk (hb hby d4_22) (by decide) (by decide) ?_
          exact ⟨congrArg (fun z => some (Value.int z)) ((if_neg (fun q => absurd q.2.2.2 hc18_3)).symm : (0 : Int32) = _), rfl⟩
      · skip
        refine Go.iconst (q := 22) (z := (0 : Int32)) hx (hb hby d4_21) rfl rfl ?_
        refine Go.retN hx (t := .boolean) hret (by simp) hlk (hb hby d4_22) (by decide) (by decide) ?_
        exact ⟨congrArg (fun z => some (Value.int z)) ((if_neg (fun q => absurd q.2.2.1 hc18_2)).symm : (0 : Int32) = _), rfl⟩
    · skip
      refine Go.iconst (q := 22) (z := (0 : Int32)) hx (hb hby d4_21) rfl rfl ?_
      refine Go.retN hx (t := .boolean) hret (by simp) hlk (hb hby d4_22) (by decide) (by decide) ?_
      exact ⟨congrArg (fun z => some (Value.int z)) ((if_neg (fun q => absurd q.2.1 hc18_1)).symm : (0 : Int32) = _), rfl⟩
  · skip
    refine Go.iconst (q := 22) (z := (0 : Int32)) hx (hb hby d4_21) rfl rfl ?_
    refine Go.retN hx (t := .boolean) hret (by simp) hlk (hb hby d4_22) (by decide) (by decide) ?_
    exact ⟨congrArg (fun z => some (Value.int z)) ((if_neg (fun q => absurd q.1 hc18)).symm : (0 : Int32) = _), rfl⟩
theorem rmLe1_4 (l : Launch) (Z : State) (a0 : Array Value) (hw : ∀ d ∈ tables_1, d.before a0 Z = true) (hel : EW Z a0 consts_1) (sa b : Addr) (kb : ClassId) (cst : Int32) (fv : Value) (c0 c1 c2 c3 : Int32) (h0 : Heap) (n0 : Nat) (Z0 : n0 ≤ h0.size) (E : Exa Z h0 sa "java/lang/String") (F1 : Fld Z h0 sa "java/lang/String" "value" "[B" (.ref b)) (F2 : Fld Z h0 sa "java/lang/String" "coder" "B" (.int (1 : Int32))) (B : Arv Z h0 b kb .byte (8 : Int32) [(.int (nar .byte (c0 >>> ((0 : Int32) &&& 31)).toInt8.toInt32)), (.int (nar .byte (c0 >>> ((8 : Int32) &&& 31)).toInt8.toInt32)), (.int (nar .byte (c1 >>> ((0 : Int32) &&& 31)).toInt8.toInt32)), (.int (nar .byte (c1 >>> ((8 : Int32) &&& 31)).toInt8.toInt32)), (.int (nar .byte (c2 >>> ((0 : Int32) &&& 31)).toInt8.toInt32)), (.int (nar .byte (c2 >>> ((8 : Int32) &&& 31)).toInt8.toInt32)), (.int (nar .byte (c3 >>> ((0 : Int32) &&& 31)).toInt8.toInt32)), (.int (nar .byte (c3 >>> ((8 : Int32) &&& 31)).toInt8.toInt32))] (.int (0 : Int32))) (hq0 : Chr c0) (hq1 : Chr c1) (hq2 : Chr c2) (hq3 : Chr c3) (X0 : Old Z n0 h0) (SC : Sta Z Z.heap "java/lang/String" "COMPACT_STRINGS" "Z" (.int cst)) (hcs : ¬ cst = (0 : Int32)) (AD : Sta Z Z.heap "java/lang/StringUTF16" "$assertionsDisabled" "Z" (.int (1 : Int32))) (HB : Sta Z Z.heap "java/lang/StringUTF16" "HI_BYTE_SHIFT" "I" (.int (0 : Int32))) (LB : Sta Z Z.heap "java/lang/StringUTF16" "LO_BYTE_SHIFT" "I" (.int (8 : Int32))) (PF : Sta Z Z.heap "jdk/internal/util/Preconditions" "SIOOBE_FORMATTER" "Ljava/util/function/BiFunction;" fv) (hfv : fv.isRef = true) :
    Met l Z consts_1 [] (⟨"java/lang/String", "length", "()I"⟩ : MethodName) jdk_42_method_54_code 1 (Option.some FieldType.int) [] ({ frames := 1, cells := 0, slots := 0, locals := 18 } : Room) #[(.ref sa)] h0 n0 (fun v h => v = some (.int (4 : Int32)) ∧ h0 = h) := by
  refine Met.of (Ls0 := #[.val (.ref sa)]) pl_14 (by first | (simp [argsToLocals, Value.category]; done) | rfl) hel ?_
  intro p e s m below meth c hx hby hml hret hlk hown hnm hZ
  refine Go.aloadN (q := 1) hx (hb hby d5_0) rfl (by rfl) rfl ?_
  refine Go.getF (q := 4) hx hZ hown (host := "") (Or.inl (tw hw 26 rfl)) Via.refl F1 (hb hby d5_1) rfl ?_
  refine Go.alen (q := 5) hx hZ B (hb hby d5_4) rfl ?_
  refine Go.aloadN (q := 6) hx (hb hby d5_5) rfl (by rfl) rfl ?_
  refine Go.callV (q := 9) hx hZ (a := sa) (argsL := []) (rest := [(.int (8 : Int32))]) hown (tw hw 37 rfl) (tw hw 38 rfl) (fun vm hzv => notFace_of_selects (args := #[]) (mvT hzv (tw hw 40 rfl))) (tw hw 40 rfl) (tw hw 39 rfl) (tw hw 8 rfl) (tw hw 41 rfl) (by decide) E (rmCo1 l Z a0 hw hel sa cst h0 n0 Z0 F2 X0 SC hcs) (fun _ hx => nomatch hx) (by rw [hml]; rfl) pd_11 rfl rfl (hb hby d5_6) rfl (by decide) (ble rfl) (ce' := 0) (sl' := 0) rfl rfl (by decide) (by decide) (fun v1133 h1134 hQ1135 => ?_)
  obtain ⟨rfl, rfl⟩ := hQ1135
  show Go _ _ _ _ _ _ _ _ _ _ _ _ _ _ _ _ _ _ _ _ 0 0 9 #[.val (.ref sa)] [(.int (1 : Int32)), (.int (8 : Int32))]
  refine Go.ishr (q := 10) hx (hb hby d5_9) rfl ?_
  rw [show (8 : Int32) >>> ((1 : Int32) &&& 31) = (4 : Int32) from by decide]
  refine Go.retI hx hret hlk (hb hby d5_10) (by decide) (by decide) ?_
  exact ⟨rfl, rfl⟩
theorem rmUI4_0 (l : Launch) (Z : State) (a0 : Array Value) (hw : ∀ d ∈ tables_1, d.before a0 Z = true) (hel : EW Z a0 consts_1) (b : Addr) (kb : ClassId) (fv : Value) (c0 c1 c2 c3 : Int32) (h0 : Heap) (n0 : Nat) (Z0 : n0 ≤ h0.size) (B : Arv Z h0 b kb .byte (8 : Int32) [(.int (nar .byte (c0 >>> ((0 : Int32) &&& 31)).toInt8.toInt32)), (.int (nar .byte (c0 >>> ((8 : Int32) &&& 31)).toInt8.toInt32)), (.int (nar .byte (c1 >>> ((0 : Int32) &&& 31)).toInt8.toInt32)), (.int (nar .byte (c1 >>> ((8 : Int32) &&& 31)).toInt8.toInt32)), (.int (nar .byte (c2 >>> ((0 : Int32) &&& 31)).toInt8.toInt32)), (.int (nar .byte (c2 >>> ((8 : Int32) &&& 31)).toInt8.toInt32)), (.int (nar .byte (c3 >>> ((0 : Int32) &&& 31)).toInt8.toInt32)), (.int (nar .byte (c3 >>> ((8 : Int32) &&& 31)).toInt8.toInt32))] (.int (0 : Int32))) (hq0 : Chr c0) (X0 : Old Z n0 h0) (AD : Sta Z Z.heap "java/lang/StringUTF16" "$assertionsDisabled" "Z" (.int (1 : Int32))) (HB : Sta Z Z.heap "java/lang/StringUTF16" "HI_BYTE_SHIFT" "I" (.int (0 : Int32))) (LB : Sta Z Z.heap "java/lang/StringUTF16" "LO_BYTE_SHIFT" "I" (.int (8 : Int32))) (PF : Sta Z Z.heap "jdk/internal/util/Preconditions" "SIOOBE_FORMATTER" "Ljava/util/function/BiFunction;" fv) (hfv : fv.isRef = true) :
    Met l Z consts_1 [] (⟨"java/lang/StringUTF16", "checkIndex", "(I[B)V"⟩ : MethodName) jdk_52_method_91_code 2 (Option.none : Option FieldType) [] ({ frames := 2, cells := 0, slots := 0, locals := 39 } : Room) #[(.int (0 : Int32)), (.ref b)] h0 n0 (fun v h => v = none ∧ h0 = h) := by
  refine Met.of (Ls0 := #[.val (.int (0 : Int32)), .val (.ref b)]) pl_19 (by first | (simp [argsToLocals, Value.category]; done) | rfl) hel ?_
  intro p e s m below meth c hx hby hml hret hlk hown hnm hZ
  refine Go.iloadN (q := 1) hx (hb hby d21_0) rfl rfl ?_
  refine Go.aloadN (q := 2) hx (hb hby d21_1) rfl (by rfl) rfl ?_
  refine Go.callS (q := 5) hx hZ (argsL := [(.ref b)]) (rest := [(.int (0 : Int32))]) hown (tw hw 100 rfl) (tw hw 101 rfl) (tw hw 45 rfl) (tw hw 102 rfl) (by decide) (rmUL4 l Z a0 hw hel b kb _ h0 n0 Z0 B) (fun _ hx => nomatch hx) (by rw [hml]; rfl) pd_7 rfl rfl (hb hby d21_2) rfl (by decide) (ble rfl) (ce' := 0) (sl' := 0) rfl rfl (by decide) (by decide) (fun v1136 h1137 hQ1138 => ?_)
  obtain ⟨rfl, rfl⟩ := hQ1138
  show Go _ _ _ _ _ _ _ _ _ _ _ _ _ _ _ _ _ _ _ _ 0 0 5 #[.val (.int (0 : Int32)), .val (.ref b)] [(.int (4 : Int32)), (.int (0 : Int32))]
  refine Go.callS (q := 8) hx hZ (argsL := [(.int (0 : Int32)), (.int (4 : Int32))]) (rest := []) hown (tw hw 103 rfl) (tw hw 68 rfl) (tw hw 8 rfl) (tw hw 69 rfl) (by decide) (rmX l Z a0 hw hel (0 : Int32) (4 : Int32) fv h0 n0 Z0 (by decide) (by decide) X0 PF hfv) (fun _ hx => nomatch hx) (by rw [hml]; rfl) pd_14 rfl rfl (hb hby d21_5) rfl (by decide) (ble rfl) (ce' := 0) (sl' := 0) rfl rfl (by decide) (by decide) (fun v1139 h1140 hQ1141 => ?_)
  obtain ⟨rfl, rfl⟩ := hQ1141
  show Go _ _ _ _ _ _ _ _ _ _ _ _ _ _ _ _ _ _ _ _ 0 0 8 #[.val (.int (0 : Int32)), .val (.ref b)] []
  refine Go.ret0 hx hret hlk (hb hby d21_8) (by decide) (by decide) ?_
  exact ⟨rfl, rfl⟩
theorem rmUC4_0 (l : Launch) (Z : State) (a0 : Array Value) (hw : ∀ d ∈ tables_1, d.before a0 Z = true) (hel : EW Z a0 consts_1) (b : Addr) (kb : ClassId) (fv : Value) (c0 c1 c2 c3 : Int32) (h0 : Heap) (n0 : Nat) (Z0 : n0 ≤ h0.size) (B : Arv Z h0 b kb .byte (8 : Int32) [(.int (nar .byte (c0 >>> ((0 : Int32) &&& 31)).toInt8.toInt32)), (.int (nar .byte (c0 >>> ((8 : Int32) &&& 31)).toInt8.toInt32)), (.int (nar .byte (c1 >>> ((0 : Int32) &&& 31)).toInt8.toInt32)), (.int (nar .byte (c1 >>> ((8 : Int32) &&& 31)).toInt8.toInt32)), (.int (nar .byte (c2 >>> ((0 : Int32) &&& 31)).toInt8.toInt32)), (.int (nar .byte (c2 >>> ((8 : Int32) &&& 31)).toInt8.toInt32)), (.int (nar .byte (c3 >>> ((0 : Int32) &&& 31)).toInt8.toInt32)), (.int (nar .byte (c3 >>> ((8 : Int32) &&& 31)).toInt8.toInt32))] (.int (0 : Int32))) (hq0 : Chr c0) (X0 : Old Z n0 h0) (AD : Sta Z Z.heap "java/lang/StringUTF16" "$assertionsDisabled" "Z" (.int (1 : Int32))) (HB : Sta Z Z.heap "java/lang/StringUTF16" "HI_BYTE_SHIFT" "I" (.int (0 : Int32))) (LB : Sta Z Z.heap "java/lang/StringUTF16" "LO_BYTE_SHIFT" "I" (.int (8 : Int32))) (PF : Sta Z Z.heap "jdk/internal/util/Preconditions" "SIOOBE_FORMATTER" "Ljava/util/function/BiFunction;" fv) (hfv : fv.isRef = true) :
    Met l Z consts_1 [] (⟨"java/lang/StringUTF16", "charAt", "([BI)C"⟩ : MethodName) jdk_52_method_83_code 2 (Option.some FieldType.char) [] ({ frames := 3, cells := 0, slots := 0, locals := 58 } : Room) #[(.ref b), (.int (0 : Int32))] h0 n0 (fun v h => v = some (.int c0) ∧ h0 = h) := by
  refine Met.of (Ls0 := #[.val (.ref b), .val (.int (0 : Int32))]) pl_20 (by first | (simp [argsToLocals, Value.category]; done) | rfl) hel ?_
  intro p e s m below meth c hx hby hml hret hlk hown hnm hZ
  refine Go.iloadN (q := 1) hx (hb hby d20_0) rfl rfl ?_
  refine Go.aloadN (q := 2) hx (hb hby d20_1) rfl (by rfl) rfl ?_
  refine Go.callS (q := 5) hx hZ (argsL := [(.int (0 : Int32)), (.ref b)]) (rest := []) hown (tw hw 97 rfl) (tw hw 98 rfl) (tw hw 45 rfl) (tw hw 99 rfl) (by decide) (rmUI4_0 l Z a0 hw hel b kb fv c0 c1 c2 c3 h0 n0 Z0 B hq0 X0 AD HB LB PF hfv) (fun _ hx => nomatch hx) (by rw [hml]; rfl) pd_16 rfl rfl (hb hby d20_2) rfl (by decide) (ble rfl) (ce' := 0) (sl' := 0) rfl rfl (by decide) (by decide) (fun v1142 h1143 hQ1144 => ?_)
  obtain ⟨rfl, rfl⟩ := hQ1144
  show Go _ _ _ _ _ _ _ _ _ _ _ _ _ _ _ _ _ _ _ _ 0 0 5 #[.val (.ref b), .val (.int (0 : Int32))] []
  refine Go.aloadN (q := 6) hx (hb hby d20_5) rfl (by rfl) rfl ?_
  refine Go.iloadN (q := 7) hx (hb hby d20_6) rfl rfl ?_
  refine Go.callS (q := 10) hx hZ (argsL := [(.ref b), (.int (0 : Int32))]) (rest := []) hown (tw hw 91 rfl) (tw hw 92 rfl) (tw hw 45 rfl) (tw hw 93 rfl) (by decide) (rmG4_0 l Z a0 hw hel b kb c0 c1 c2 c3 h0 n0 Z0 B hq0 X0 AD HB LB) (fun _ hx => nomatch hx) (by rw [hml]; rfl) pd_5 rfl rfl (hb hby d20_7) rfl (by decide) (ble rfl) (ce' := 0) (sl' := 0) rfl rfl (by decide) (by decide) (fun v1145 h1146 hQ1147 => ?_)
  obtain ⟨rfl, rfl⟩ := hQ1147
  show Go _ _ _ _ _ _ _ _ _ _ _ _ _ _ _ _ _ _ _ _ 0 0 10 #[.val (.ref b), .val (.int (0 : Int32))] [(.int c0)]
  refine Go.retN hx (t := .char) hret (by simp) hlk (hb hby d20_10) (by decide) (by decide) ?_
  exact ⟨congrArg (fun z => some (Value.int z)) (nar_chr hq0), rfl⟩
theorem rmCh1_4_0 (l : Launch) (Z : State) (a0 : Array Value) (hw : ∀ d ∈ tables_1, d.before a0 Z = true) (hel : EW Z a0 consts_1) (sa b : Addr) (kb : ClassId) (cst : Int32) (fv : Value) (c0 c1 c2 c3 : Int32) (h0 : Heap) (n0 : Nat) (Z0 : n0 ≤ h0.size) (E : Exa Z h0 sa "java/lang/String") (F1 : Fld Z h0 sa "java/lang/String" "value" "[B" (.ref b)) (F2 : Fld Z h0 sa "java/lang/String" "coder" "B" (.int (1 : Int32))) (B : Arv Z h0 b kb .byte (8 : Int32) [(.int (nar .byte (c0 >>> ((0 : Int32) &&& 31)).toInt8.toInt32)), (.int (nar .byte (c0 >>> ((8 : Int32) &&& 31)).toInt8.toInt32)), (.int (nar .byte (c1 >>> ((0 : Int32) &&& 31)).toInt8.toInt32)), (.int (nar .byte (c1 >>> ((8 : Int32) &&& 31)).toInt8.toInt32)), (.int (nar .byte (c2 >>> ((0 : Int32) &&& 31)).toInt8.toInt32)), (.int (nar .byte (c2 >>> ((8 : Int32) &&& 31)).toInt8.toInt32)), (.int (nar .byte (c3 >>> ((0 : Int32) &&& 31)).toInt8.toInt32)), (.int (nar .byte (c3 >>> ((8 : Int32) &&& 31)).toInt8.toInt32))] (.int (0 : Int32))) (hq0 : Chr c0) (hq1 : Chr c1) (hq2 : Chr c2) (hq3 : Chr c3) (X0 : Old Z n0 h0) (SC : Sta Z Z.heap "java/lang/String" "COMPACT_STRINGS" "Z" (.int cst)) (hcs : ¬ cst = (0 : Int32)) (AD : Sta Z Z.heap "java/lang/StringUTF16" "$assertionsDisabled" "Z" (.int (1 : Int32))) (HB : Sta Z Z.heap "java/lang/StringUTF16" "HI_BYTE_SHIFT" "I" (.int (0 : Int32))) (LB : Sta Z Z.heap "java/lang/StringUTF16" "LO_BYTE_SHIFT" "I" (.int (8 : Int32))) (PF : Sta Z Z.heap "jdk/internal/util/Preconditions" "SIOOBE_FORMATTER" "Ljava/util/function/BiFunction;" fv) (hfv : fv.isRef = true) :
    Met l Z consts_1 [] (⟨"java/lang/String", "charAt", "(I)C"⟩ : MethodName) jdk_42_method_56_code 2 (Option.some FieldType.char) [] ({ frames := 4, cells := 0, slots := 0, locals := 77 } : Room) #[(.ref sa), (.int (0 : Int32))] h0 n0 (fun v h => v = some (.int c0) ∧ h0 = h) := by
  refine Met.of (Ls0 := #[.val (.ref sa), .val (.int (0 : Int32))]) pl_18 (by first | (simp [argsToLocals, Value.category]; done) | rfl) hel ?_
  intro p e s m below meth c hx hby hml hret hlk hown hnm hZ
  refine Go.aloadN (q := 1) hx (hb hby d10_0) rfl (by rfl) rfl ?_
  refine Go.callV (q := 4) hx hZ (a := sa) (argsL := []) (rest := []) hown (tw hw 58 rfl) (tw hw 59 rfl) (fun vm hzv => notFace_of_selects (args := #[]) (mvT hzv (tw hw 61 rfl))) (tw hw 61 rfl) (tw hw 60 rfl) (tw hw 8 rfl) (tw hw 62 rfl) (by decide) E (rmIs1 l Z a0 hw hel sa cst h0 n0 Z0 F2 X0 SC hcs) (fun _ hx => nomatch hx) (by rw [hml]; rfl) pd_15 rfl rfl (hb hby d10_1) rfl (by decide) (ble rfl) (ce' := 0) (sl' := 0) rfl rfl (by decide) (by decide) (fun v1148 h1149 hQ1150 => ?_)
  obtain ⟨rfl, rfl⟩ := hQ1150
  show Go _ _ _ _ _ _ _ _ _ _ _ _ _ _ _ _ _ _ _ _ 0 0 4 #[.val (.ref sa), .val (.int (0 : Int32))] [(.int (0 : Int32))]
  refine Go.if_eq (q := 7) (t := 16) hx (hb hby d10_4) (by decide) rfl rfl (fun hc4 => ?_) (fun hc4 => absurd hc4 (by decide))
  refine Go.aloadN (q := 17) hx (hb hby d10_16) rfl (by rfl) rfl ?_
  refine Go.getF (q := 20) hx hZ hown (host := "") (Or.inl (tw hw 26 rfl)) Via.refl F1 (hb hby d10_17) rfl ?_
  refine Go.iloadN (q := 21) hx (hb hby d10_20) rfl rfl ?_
  refine Go.callS (q := 24) hx hZ (argsL := [(.ref b), (.int (0 : Int32))]) (rest := []) hown (tw hw 94 rfl) (tw hw 95 rfl) (tw hw 45 rfl) (tw hw 96 rfl) (by decide) (rmUC4_0 l Z a0 hw hel b kb fv c0 c1 c2 c3 h0 n0 Z0 B hq0 X0 AD HB LB PF hfv) (fun _ hx => nomatch hx) (by rw [hml]; rfl) pd_5 rfl rfl (hb hby d10_21) rfl (by decide) (ble rfl) (ce' := 0) (sl' := 0) rfl rfl (by decide) (by decide) (fun v1151 h1152 hQ1153 => ?_)
  obtain ⟨rfl, rfl⟩ := hQ1153
  show Go _ _ _ _ _ _ _ _ _ _ _ _ _ _ _ _ _ _ _ _ 0 0 24 #[.val (.ref sa), .val (.int (0 : Int32))] [(.int c0)]
  refine Go.retN hx (t := .char) hret (by simp) hlk (hb hby d10_24) (by decide) (by decide) ?_
  exact ⟨congrArg (fun z => some (Value.int z)) (nar_chr hq0), rfl⟩
theorem rmUI4_1 (l : Launch) (Z : State) (a0 : Array Value) (hw : ∀ d ∈ tables_1, d.before a0 Z = true) (hel : EW Z a0 consts_1) (b : Addr) (kb : ClassId) (fv : Value) (c0 c1 c2 c3 : Int32) (h0 : Heap) (n0 : Nat) (Z0 : n0 ≤ h0.size) (B : Arv Z h0 b kb .byte (8 : Int32) [(.int (nar .byte (c0 >>> ((0 : Int32) &&& 31)).toInt8.toInt32)), (.int (nar .byte (c0 >>> ((8 : Int32) &&& 31)).toInt8.toInt32)), (.int (nar .byte (c1 >>> ((0 : Int32) &&& 31)).toInt8.toInt32)), (.int (nar .byte (c1 >>> ((8 : Int32) &&& 31)).toInt8.toInt32)), (.int (nar .byte (c2 >>> ((0 : Int32) &&& 31)).toInt8.toInt32)), (.int (nar .byte (c2 >>> ((8 : Int32) &&& 31)).toInt8.toInt32)), (.int (nar .byte (c3 >>> ((0 : Int32) &&& 31)).toInt8.toInt32)), (.int (nar .byte (c3 >>> ((8 : Int32) &&& 31)).toInt8.toInt32))] (.int (0 : Int32))) (hq1 : Chr c1) (X0 : Old Z n0 h0) (AD : Sta Z Z.heap "java/lang/StringUTF16" "$assertionsDisabled" "Z" (.int (1 : Int32))) (HB : Sta Z Z.heap "java/lang/StringUTF16" "HI_BYTE_SHIFT" "I" (.int (0 : Int32))) (LB : Sta Z Z.heap "java/lang/StringUTF16" "LO_BYTE_SHIFT" "I" (.int (8 : Int32))) (PF : Sta Z Z.heap "jdk/internal/util/Preconditions" "SIOOBE_FORMATTER" "Ljava/util/function/BiFunction;" fv) (hfv : fv.isRef = true) :
    Met l Z consts_1 [] (⟨"java/lang/StringUTF16", "checkIndex", "(I[B)V"⟩ : MethodName) jdk_52_method_91_code 2 (Option.none : Option FieldType) [] ({ frames := 2, cells := 0, slots := 0, locals := 39 } : Room) #[(.int (1 : Int32)), (.ref b)] h0 n0 (fun v h => v = none ∧ h0 = h) := by
  refine Met.of (Ls0 := #[.val (.int (1 : Int32)), .val (.ref b)]) pl_19 (by first | (simp [argsToLocals, Value.category]; done) | rfl) hel ?_
  intro p e s m below meth c hx hby hml hret hlk hown hnm hZ
  refine Go.iloadN (q := 1) hx (hb hby d21_0) rfl rfl ?_
  refine Go.aloadN (q := 2) hx (hb hby d21_1) rfl (by rfl) rfl ?_
  refine Go.callS (q := 5) hx hZ (argsL := [(.ref b)]) (rest := [(.int (1 : Int32))]) hown (tw hw 100 rfl) (tw hw 101 rfl) (tw hw 45 rfl) (tw hw 102 rfl) (by decide) (rmUL4 l Z a0 hw hel b kb _ h0 n0 Z0 B) (fun _ hx => nomatch hx) (by rw [hml]; rfl) pd_7 rfl rfl (hb hby d21_2) rfl (by decide) (ble rfl) (ce' := 0) (sl' := 0) rfl rfl (by decide) (by decide) (fun v1154 h1155 hQ1156 => ?_)
  obtain ⟨rfl, rfl⟩ := hQ1156
  show Go _ _ _ _ _ _ _ _ _ _ _ _ _ _ _ _ _ _ _ _ 0 0 5 #[.val (.int (1 : Int32)), .val (.ref b)] [(.int (4 : Int32)), (.int (1 : Int32))]
  refine Go.callS (q := 8) hx hZ (argsL := [(.int (1 : Int32)), (.int (4 : Int32))]) (rest := []) hown (tw hw 103 rfl) (tw hw 68 rfl) (tw hw 8 rfl) (tw hw 69 rfl) (by decide) (rmX l Z a0 hw hel (1 : Int32) (4 : Int32) fv h0 n0 Z0 (by decide) (by decide) X0 PF hfv) (fun _ hx => nomatch hx) (by rw [hml]; rfl) pd_14 rfl rfl (hb hby d21_5) rfl (by decide) (ble rfl) (ce' := 0) (sl' := 0) rfl rfl (by decide) (by decide) (fun v1157 h1158 hQ1159 => ?_)
  obtain ⟨rfl, rfl⟩ := hQ1159
  show Go _ _ _ _ _ _ _ _ _ _ _ _ _ _ _ _ _ _ _ _ 0 0 8 #[.val (.int (1 : Int32)), .val (.ref b)] []
  refine Go.ret0 hx hret hlk (hb hby d21_8) (by decide) (by decide) ?_
  exact ⟨rfl, rfl⟩
theorem rmUC4_1 (l : Launch) (Z : State) (a0 : Array Value) (hw : ∀ d ∈ tables_1, d.before a0 Z = true) (hel : EW Z a0 consts_1) (b : Addr) (kb : ClassId) (fv : Value) (c0 c1 c2 c3 : Int32) (h0 : Heap) (n0 : Nat) (Z0 : n0 ≤ h0.size) (B : Arv Z h0 b kb .byte (8 : Int32) [(.int (nar .byte (c0 >>> ((0 : Int32) &&& 31)).toInt8.toInt32)), (.int (nar .byte (c0 >>> ((8 : Int32) &&& 31)).toInt8.toInt32)), (.int (nar .byte (c1 >>> ((0 : Int32) &&& 31)).toInt8.toInt32)), (.int (nar .byte (c1 >>> ((8 : Int32) &&& 31)).toInt8.toInt32)), (.int (nar .byte (c2 >>> ((0 : Int32) &&& 31)).toInt8.toInt32)), (.int (nar .byte (c2 >>> ((8 : Int32) &&& 31)).toInt8.toInt32)), (.int (nar .byte (c3 >>> ((0 : Int32) &&& 31)).toInt8.toInt32)), (.int (nar .byte (c3 >>> ((8 : Int32) &&& 31)).toInt8.toInt32))] (.int (0 : Int32))) (hq1 : Chr c1) (X0 : Old Z n0 h0) (AD : Sta Z Z.heap "java/lang/StringUTF16" "$assertionsDisabled" "Z" (.int (1 : Int32))) (HB : Sta Z Z.heap "java/lang/StringUTF16" "HI_BYTE_SHIFT" "I" (.int (0 : Int32))) (LB : Sta Z Z.heap "java/lang/StringUTF16" "LO_BYTE_SHIFT" "I" (.int (8 : Int32))) (PF : Sta Z Z.heap "jdk/internal/util/Preconditions" "SIOOBE_FORMATTER" "Ljava/util/function/BiFunction;" fv) (hfv : fv.isRef = true) :
    Met l Z consts_1 [] (⟨"java/lang/StringUTF16", "charAt", "([BI)C"⟩ : MethodName) jdk_52_method_83_code 2 (Option.some FieldType.char) [] ({ frames := 3, cells := 0, slots := 0, locals := 58 } : Room) #[(.ref b), (.int (1 : Int32))] h0 n0 (fun v h => v = some (.int c1) ∧ h0 = h) := by
  refine Met.of (Ls0 := #[.val (.ref b), .val (.int (1 : Int32))]) pl_20 (by first | (simp [argsToLocals, Value.category]; done) | rfl) hel ?_
  intro p e s m below meth c hx hby hml hret hlk hown hnm hZ
  refine Go.iloadN (q := 1) hx (hb hby d20_0) rfl rfl ?_
  refine Go.aloadN (q := 2) hx (hb hby d20_1) rfl (by rfl) rfl ?_
  refine Go.callS (q := 5) hx hZ (argsL := [(.int (1 : Int32)), (.ref b)]) (rest := []) hown (tw hw 97 rfl) (tw hw 98 rfl) (tw hw 45 rfl) (tw hw 99 rfl) (by decide) (rmUI4_1 l Z a0 hw hel b kb fv c0 c1 c2 c3 h0 n0 Z0 B hq1 X0 AD HB LB PF hfv) (fun _ hx => nomatch hx) (by rw [hml]; rfl) pd_16 rfl rfl (hb hby d20_2) rfl (by decide) (ble rfl) (ce' := 0) (sl' := 0) rfl rfl (by decide) (by decide) (fun v1160 h1161 hQ1162 => ?_)
  obtain ⟨rfl, rfl⟩ := hQ1162
  show Go _ _ _ _ _ _ _ _ _ _ _ _ _ _ _ _ _ _ _ _ 0 0 5 #[.val (.ref b), .val (.int (1 : Int32))] []
  refine Go.aloadN (q := 6) hx (hb hby d20_5) rfl (by rfl) rfl ?_
  refine Go.iloadN (q := 7) hx (hb hby d20_6) rfl rfl ?_
  refine Go.callS (q := 10) hx hZ (argsL := [(.ref b), (.int (1 : Int32))]) (rest := []) hown (tw hw 91 rfl) (tw hw 92 rfl) (tw hw 45 rfl) (tw hw 93 rfl) (by decide) (rmG4_1 l Z a0 hw hel b kb c0 c1 c2 c3 h0 n0 Z0 B hq1 X0 AD HB LB) (fun _ hx => nomatch hx) (by rw [hml]; rfl) pd_5 rfl rfl (hb hby d20_7) rfl (by decide) (ble rfl) (ce' := 0) (sl' := 0) rfl rfl (by decide) (by decide) (fun v1163 h1164 hQ1165 => ?_)
  obtain ⟨rfl, rfl⟩ := hQ1165
  show Go _ _ _ _ _ _ _ _ _ _ _ _ _ _ _ _ _ _ _ _ 0 0 10 #[.val (.ref b), .val (.int (1 : Int32))] [(.int c1)]
  refine Go.retN hx (t := .char) hret (by simp) hlk (hb hby d20_10) (by decide) (by decide) ?_
  exact ⟨congrArg (fun z => some (Value.int z)) (nar_chr hq1), rfl⟩
theorem rmCh1_4_1 (l : Launch) (Z : State) (a0 : Array Value) (hw : ∀ d ∈ tables_1, d.before a0 Z = true) (hel : EW Z a0 consts_1) (sa b : Addr) (kb : ClassId) (cst : Int32) (fv : Value) (c0 c1 c2 c3 : Int32) (h0 : Heap) (n0 : Nat) (Z0 : n0 ≤ h0.size) (E : Exa Z h0 sa "java/lang/String") (F1 : Fld Z h0 sa "java/lang/String" "value" "[B" (.ref b)) (F2 : Fld Z h0 sa "java/lang/String" "coder" "B" (.int (1 : Int32))) (B : Arv Z h0 b kb .byte (8 : Int32) [(.int (nar .byte (c0 >>> ((0 : Int32) &&& 31)).toInt8.toInt32)), (.int (nar .byte (c0 >>> ((8 : Int32) &&& 31)).toInt8.toInt32)), (.int (nar .byte (c1 >>> ((0 : Int32) &&& 31)).toInt8.toInt32)), (.int (nar .byte (c1 >>> ((8 : Int32) &&& 31)).toInt8.toInt32)), (.int (nar .byte (c2 >>> ((0 : Int32) &&& 31)).toInt8.toInt32)), (.int (nar .byte (c2 >>> ((8 : Int32) &&& 31)).toInt8.toInt32)), (.int (nar .byte (c3 >>> ((0 : Int32) &&& 31)).toInt8.toInt32)), (.int (nar .byte (c3 >>> ((8 : Int32) &&& 31)).toInt8.toInt32))] (.int (0 : Int32))) (hq0 : Chr c0) (hq1 : Chr c1) (hq2 : Chr c2) (hq3 : Chr c3) (X0 : Old Z n0 h0) (SC : Sta Z Z.heap "java/lang/String" "COMPACT_STRINGS" "Z" (.int cst)) (hcs : ¬ cst = (0 : Int32)) (AD : Sta Z Z.heap "java/lang/StringUTF16" "$assertionsDisabled" "Z" (.int (1 : Int32))) (HB : Sta Z Z.heap "java/lang/StringUTF16" "HI_BYTE_SHIFT" "I" (.int (0 : Int32))) (LB : Sta Z Z.heap "java/lang/StringUTF16" "LO_BYTE_SHIFT" "I" (.int (8 : Int32))) (PF : Sta Z Z.heap "jdk/internal/util/Preconditions" "SIOOBE_FORMATTER" "Ljava/util/function/BiFunction;" fv) (hfv : fv.isRef = true) :
    Met l Z consts_1 [] (⟨"java/lang/String", "charAt", "(I)C"⟩ : MethodName) jdk_42_method_56_code 2 (Option.some FieldType.char) [] ({ frames := 4, cells := 0, slots := 0, locals := 77 } : Room) #[(.ref sa), (.int (1 : Int32))] h0 n0 (fun v h => v = some (.int c1) ∧ h0 = h) := by
  refine Met.of (Ls0 := #[.val (.ref sa), .val (.int (1 : Int32))]) pl_18 (by first | (simp [argsToLocals, Value.category]; done) | rfl) hel ?_
  intro p e s m below meth c hx hby hml hret hlk hown hnm hZ
  refine Go.aloadN (q := 1) hx (hb hby d10_0) rfl (by rfl) rfl ?_
  refine Go.callV (q := 4) hx hZ (a := sa) (argsL := []) (rest := []) hown (tw hw 58 rfl) (tw hw 59 rfl) (fun vm hzv => notFace_of_selects (args := #[]) (mvT hzv (tw hw 61 rfl))) (tw hw 61 rfl) (tw hw 60 rfl) (tw hw 8 rfl) (tw hw 62 rfl) (by decide) E (rmIs1 l Z a0 hw hel sa cst h0 n0 Z0 F2 X0 SC hcs) (fun _ hx => nomatch hx) (by rw [hml]; rfl) pd_15 rfl rfl (hb hby d10_1) rfl (by decide) (ble rfl) (ce' := 0) (sl' := 0) rfl rfl (by decide) (by decide) (fun v1166 h1167 hQ1168 => ?_)
  obtain ⟨rfl, rfl⟩ := hQ1168
  show Go _ _ _ _ _ _ _ _ _ _ _ _ _ _ _ _ _ _ _ _ 0 0 4 #[.val (.ref sa), .val (.int (1 : Int32))] [(.int (0 : Int32))]
  refine Go.if_eq (q := 7) (t := 16) hx (hb hby d10_4) (by decide) rfl rfl (fun hc4 => ?_) (fun hc4 => absurd hc4 (by decide))
  refine Go.aloadN (q := 17) hx (hb hby d10_16) rfl (by rfl) rfl ?_
  refine Go.getF (q := 20) hx hZ hown (host := "") (Or.inl (tw hw 26 rfl)) Via.refl F1 (hb hby d10_17) rfl ?_
  refine Go.iloadN (q := 21) hx (hb hby d10_20) rfl rfl ?_
  refine Go.callS (q := 24) hx hZ (argsL := [(.ref b), (.int (1 : Int32))]) (rest := []) hown (tw hw 94 rfl) (tw hw 95 rfl) (tw hw 45 rfl) (tw hw 96 rfl) (by decide) (rmUC4_1 l Z a0 hw hel b kb fv c0 c1 c2 c3 h0 n0 Z0 B hq1 X0 AD HB LB PF hfv) (fun _ hx => nomatch hx) (by rw [hml]; rfl) pd_5 rfl rfl (hb hby d10_21) rfl (by decide) (ble rfl) (ce' := 0) (sl' := 0) rfl rfl (by decide) (by decide) (fun v1169 h1170 hQ1171 => ?_)
  obtain ⟨rfl, rfl⟩ := hQ1171
  show Go _ _ _ _ _ _ _ _ _ _ _ _ _ _ _ _ _ _ _ _ 0 0 24 #[.val (.ref sa), .val (.int (1 : Int32))] [(.int c1)]
  refine Go.retN hx (t := .char) hret (by simp) hlk (hb hby d10_24) (by decide) (by decide) ?_
  exact ⟨congrArg (fun z => some (Value.int z)) (nar_chr hq1), rfl⟩
theorem rmUI4_2 (l : Launch) (Z : State) (a0 : Array Value) (hw : ∀ d ∈ tables_1, d.before a0 Z = true) (hel : EW Z a0 consts_1) (b : Addr) (kb : ClassId) (fv : Value) (c0 c1 c2 c3 : Int32) (h0 : Heap) (n0 : Nat) (Z0 : n0 ≤ h0.size) (B : Arv Z h0 b kb .byte (8 : Int32) [(.int (nar .byte (c0 >>> ((0 : Int32) &&& 31)).toInt8.toInt32)), (.int (nar .byte (c0 >>> ((8 : Int32) &&& 31)).toInt8.toInt32)), (.int (nar .byte (c1 >>> ((0 : Int32) &&& 31)).toInt8.toInt32)), (.int (nar .byte (c1 >>> ((8 : Int32) &&& 31)).toInt8.toInt32)), (.int (nar .byte (c2 >>> ((0 : Int32) &&& 31)).toInt8.toInt32)), (.int (nar .byte (c2 >>> ((8 : Int32) &&& 31)).toInt8.toInt32)), (.int (nar .byte (c3 >>> ((0 : Int32) &&& 31)).toInt8.toInt32)), (.int (nar .byte (c3 >>> ((8 : Int32) &&& 31)).toInt8.toInt32))] (.int (0 : Int32))) (hq2 : Chr c2) (X0 : Old Z n0 h0) (AD : Sta Z Z.heap "java/lang/StringUTF16" "$assertionsDisabled" "Z" (.int (1 : Int32))) (HB : Sta Z Z.heap "java/lang/StringUTF16" "HI_BYTE_SHIFT" "I" (.int (0 : Int32))) (LB : Sta Z Z.heap "java/lang/StringUTF16" "LO_BYTE_SHIFT" "I" (.int (8 : Int32))) (PF : Sta Z Z.heap "jdk/internal/util/Preconditions" "SIOOBE_FORMATTER" "Ljava/util/function/BiFunction;" fv) (hfv : fv.isRef = true) :
    Met l Z consts_1 [] (⟨"java/lang/StringUTF16", "checkIndex", "(I[B)V"⟩ : MethodName) jdk_52_method_91_code 2 (Option.none : Option FieldType) [] ({ frames := 2, cells := 0, slots := 0, locals := 39 } : Room) #[(.int (2 : Int32)), (.ref b)] h0 n0 (fun v h => v = none ∧ h0 = h) := by
  refine Met.of (Ls0 := #[.val (.int (2 : Int32)), .val (.ref b)]) pl_19 (by first | (simp [argsToLocals, Value.category]; done) | rfl) hel ?_
  intro p e s m below meth c hx hby hml hret hlk hown hnm hZ
  refine Go.iloadN (q := 1) hx (hb hby d21_0) rfl rfl ?_
  refine Go.aloadN (q := 2) hx (hb hby d21_1) rfl (by rfl) rfl ?_
  refine Go.callS (q := 5) hx hZ (argsL := [(.ref b)]) (rest := [(.int (2 : Int32))]) hown (tw hw 100 rfl) (tw hw 101 rfl) (tw hw 45 rfl) (tw hw 102 rfl) (by decide) (rmUL4 l Z a0 hw hel b kb _ h0 n0 Z0 B) (fun _ hx => nomatch hx) (by rw [hml]; rfl) pd_7 rfl rfl (hb hby d21_2) rfl (by decide) (ble rfl) (ce' := 0) (sl' := 0) rfl rfl (by decide) (by decide) (fun v1172 h1173 hQ1174 => ?_)
  obtain ⟨rfl, rfl⟩ := hQ1174
  show Go _ _ _ _ _ _ _ _ _ _ _ _ _ _ _ _ _ _ _ _ 0 0 5 #[.val (.int (2 : Int32)), .val (.ref b)] [(.int (4 : Int32)), (.int (2 : Int32))]
  refine Go.callS (q := 8) hx hZ (argsL := [(.int (2 : Int32)), (.int (4 : Int32))]) (rest := []) hown (tw hw 103 rfl) (tw hw 68 rfl) (tw hw 8 rfl) (tw hw 69 rfl) (by decide) (rmX l Z a0 hw hel (2 : Int32) (4 : Int32) fv h0 n0 Z0 (by decide) (by decide) X0 PF hfv) (fun _ hx => nomatch hx) (by rw [hml]; rfl) pd_14 rfl rfl (hb hby d21_5) rfl (by decide) (ble rfl) (ce' := 0) (sl' := 0) rfl rfl (by decide) (by decide) (fun v1175 h1176 hQ1177 => ?_)
  obtain ⟨rfl, rfl⟩ := hQ1177
  show Go _ _ _ _ _ _ _ _ _ _ _ _ _ _ _ _ _ _ _ _ 0 0 8 #[.val (.int (2 : Int32)), .val (.ref b)] []
  refine Go.ret0 hx hret hlk (hb hby d21_8) (by decide) (by decide) ?_
  exact ⟨rfl, rfl⟩
theorem rmUC4_2 (l : Launch) (Z : State) (a0 : Array Value) (hw : ∀ d ∈ tables_1, d.before a0 Z = true) (hel : EW Z a0 consts_1) (b : Addr) (kb : ClassId) (fv : Value) (c0 c1 c2 c3 : Int32) (h0 : Heap) (n0 : Nat) (Z0 : n0 ≤ h0.size) (B : Arv Z h0 b kb .byte (8 : Int32) [(.int (nar .byte (c0 >>> ((0 : Int32) &&& 31)).toInt8.toInt32)), (.int (nar .byte (c0 >>> ((8 : Int32) &&& 31)).toInt8.toInt32)), (.int (nar .byte (c1 >>> ((0 : Int32) &&& 31)).toInt8.toInt32)), (.int (nar .byte (c1 >>> ((8 : Int32) &&& 31)).toInt8.toInt32)), (.int (nar .byte (c2 >>> ((0 : Int32) &&& 31)).toInt8.toInt32)), (.int (nar .byte (c2 >>> ((8 : Int32) &&& 31)).toInt8.toInt32)), (.int (nar .byte (c3 >>> ((0 : Int32) &&& 31)).toInt8.toInt32)), (.int (nar .byte (c3 >>> ((8 : Int32) &&& 31)).toInt8.toInt32))] (.int (0 : Int32))) (hq2 : Chr c2) (X0 : Old Z n0 h0) (AD : Sta Z Z.heap "java/lang/StringUTF16" "$assertionsDisabled" "Z" (.int (1 : Int32))) (HB : Sta Z Z.heap "java/lang/StringUTF16" "HI_BYTE_SHIFT" "I" (.int (0 : Int32))) (LB : Sta Z Z.heap "java/lang/StringUTF16" "LO_BYTE_SHIFT" "I" (.int (8 : Int32))) (PF : Sta Z Z.heap "jdk/internal/util/Preconditions" "SIOOBE_FORMATTER" "Ljava/util/function/BiFunction;" fv) (hfv : fv.isRef = true) :
    Met l Z consts_1 [] (⟨"java/lang/StringUTF16", "charAt", "([BI)C"⟩ : MethodName) jdk_52_method_83_code 2 (Option.some FieldType.char) [] ({ frames := 3, cells := 0, slots := 0, locals := 58 } : Room) #[(.ref b), (.int (2 : Int32))] h0 n0 (fun v h => v = some (.int c2) ∧ h0 = h) := by
  refine Met.of (Ls0 := #[.val (.ref b), .val (.int (2 : Int32))]) pl_20 (by first | (simp [argsToLocals, Value.category]; done) | rfl) hel ?_
  intro p e s m below meth c hx hby hml hret hlk hown hnm hZ
  refine Go.iloadN (q := 1) hx (hb hby d20_0) rfl rfl ?_
  refine Go.aloadN (q := 2) hx (hb hby d20_1) rfl (by rfl) rfl ?_
  refine Go.callS (q := 5) hx hZ (argsL := [(.int (2 : Int32)), (.ref b)]) (rest := []) hown (tw hw 97 rfl) (tw hw 98 rfl) (tw hw 45 rfl) (tw hw 99 rfl) (by decide) (rmUI4_2 l Z a0 hw hel b kb fv c0 c1 c2 c3 h0 n0 Z0 B hq2 X0 AD HB LB PF hfv) (fun _ hx => nomatch hx) (by rw [hml]; rfl) pd_16 rfl rfl (hb hby d20_2) rfl (by decide) (ble rfl) (ce' := 0) (sl' := 0) rfl rfl (by decide) (by decide) (fun v1178 h1179 hQ1180 => ?_)
  obtain ⟨rfl, rfl⟩ := hQ1180
  show Go _ _ _ _ _ _ _ _ _ _ _ _ _ _ _ _ _ _ _ _ 0 0 5 #[.val (.ref b), .val (.int (2 : Int32))] []
  refine Go.aloadN (q := 6) hx (hb hby d20_5) rfl (by rfl) rfl ?_
  refine Go.iloadN (q := 7) hx (hb hby d20_6) rfl rfl ?_
  refine Go.callS (q := 10) hx hZ (argsL := [(.ref b), (.int (2 : Int32))]) (rest := []) hown (tw hw 91 rfl) (tw hw 92 rfl) (tw hw 45 rfl) (tw hw 93 rfl) (by decide) (rmG4_2 l Z a0 hw hel b kb c0 c1 c2 c3 h0 n0 Z0 B hq2 X0 AD HB LB) (fun _ hx => nomatch hx) (by rw [hml]; rfl) pd_5 rfl rfl (hb hby d20_7) rfl (by decide) (ble rfl) (ce' := 0) (sl' := 0) rfl rfl (by decide) (by decide) (fun v1181 h1182 hQ1183 => ?_)
  obtain ⟨rfl, rfl⟩ := hQ1183
  show Go _ _ _ _ _ _ _ _ _ _ _ _ _ _ _ _ _ _ _ _ 0 0 10 #[.val (.ref b), .val (.int (2 : Int32))] [(.int c2)]
  refine Go.retN hx (t := .char) hret (by simp) hlk (hb hby d20_10) (by decide) (by decide) ?_
  exact ⟨congrArg (fun z => some (Value.int z)) (nar_chr hq2), rfl⟩
theorem rmCh1_4_2 (l : Launch) (Z : State) (a0 : Array Value) (hw : ∀ d ∈ tables_1, d.before a0 Z = true) (hel : EW Z a0 consts_1) (sa b : Addr) (kb : ClassId) (cst : Int32) (fv : Value) (c0 c1 c2 c3 : Int32) (h0 : Heap) (n0 : Nat) (Z0 : n0 ≤ h0.size) (E : Exa Z h0 sa "java/lang/String") (F1 : Fld Z h0 sa "java/lang/String" "value" "[B" (.ref b)) (F2 : Fld Z h0 sa "java/lang/String" "coder" "B" (.int (1 : Int32))) (B : Arv Z h0 b kb .byte (8 : Int32) [(.int (nar .byte (c0 >>> ((0 : Int32) &&& 31)).toInt8.toInt32)), (.int (nar .byte (c0 >>> ((8 : Int32) &&& 31)).toInt8.toInt32)), (.int (nar .byte (c1 >>> ((0 : Int32) &&& 31)).toInt8.toInt32)), (.int (nar .byte (c1 >>> ((8 : Int32) &&& 31)).toInt8.toInt32)), (.int (nar .byte (c2 >>> ((0 : Int32) &&& 31)).toInt8.toInt32)), (.int (nar .byte (c2 >>> ((8 : Int32) &&& 31)).toInt8.toInt32)), (.int (nar .byte (c3 >>> ((0 : Int32) &&& 31)).toInt8.toInt32)), (.int (nar .byte (c3 >>> ((8 : Int32) &&& 31)).toInt8.toInt32))] (.int (0 : Int32))) (hq0 : Chr c0) (hq1 : Chr c1) (hq2 : Chr c2) (hq3 : Chr c3) (X0 : Old Z n0 h0) (SC : Sta Z Z.heap "java/lang/String" "COMPACT_STRINGS" "Z" (.int cst)) (hcs : ¬ cst = (0 : Int32)) (AD : Sta Z Z.heap "java/lang/StringUTF16" "$assertionsDisabled" "Z" (.int (1 : Int32))) (HB : Sta Z Z.heap "java/lang/StringUTF16" "HI_BYTE_SHIFT" "I" (.int (0 : Int32))) (LB : Sta Z Z.heap "java/lang/StringUTF16" "LO_BYTE_SHIFT" "I" (.int (8 : Int32))) (PF : Sta Z Z.heap "jdk/internal/util/Preconditions" "SIOOBE_FORMATTER" "Ljava/util/function/BiFunction;" fv) (hfv : fv.isRef = true) :
    Met l Z consts_1 [] (⟨"java/lang/String", "charAt", "(I)C"⟩ : MethodName) jdk_42_method_56_code 2 (Option.some FieldType.char) [] ({ frames := 4, cells := 0, slots := 0, locals := 77 } : Room) #[(.ref sa), (.int (2 : Int32))] h0 n0 (fun v h => v = some (.int c2) ∧ h0 = h) := by
  refine Met.of (Ls0 := #[.val (.ref sa), .val (.int (2 : Int32))]) pl_18 (by first | (simp [argsToLocals, Value.category]; done) | rfl) hel ?_
  intro p e s m below meth c hx hby hml hret hlk hown hnm hZ
  refine Go.aloadN (q := 1) hx (hb hby d10_0) rfl (by rfl) rfl ?_
  refine Go.callV (q := 4) hx hZ (a := sa) (argsL := []) (rest := []) hown (tw hw 58 rfl) (tw hw 59 rfl) (fun vm hzv => notFace_of_selects (args := #[]) (mvT hzv (tw hw 61 rfl))) (tw hw 61 rfl) (tw hw 60 rfl) (tw hw 8 rfl) (tw hw 62 rfl) (by decide) E (rmIs1 l Z a0 hw hel sa cst h0 n0 Z0 F2 X0 SC hcs) (fun _ hx => nomatch hx) (by rw [hml]; rfl) pd_15 rfl rfl (hb hby d10_1) rfl (by decide) (ble rfl) (ce' := 0) (sl' := 0) rfl rfl (by decide) (by decide) (fun v1184 h1185 hQ1186 => ?_)
  obtain ⟨rfl, rfl⟩ := hQ1186
  show Go _ _ _ _ _ _ _ _ _ _ _ _ _ _ _ _ _ _ _ _ 0 0 4 #[.val (.ref sa), .val (.int (2 : Int32))] [(.int (0 : Int32))]
  refine Go.if_eq (q := 7) (t := 16) hx (hb hby d10_4) (by decide) rfl rfl (fun hc4 => ?_) (fun hc4 => absurd hc4 (by decide))
  refine Go.aloadN (q := 17) hx (hb hby d10_16) rfl (by rfl) rfl ?_
  refine Go.getF (q := 20) hx hZ hown (host := "") (Or.inl (tw hw 26 rfl)) Via.refl F1 (hb hby d10_17) rfl ?_
  refine Go.iloadN (q := 21) hx (hb hby d10_20) rfl rfl ?_
  refine Go.callS (q := 24) hx hZ (argsL := [(.ref b), (.int (2 : Int32))]) (rest := []) hown (tw hw 94 rfl) (tw hw 95 rfl) (tw hw 45 rfl) (tw hw 96 rfl) (by decide) (rmUC4_2 l Z a0 hw hel b kb fv c0 c1 c2 c3 h0 n0 Z0 B hq2 X0 AD HB LB PF hfv) (fun _ hx => nomatch hx) (by rw [hml]; rfl) pd_5 rfl rfl (hb hby d10_21) rfl (by decide) (ble rfl) (ce' := 0) (sl' := 0) rfl rfl (by decide) (by decide) (fun v1187 h1188 hQ1189 => ?_)
  obtain ⟨rfl, rfl⟩ := hQ1189
  show Go _ _ _ _ _ _ _ _ _ _ _ _ _ _ _ _ _ _ _ _ 0 0 24 #[.val (.ref sa), .val (.int (2 : Int32))] [(.int c2)]
  refine Go.retN hx (t := .char) hret (by simp) hlk (hb hby d10_24) (by decide) (by decide) ?_
  exact ⟨congrArg (fun z => some (Value.int z)) (nar_chr hq2), rfl⟩
theorem rmUI4_3 (l : Launch) (Z : State) (a0 : Array Value) (hw : ∀ d ∈ tables_1, d.before a0 Z = true) (hel : EW Z a0 consts_1) (b : Addr) (kb : ClassId) (fv : Value) (c0 c1 c2 c3 : Int32) (h0 : Heap) (n0 : Nat) (Z0 : n0 ≤ h0.size) (B : Arv Z h0 b kb .byte (8 : Int32) [(.int (nar .byte (c0 >>> ((0 : Int32) &&& 31)).toInt8.toInt32)), (.int (nar .byte (c0 >>> ((8 : Int32) &&& 31)).toInt8.toInt32)), (.int (nar .byte (c1 >>> ((0 : Int32) &&& 31)).toInt8.toInt32)), (.int (nar .byte (c1 >>> ((8 : Int32) &&& 31)).toInt8.toInt32)), (.int (nar .byte (c2 >>> ((0 : Int32) &&& 31)).toInt8.toInt32)), (.int (nar .byte (c2 >>> ((8 : Int32) &&& 31)).toInt8.toInt32)), (.int (nar .byte (c3 >>> ((0 : Int32) &&& 31)).toInt8.toInt32)), (.int (nar .byte (c3 >>> ((8 : Int32) &&& 31)).toInt8.toInt32))] (.int (0 : Int32))) (hq3 : Chr c3) (X0 : Old Z n0 h0) (AD : Sta Z Z.heap "java/lang/StringUTF16" "$assertionsDisabled" "Z" (.int (1 : Int32))) (HB : Sta Z Z.heap "java/lang/StringUTF16" "HI_BYTE_SHIFT" "I" (.int (0 : Int32))) (LB : Sta Z Z.heap "java/lang/StringUTF16" "LO_BYTE_SHIFT" "I" (.int (8 : Int32))) (PF : Sta Z Z.heap "jdk/internal/util/Preconditions" "SIOOBE_FORMATTER" "Ljava/util/function/BiFunction;" fv) (hfv : fv.isRef = true) :
    Met l Z consts_1 [] (⟨"java/lang/StringUTF16", "checkIndex", "(I[B)V"⟩ : MethodName) jdk_52_method_91_code 2 (Option.none : Option FieldType) [] ({ frames := 2, cells := 0, slots := 0, locals := 39 } : Room) #[(.int (3 : Int32)), (.ref b)] h0 n0 (fun v h => v = none ∧ h0 = h) := by
  refine Met.of (Ls0 := #[.val (.int (3 : Int32)), .val (.ref b)]) pl_19 (by first | (simp [argsToLocals, Value.category]; done) | rfl) hel ?_
  intro p e s m below meth c hx hby hml hret hlk hown hnm hZ
  refine Go.iloadN (q := 1) hx (hb hby d21_0) rfl rfl ?_
  refine Go.aloadN (q := 2) hx (hb hby d21_1) rfl (by rfl) rfl ?_
  refine Go.callS (q := 5) hx hZ (argsL := [(.ref b)]) (rest := [(.int (3 : Int32))]) hown (tw hw 100 rfl) (tw hw 101 rfl) (tw hw 45 rfl) (tw hw 102 rfl) (by decide) (rmUL4 l Z a0 hw hel b kb _ h0 n0 Z0 B) (fun _ hx => nomatch hx) (by rw [hml]; rfl) pd_7 rfl rfl (hb hby d21_2) rfl (by decide) (ble rfl) (ce' := 0) (sl' := 0) rfl rfl (by decide) (by decide) (fun v1190 h1191 hQ1192 => ?_)
  obtain ⟨rfl, rfl⟩ := hQ1192
  show Go _ _ _ _ _ _ _ _ _ _ _ _ _ _ _ _ _ _ _ _ 0 0 5 #[.val (.int (3 : Int32)), .val (.ref b)] [(.int (4 : Int32)), (.int (3 : Int32))]
  refine Go.callS (q := 8) hx hZ (argsL := [(.int (3 : Int32)), (.int (4 : Int32))]) (rest := []) hown (tw hw 103 rfl) (tw hw 68 rfl) (tw hw 8 rfl) (tw hw 69 rfl) (by decide) (rmX l Z a0 hw hel (3 : Int32) (4 : Int32) fv h0 n0 Z0 (by decide) (by decide) X0 PF hfv) (fun _ hx => nomatch hx) (by rw [hml]; rfl) pd_14 rfl rfl (hb hby d21_5) rfl (by decide) (ble rfl) (ce' := 0) (sl' := 0) rfl rfl (by decide) (by decide) (fun v1193 h1194 hQ1195 => ?_)
  obtain ⟨rfl, rfl⟩ := hQ1195
  show Go _ _ _ _ _ _ _ _ _ _ _ _ _ _ _ _ _ _ _ _ 0 0 8 #[.val (.int (3 : Int32)), .val (.ref b)] []
  refine Go.ret0 hx hret hlk (hb hby d21_8) (by decide) (by decide) ?_
  exact ⟨rfl, rfl⟩
theorem rmUC4_3 (l : Launch) (Z : State) (a0 : Array Value) (hw : ∀ d ∈ tables_1, d.before a0 Z = true) (hel : EW Z a0 consts_1) (b : Addr) (kb : ClassId) (fv : Value) (c0 c1 c2 c3 : Int32) (h0 : Heap) (n0 : Nat) (Z0 : n0 ≤ h0.size) (B : Arv Z h0 b kb .byte (8 : Int32) [(.int (nar .byte (c0 >>> ((0 : Int32) &&& 31)).toInt8.toInt32)), (.int (nar .byte (c0 >>> ((8 : Int32) &&& 31)).toInt8.toInt32)), (.int (nar .byte (c1 >>> ((0 : Int32) &&& 31)).toInt8.toInt32)), (.int (nar .byte (c1 >>> ((8 : Int32) &&& 31)).toInt8.toInt32)), (.int (nar .byte (c2 >>> ((0 : Int32) &&& 31)).toInt8.toInt32)), (.int (nar .byte (c2 >>> ((8 : Int32) &&& 31)).toInt8.toInt32)), (.int (nar .byte (c3 >>> ((0 : Int32) &&& 31)).toInt8.toInt32)), (.int (nar .byte (c3 >>> ((8 : Int32) &&& 31)).toInt8.toInt32))] (.int (0 : Int32))) (hq3 : Chr c3) (X0 : Old Z n0 h0) (AD : Sta Z Z.heap "java/lang/StringUTF16" "$assertionsDisabled" "Z" (.int (1 : Int32))) (HB : Sta Z Z.heap "java/lang/StringUTF16" "HI_BYTE_SHIFT" "I" (.int (0 : Int32))) (LB : Sta Z Z.heap "java/lang/StringUTF16" "LO_BYTE_SHIFT" "I" (.int (8 : Int32))) (PF : Sta Z Z.heap "jdk/internal/util/Preconditions" "SIOOBE_FORMATTER" "Ljava/util/function/BiFunction;" fv) (hfv : fv.isRef = true) :
    Met l Z consts_1 [] (⟨"java/lang/StringUTF16", "charAt", "([BI)C"⟩ : MethodName) jdk_52_method_83_code 2 (Option.some FieldType.char) [] ({ frames := 3, cells := 0, slots := 0, locals := 58 } : Room) #[(.ref b), (.int (3 : Int32))] h0 n0 (fun v h => v = some (.int c3) ∧ h0 = h) := by
  refine Met.of (Ls0 := #[.val (.ref b), .val (.int (3 : Int32))]) pl_20 (by first | (simp [argsToLocals, Value.category]; done) | rfl) hel ?_
  intro p e s m below meth c hx hby hml hret hlk hown hnm hZ
  refine Go.iloadN (q := 1) hx (hb hby d20_0) rfl rfl ?_
  refine Go.aloadN (q := 2) hx (hb hby d20_1) rfl (by rfl) rfl ?_
  refine Go.callS (q := 5) hx hZ (argsL := [(.int (3 : Int32)), (.ref b)]) (rest := []) hown (tw hw 97 rfl) (tw hw 98 rfl) (tw hw 45 rfl) (tw hw 99 rfl) (by decide) (rmUI4_3 l Z a0 hw hel b kb fv c0 c1 c2 c3 h0 n0 Z0 B hq3 X0 AD HB LB PF hfv) (fun _ hx => nomatch hx) (by rw [hml]; rfl) pd_16 rfl rfl (hb hby d20_2) rfl (by decide) (ble rfl) (ce' := 0) (sl' := 0) rfl rfl (by decide) (by decide) (fun v1196 h1197 hQ1198 => ?_)
  obtain ⟨rfl, rfl⟩ := hQ1198
  show Go _ _ _ _ _ _ _ _ _ _ _ _ _ _ _ _ _ _ _ _ 0 0 5 #[.val (.ref b), .val (.int (3 : Int32))] []
  refine Go.aloadN (q := 6) hx (hb hby d20_5) rfl (by rfl) rfl ?_
  refine Go.iloadN (q := 7) hx (hb hby d20_6) rfl rfl ?_
  refine Go.callS (q := 10) hx hZ (argsL := [(.ref b), (.int (3 : Int32))]) (rest := []) hown (tw hw 91 rfl) (tw hw 92 rfl) (tw hw 45 rfl) (tw hw 93 rfl) (by decide) (rmG4_3 l Z a0 hw hel b kb c0 c1 c2 c3 h0 n0 Z0 B hq3 X0 AD HB LB) (fun _ hx => nomatch hx) (by rw [hml]; rfl) pd_5 rfl rfl (hb hby d20_7) rfl (by decide) (ble rfl) (ce' := 0) (sl' := 0) rfl rfl (by decide) (by decide) (fun v1199 h1200 hQ1201 => ?_)
  obtain ⟨rfl, rfl⟩ := hQ1201
  show Go _ _ _ _ _ _ _ _ _ _ _ _ _ _ _ _ _ _ _ _ 0 0 10 #[.val (.ref b), .val (.int (3 : Int32))] [(.int c3)]
  refine Go.retN hx (t := .char) hret (by simp) hlk (hb hby d20_10) (by decide) (by decide) ?_
  exact ⟨congrArg (fun z => some (Value.int z)) (nar_chr hq3), rfl⟩
theorem rmCh1_4_3 (l : Launch) (Z : State) (a0 : Array Value) (hw : ∀ d ∈ tables_1, d.before a0 Z = true) (hel : EW Z a0 consts_1) (sa b : Addr) (kb : ClassId) (cst : Int32) (fv : Value) (c0 c1 c2 c3 : Int32) (h0 : Heap) (n0 : Nat) (Z0 : n0 ≤ h0.size) (E : Exa Z h0 sa "java/lang/String") (F1 : Fld Z h0 sa "java/lang/String" "value" "[B" (.ref b)) (F2 : Fld Z h0 sa "java/lang/String" "coder" "B" (.int (1 : Int32))) (B : Arv Z h0 b kb .byte (8 : Int32) [(.int (nar .byte (c0 >>> ((0 : Int32) &&& 31)).toInt8.toInt32)), (.int (nar .byte (c0 >>> ((8 : Int32) &&& 31)).toInt8.toInt32)), (.int (nar .byte (c1 >>> ((0 : Int32) &&& 31)).toInt8.toInt32)), (.int (nar .byte (c1 >>> ((8 : Int32) &&& 31)).toInt8.toInt32)), (.int (nar .byte (c2 >>> ((0 : Int32) &&& 31)).toInt8.toInt32)), (.int (nar .byte (c2 >>> ((8 : Int32) &&& 31)).toInt8.toInt32)), (.int (nar .byte (c3 >>> ((0 : Int32) &&& 31)).toInt8.toInt32)), (.int (nar .byte (c3 >>> ((8 : Int32) &&& 31)).toInt8.toInt32))] (.int (0 : Int32))) (hq0 : Chr c0) (hq1 : Chr c1) (hq2 : Chr c2) (hq3 : Chr c3) (X0 : Old Z n0 h0) (SC : Sta Z Z.heap "java/lang/String" "COMPACT_STRINGS" "Z" (.int cst)) (hcs : ¬ cst = (0 : Int32)) (AD : Sta Z Z.heap "java/lang/StringUTF16" "$assertionsDisabled" "Z" (.int (1 : Int32))) (HB : Sta Z Z.heap "java/lang/StringUTF16" "HI_BYTE_SHIFT" "I" (.int (0 : Int32))) (LB : Sta Z Z.heap "java/lang/StringUTF16" "LO_BYTE_SHIFT" "I" (.int (8 : Int32))) (PF : Sta Z Z.heap "jdk/internal/util/Preconditions" "SIOOBE_FORMATTER" "Ljava/util/function/BiFunction;" fv) (hfv : fv.isRef = true) :
    Met l Z consts_1 [] (⟨"java/lang/String", "charAt", "(I)C"⟩ : MethodName) jdk_42_method_56_code 2 (Option.some FieldType.char) [] ({ frames := 4, cells := 0, slots := 0, locals := 77 } : Room) #[(.ref sa), (.int (3 : Int32))] h0 n0 (fun v h => v = some (.int c3) ∧ h0 = h) := by
  refine Met.of (Ls0 := #[.val (.ref sa), .val (.int (3 : Int32))]) pl_18 (by first | (simp [argsToLocals, Value.category]; done) | rfl) hel ?_
  intro p e s m below meth c hx hby hml hret hlk hown hnm hZ
  refine Go.aloadN (q := 1) hx (hb hby d10_0) rfl (by rfl) rfl ?_
  refine Go.callV (q := 4) hx hZ (a := sa) (argsL := []) (rest := []) hown (tw hw 58 rfl) (tw hw 59 rfl) (fun vm hzv => notFace_of_selects (args := #[]) (mvT hzv (tw hw 61 rfl))) (tw hw 61 rfl) (tw hw 60 rfl) (tw hw 8 rfl) (tw hw 62 rfl) (by decide) E (rmIs1 l Z a0 hw hel sa cst h0 n0 Z0 F2 X0 SC hcs) (fun _ hx => nomatch hx) (by rw [hml]; rfl) pd_15 rfl rfl (hb hby d10_1) rfl (by decide) (ble rfl) (ce' := 0) (sl' := 0) rfl rfl (by decide) (by decide) (fun v1202 h1203 hQ1204 => ?_)
  obtain ⟨rfl, rfl⟩ := hQ1204
  show Go _ _ _ _ _ _ _ _ _ _ _ _ _ _ _ _ _ _ _ _ 0 0 4 #[.val (.ref sa), .val (.int (3 : Int32))] [(.int (0 : Int32))]
  refine Go.if_eq (q := 7) (t := 16) hx (hb hby d10_4) (by decide) rfl rfl (fun hc4 => ?_) (fun hc4 => absurd hc4 (by decide))
  refine Go.aloadN (q := 17) hx (hb hby d10_16) rfl (by rfl) rfl ?_
  refine Go.getF (q := 20) hx hZ hown (host := "") (Or.inl (tw hw 26 rfl)) Via.refl F1 (hb hby d10_17) rfl ?_
  refine Go.iloadN (q := 21) hx (hb hby d10_20) rfl rfl ?_
  refine Go.callS (q := 24) hx hZ (argsL := [(.ref b), (.int (3 : Int32))]) (rest := []) hown (tw hw 94 rfl) (tw hw 95 rfl) (tw hw 45 rfl) (tw hw 96 rfl) (by decide) (rmUC4_3 l Z a0 hw hel b kb fv c0 c1 c2 c3 h0 n0 Z0 B hq3 X0 AD HB LB PF hfv) (fun _ hx => nomatch hx) (by rw [hml]; rfl) pd_5 rfl rfl (hb hby d10_21) rfl (by decide) (ble rfl) (ce' := 0) (sl' := 0) rfl rfl (by decide) (by decide) (fun v1205 h1206 hQ1207 => ?_)
  obtain ⟨rfl, rfl⟩ := hQ1207
  show Go _ _ _ _ _ _ _ _ _ _ _ _ _ _ _ _ _ _ _ _ 0 0 24 #[.val (.ref sa), .val (.int (3 : Int32))] [(.int c3)]
  refine Go.retN hx (t := .char) hret (by simp) hlk (hb hby d10_24) (by decide) (by decide) ?_
  exact ⟨congrArg (fun z => some (Value.int z)) (nar_chr hq3), rfl⟩
theorem rmAs1_4 (l : Launch) (Z : State) (a0 : Array Value) (hw : ∀ d ∈ tables_1, d.before a0 Z = true) (hel : EW Z a0 consts_1) (sa b : Addr) (kb : ClassId) (cst : Int32) (fv : Value) (c0 c1 c2 c3 : Int32) (h0 : Heap) (n0 : Nat) (Z0 : n0 ≤ h0.size) (E : Exa Z h0 sa "java/lang/String") (F1 : Fld Z h0 sa "java/lang/String" "value" "[B" (.ref b)) (F2 : Fld Z h0 sa "java/lang/String" "coder" "B" (.int (1 : Int32))) (B : Arv Z h0 b kb .byte (8 : Int32) [(.int (nar .byte (c0 >>> ((0 : Int32) &&& 31)).toInt8.toInt32)), (.int (nar .byte (c0 >>> ((8 : Int32) &&& 31)).toInt8.toInt32)), (.int (nar .byte (c1 >>> ((0 : Int32) &&& 31)).toInt8.toInt32)), (.int (nar .byte (c1 >>> ((8 : Int32) &&& 31)).toInt8.toInt32)), (.int (nar .byte (c2 >>> ((0 : Int32) &&& 31)).toInt8.toInt32)), (.int (nar .byte (c2 >>> ((8 : Int32) &&& 31)).toInt8.toInt32)), (.int (nar .byte (c3 >>> ((0 : Int32) &&& 31)).toInt8.toInt32)), (.int (nar .byte (c3 >>> ((8 : Int32) &&& 31)).toInt8.toInt32))] (.int (0 : Int32))) (hq0 : Chr c0) (hq1 : Chr c1) (hq2 : Chr c2) (hq3 : Chr c3) (X0 : Old Z n0 h0) (SC : Sta Z Z.heap "java/lang/String" "COMPACT_STRINGS" "Z" (.int cst)) (hcs : ¬ cst = (0 : Int32)) (AD : Sta Z Z.heap "java/lang/StringUTF16" "$assertionsDisabled" "Z" (.int (1 : Int32))) (HB : Sta Z Z.heap "java/lang/StringUTF16" "HI_BYTE_SHIFT" "I" (.int (0 : Int32))) (LB : Sta Z Z.heap "java/lang/StringUTF16" "LO_BYTE_SHIFT" "I" (.int (8 : Int32))) (PF : Sta Z Z.heap "jdk/internal/util/Preconditions" "SIOOBE_FORMATTER" "Ljava/util/function/BiFunction;" fv) (hfv : fv.isRef = true) :
    Met l Z consts_1 [] (⟨"com/example/epithet/epithet/store/MappedTable", "isAscii", "(Ljava/lang/String;)Z"⟩ : MethodName) prog_59_method_39_code 2 (Option.some FieldType.boolean) [] ({ frames := 5, cells := 0, slots := 0, locals := 96 } : Room) #[(.ref sa)] h0 n0 (fun v h => v = some (.int (if c0 < (128 : Int32) ∧ c1 < (128 : Int32) ∧ c2 < (128 : Int32) ∧ c3 < (128 : Int32) then (1 : Int32) else (0 : Int32))) ∧ h0 = h) := by
  refine Met.of (Ls0 := #[.val (.ref sa), .unset]) pl_15 (by first | (simp [argsToLocals, Value.category]; done) | rfl) hel ?_
  intro p e s m below meth c hx hby hml hret hlk hown hnm hZ
  refine Go.iconst (q := 1) (z := (0 : Int32)) hx (hb hby d4_0) rfl rfl ?_
  refine Go.istoreN (q := 2) (l' := #[.val (.ref sa), .val (.int (0 : Int32))]) hx (hb hby d4_1) rfl rfl ?_
  refine Go.iloadN (q := 3) hx (hb hby d4_2) rfl rfl ?_
  refine Go.aloadN (q := 4) hx (hb hby d4_3) rfl (by rfl) rfl ?_
  refine Go.callV (q := 7) hx hZ (a := sa) (argsL := []) (rest := [(.int (0 : Int32))]) hown (tw hw 32 rfl) (tw hw 33 rfl) (fun vm hzv => notFace_of_selects (args := #[]) (mvT hzv (tw hw 35 rfl))) (tw hw 35 rfl) (tw hw 34 rfl) (tw hw 8 rfl) (tw hw 36 rfl) (by decide) E (rmLe1_4 l Z a0 hw hel sa b kb cst fv c0 c1 c2 c3 h0 n0 Z0 E F1 F2 B hq0 hq1 hq2 hq3 X0 SC hcs AD HB LB PF hfv) (fun _ hx => nomatch hx) (by rw [hml]; rfl) pd_12 rfl rfl (hb hby d4_4) rfl (by decide) (ble rfl) (ce' := 0) (sl' := 0) rfl rfl (by decide) (by decide) (fun v1208 h1209 hQ1210 => ?_)
  obtain ⟨rfl, rfl⟩ := hQ1210
  show Go _ _ _ _ _ _ _ _ _ _ _ _ _ _ _ _ _ _ _ _ 0 0 7 #[.val (.ref sa), .val (.int (0 : Int32))] [(.int (4 : Int32)), (.int (0 : Int32))]
  refine Go.icmp_ge (q := 10) (t := 29) hx (hb hby d4_7) (by decide) rfl rfl (fun hc7 => absurd hc7 (by decide)) (fun hc7 => ?_)
  refine Go.aloadN (q := 11) hx (hb hby d4_10) rfl (by rfl) rfl ?_
  refine Go.iloadN (q := 12) hx (hb hby d4_11) rfl rfl ?_
  refine Go.callV (q := 15) hx hZ (a := sa) (argsL := [(.int (0 : Int32))]) (rest := []) hown (tw hw 53 rfl) (tw hw 54 rfl) (fun vm hzv => notFace_of_selects (args := #[]) (mvT hzv (tw hw 56 rfl))) (tw hw 56 rfl) (tw hw 55 rfl) (tw hw 8 rfl) (tw hw 57 rfl) (by decide) E (rmCh1_4_0 l Z a0 hw hel sa b kb cst fv c0 c1 c2 c3 h0 n0 Z0 E F1 F2 B hq0 hq1 hq2 hq3 X0 SC hcs AD HB LB PF hfv) (fun _ hx => nomatch hx) (by rw [hml]; rfl) pd_13 rfl rfl (hb hby d4_12) rfl (by decide) (ble rfl) (ce' := 0) (sl' := 0) rfl rfl (by decide) (by decide) (fun v1211 h1212 hQ1213 => ?_)
  obtain ⟨rfl, rfl⟩ := hQ1213
  show Go _ _ _ _ _ _ _ _ _ _ _ _ _ _ _ _ _ _ _ _ 0 0 15 #[.val (.ref sa), .val (.int (0 : Int32))] [(.int c0)]
  refine Go.sipush (q := 18) (z := (128 : Int32)) hx (hb hby d4_15) rfl rfl ?_
  refine Go.icmp_lt (q := 21) (t := 23) hx (hb hby d4_18) (by decide) rfl rfl (fun hc18 => ?_) (fun hc18 => ?_)
  · skip
    refine Go.iinc (q := 26) (l' := #[.val (.ref sa), .val (.int ((0 : Int32) + (1 : Int32)))]) hx (hb hby d4_23) rfl rfl rfl ?_
    refine Go.goto (q := 2) hx (hb hby d4_26) (by decide) rfl ?_
    rw [show (0 : Int32) + (1 : Int32) = (1 : Int32) from by decide]
    refine Go.iloadN (q := 3) hx (hb hby d4_2) rfl rfl ?_
    refine Go.aloadN (q := 4) hx (hb hby d4_3) rfl (by rfl) rfl ?_
    refine Go.callV (q := 7) hx hZ (a := sa) (argsL := []) (rest := [(.int (1 : Int32))]) hown (tw hw 32 rfl) (tw hw 33 rfl) (fun vm hzv => notFace_of_selects (args := #[]) (mvT hzv (tw hw 35 rfl))) (tw hw 35 rfl) (tw hw 34 rfl) (tw hw 8 rfl) (tw hw 36 rfl) (by decide) E (rmLe1_4 l Z a0 hw hel sa b kb cst fv c0 c1 c2 c3 h0 n0 Z0 E F1 F2 B hq0 hq1 hq2 hq3 X0 SC hcs AD HB LB PF hfv) (fun _ hx => nomatch hx) (by rw [hml]; rfl) pd_12 rfl rfl (hb hby d4_4) rfl (by decide) (ble rfl) (ce' := 0) (sl' := 0) rfl rfl (by decide) (by decide) (fun v1214 h1215 hQ1216 => ?_)
    obtain ⟨rfl, rfl⟩ := hQ1216
    show Go _ _ _ _ _ _ _ _ _ _ _ _ _ _ _ _ _ _ _ _ 0 0 7 #[.val (.ref sa), .val (.int (1 : Int32))] [(.int (4 : Int32)), (.int (1 : Int32))]
    refine Go.icmp_ge (q := 10) (t := 29) hx (hb hby d4_7) (by decide) rfl rfl (fun hc7_1 => absurd hc7_1 (by decide)) (fun hc7_1 => ?_)
    refine Go.aloadN (q := 11) hx (hb hby d4_10) rfl (by rfl) rfl ?_
    refine Go.iloadN (q := 12) hx (hb hby d4_11) rfl rfl ?_
    refine Go.callV (q := 15) hx hZ (a := sa) (argsL := [(.int (1 : Int32))]) (rest := []) hown (tw hw 53 rfl) (tw hw 54 rfl) (fun vm hzv => notFace_of_selects (args := #[]) (mvT hzv (tw hw 56 rfl))) (tw hw 56 rfl) (tw hw 55 rfl) (tw hw 8 rfl) (tw hw 57 rfl) (by decide) E (rmCh1_4_1 l Z a0 hw hel sa b kb cst fv c0 c1 c2 c3 h0 n0 Z0 E F1 F2 B hq0 hq1 hq2 hq3 X0 SC hcs AD HB LB PF hfv) (fun _ hx => nomatch hx) (by rw [hml]; rfl) pd_13 rfl rfl (hb hby d4_12) rfl (by decide) (ble rfl) (ce' := 0) (sl' := 0) rfl rfl (by decide) (by decide) (fun v1217 h1218 hQ1219 => ?_)
    obtain ⟨rfl, rfl⟩ := hQ1219
    show Go _ _ _ _ _ _ _ _ _ _ _ _ _ _ _ _ _ _ _ _ 0 0 15 #[.val (.ref sa), .val (.int (1 : Int32))] [(.int c1)]
    refine Go.sipush (q := 18) (z := (128 : Int32)) hx (hb hby d4_15) rfl rfl ?_
    refine Go.icmp_lt (q := 21) (t := 23) hx (hb hby d4_18) (by decide) rfl rfl (fun hc18_1 => ?_) (fun hc18_1 => ?_)
    · skip
      refine Go.iinc (q := 26) (l' := #[.val (.ref sa), .val (.int ((1 : Int32) + (1 : Int32)))]) hx (hb hby d4_23) rfl rfl rfl ?_
      refine Go.goto (q := 2) hx (hb hby d4_26) (by decide) rfl ?_
      rw [show (1 : Int32) + (1 : Int32) = (2 : Int32) from by decide]
      refine Go.iloadN (q := 3) hx (hb hby d4_2) rfl rfl ?_
      refine Go.aloadN (q := 4) hx (hb hby d4_3) rfl (by rfl) rfl ?_
      refine Go.callV (q := 7) hx hZ (a := sa) (argsL := []) (rest := [(.int (2 : Int32))]) hown (tw hw 32 rfl) (tw hw 33 rfl) (fun vm hzv => notFace_of_selects (args := #[]) (mvT hzv (tw hw 35 rfl))) (tw hw 35 rfl) (tw hw 34 rfl) (tw hw 8 rfl) (tw hw 36 rfl) (by decide) E (rmLe1_4 l Z a0 hw hel sa b kb cst fv c0 c1 c2 c3 h0 n0 Z0 E F1 F2 B hq0 hq1 hq2 hq3 X0 SC hcs AD HB LB PF hfv) (fun _ hx => nomatch hx) (by rw [hml]; rfl) pd_12 rfl rfl (hb hby d4_4) rfl (by decide) (ble rfl) (ce' := 0) (sl' := 0) rfl rfl (by decide) (by decide) (fun v1220 h1221 hQ1222 => ?_)
      obtain ⟨rfl, rfl⟩ := hQ1222
      show Go _ _ _ _ _ _ _ _ _ _ _ _ _ _ _ _ _ _ _ _ 0 0 7 #[.val (.ref sa), .val (.int (2 : Int32))] [(.int (4 : Int32)), (.int (2 : Int32))]
      refine Go.icmp_ge (q := 10) (t := 29) hx (hb hby d4_7) (by decide) rfl rfl (fun hc7_2 => absurd hc7_2 (by decide)) (fun hc7_2 => ?_)
      refine Go.aloadN (q := 11) hx (hb hby d4_10) rfl (by rfl) rfl ?_
      refine Go.iloadN (q := 12) hx (hb hby d4_11) rfl rfl ?_
      refine Go.callV (q := 15) hx hZ (a := sa) (argsL := [(.int (2 : Int32))]) (rest := []) hown (tw hw 53 rfl) (tw hw 54 rfl) (fun vm hzv => notFace_of_selects (args := #[]) (mvT hzv (tw hw 56 rfl))) (tw hw 56 rfl) (tw hw 55 rfl) (tw hw 8 rfl) (tw hw 57 rfl) (by decide) E (rmCh1_4_2 l Z a0 hw hel sa b kb cst fv c0 c1 c2 c3 h0 n0 Z0 E F1 F2 B hq0 hq1 hq2 hq3 X0 SC hcs AD HB LB PF hfv) (fun _ hx => nomatch hx) (by rw [hml]; rfl) pd_13 rfl rfl (hb hby d4_12) rfl (by decide) (ble rfl) (ce' := 0) (sl' := 0) rfl rfl (by decide) (by decide) (fun v1223 h1224 hQ1225 => ?_)
      obtain ⟨rfl, rfl⟩ := hQ1225
      show Go _ _ _ _ _ _ _ _ _ _ _ _ _ _ _ _ _ _ _ _ 0 0 15 #[.val (.ref sa), .val (.int (2 : Int32))] [(.int c2)]
      refine Go.sipush (q := 18) (z := (128 : Int32)) hx (hb hby d4_15) rfl rfl ?_
      refine Go.icmp_lt (q := 21) (t := 23) hx (hb hby d4_18) (by decide) rfl rfl (fun hc18_2 => ?_) (fun hc18_2 => ?_)
      · skip
        refine Go.iinc (q := 26) (l' := #[.val (.ref sa), .val (.int ((2 : Int32) + (1 : Int32)))]) hx (hb hby d4_23) rfl rfl rfl ?_
        refine Go.goto (q := 2) hx (hb hby d4_26) (by decide) rfl ?_
        rw [show (2 : Int32) + (1 : Int32) = (3 : Int32) from by decide]
        refine Go.iloadN (q := 3) hx (hb hby d4_2) rfl rfl ?_
        refine Go.aloadN (q := 4) hx (hb hby d4_3) rfl (by rfl) rfl ?_
        refine Go.callV (q := 7) hx hZ (a := sa) (argsL := []) (rest := [(.int (3 : Int32))]) hown (tw hw 32 rfl) (tw hw 33 rfl) (fun vm hzv => notFace_of_selects (args := #[]) (mvT hzv (tw hw 35 rfl))) (tw hw 35 rfl) (tw hw 34 rfl) (tw hw 8 rfl) (tw hw 36 rfl) (by decide) E (rmLe1_4 l Z a0 hw hel sa b kb cst fv c0 c1 c2 c3 h0 n0 Z0 E F1 F2 B hq0 hq1 hq2 hq3 X0 SC hcs AD HB LB PF hfv) (fun _ hx => nomatch hx) (by rw [hml]; rfl) pd_12 rfl rfl (hb hby d4_4) rfl (by decide) (ble rfl) (ce' := 0) (sl' := 0) rfl rfl (by decide) (by decide) (fun v1226 h1227 hQ1228 => ?_)
        obtain ⟨rfl, rfl⟩ := hQ1228
        show Go _ _ _ _ _ _ _ _ _ _ _ _ _ _ _ _ _ _ _ _ 0 0 7 #[.val (.ref sa), .val (.int (3 : Int32))] [(.int (4 : Int32)), (.int (3 : Int32))]
        refine Go.icmp_ge (q := 10) (t := 29) hx (hb hby d4_7) (by decide) rfl rfl (fun hc7_3 => absurd hc7_3 (by decide)) (fun hc7_3 => ?_)
        refine Go.aloadN (q := 11) hx (hb hby d4_10) rfl (by rfl) rfl ?_
        refine Go.iloadN (q := 12) hx (hb hby d4_11) rfl rfl ?_
        refine Go.callV (q := 15) hx hZ (a := sa) (argsL := [(.int (3 : Int32))]) (rest := []) hown (tw hw 53 rfl) (tw hw 54 rfl) (fun vm hzv => notFace_of_selects (args := #[]) (mvT hzv (tw hw 56 rfl))) (tw hw 56 rfl) (tw hw 55 rfl) (tw hw 8 rfl) (tw hw 57 rfl) (by decide) E (rmCh1_4_3 l Z a0 hw hel sa b kb cst fv c0 c1 c2 c3 h0 n0 Z0 E F1 F2 B hq0 hq1 hq2 hq3 X0 SC hcs AD HB LB PF hfv) (fun _ hx => nomatch hx) (by rw [hml]; rfl) pd_13 rfl rfl (hb hby d4_12) rfl (by decide) (ble rfl) (ce' := 0) (sl' := 0) rfl rfl (by decide) (by decide) (fun v1229 h1230 hQ1231 => ?_)
        obtain ⟨rfl, rfl⟩ := hQ1231
        show Go _ _ _ _ _ _ _ _ _ _ _ _ _ _ _ _ _ _ _ _ 0 0 15 #[.val (.ref sa), .val (.int (3 : Int32))] [(.int c3)]
        refine Go.sipush (q := 18) (z := (128 : Int32)) hx (hb hby d4_15) rfl rfl ?_
        refine Go.icmp_lt (q := 21) (t := 23) hx (hb hby d4_18) (by decide) rfl rfl (fun hc18_3 => ?_) (fun hc18_3 => ?_)
        · skip
          refine Go.iinc (q := 26) (l' := #[.val (.ref sa), .val (.int ((3 : Int32) + (1 : Int32)))]) hx (hb hby d4_23) rfl rfl rfl ?_
          refine Go.goto (q := 2) hx (hb hby d4_26) (by decide) rfl ?_
          rw [show (3 : Int32) + (1 : Int32) = (4 : Int32) from by decide]
          refine Go.iloadN (q := 3) hx (hb hby d4_2) rfl rfl ?_
          refine Go.aloadN (q := 4) hx (hb hby d4_3) rfl (by rfl) rfl ?_
          refine Go.callV (q := 7) hx hZ (a := sa) (argsL := []) (rest := [(.int (4 : Int32))]) hown (tw hw 32 rfl) (tw hw 33 rfl) (fun vm hzv => notFace_of_selects (args := #[]) (mvT hzv (tw hw 35 rfl))) (tw hw 35 rfl) (tw hw 34 rfl) (tw hw 8 rfl) (tw hw 36 rfl) (by decide) E (rmLe1_4 l Z a0 hw hel sa b kb cst fv c0 c1 c2 c3 h0 n0 Z0 E F1 F2 B hq0 hq1 hq2 hq3 X0 SC hcs AD HB LB PF hfv) (fun _ hx => nomatch hx) (by rw [hml]; rfl) pd_12 rfl rfl (hb hby d4_4) rfl (by decide) (ble rfl) (ce' := 0) (sl' := 0) rfl rfl (by decide) (by decide) (fun v1232 h1233 hQ1234 => ?_)
          obtain ⟨rfl, rfl⟩ := hQ1234
          show Go _ _ _ _ _ _ _ _ _ _ _ _ _ _ _ _ _ _ _ _ 0 0 7 #[.val (.ref sa), .val (.int (4 : Int32))] [(.int (4 : Int32)), (.int (4 : Int32))]
          refine Go.icmp_ge (q := 10) (t := 29) hx (hb hby d4_7) (by decide) rfl rfl (fun hc7_4 => ?_) (fun hc7_4 => absurd hc7_4 (by decide))
          refine Go.iconst (q := 30) (z := (1 : Int32)) hx (hb hby d4_29) rfl rfl ?_
          refine Go.retN hx (t := .boolean) hret (by simp) hlk (hb hby d4_30) (by decide) (by decide) ?_
          exact ⟨congrArg (fun z => some (Value.int z)) ((if_pos ⟨hc18, hc18_1, hc18_2, hc18_3⟩).symm : (1 : Int32) = _), rfl⟩
        · skip
          refine Go.iconst (q := 22) (z := (0 : Int32)) hx (hb hby d4_21) rfl rfl ?_
          refine Go.retN hx (t := .boolean) hret (by simp) hlk (hb hby d4_22) (by decide) (by decide) ?_
          exact ⟨congrArg (fun z => some (Value.int z)) ((if_neg (fun q => absurd q.2.2.2 hc18_3)).symm : (0 : Int32) = _), rfl⟩
      · skip
        refine Go.iconst (q := 22) (z := (0 : Int32)) hx (hb hby d4_21) rfl rfl ?_
        refine Go.retN hx (t := .boolean) hret (by simp) hlk (hb hby d4_22) (by decide) (by decide) ?_
        exact ⟨congrArg (fun z => some (Value.int z)) ((if_neg (fun q => absurd q.2.2.1 hc18_2)).symm : (0 : Int32) = _), rfl⟩
    · skip
      refine Go.iconst (q := 22) (z := (0 : Int32)) hx (hb hby d4_21) rfl rfl ?_
      refine Go.retN hx (t := .boolean) hret (by simp) hlk (hb hby d4_22) (by decide) (by decide) ?_
      exact ⟨congrArg (fun z => some (Value.int z)) ((if_neg (fun q => absurd q.2.1 hc18_1)).symm : (0 : Int32) = _), rfl⟩
  · skip
    refine Go.iconst (q := 22) (z := (0 : Int32)) hx (hb hby d4_21) rfl rfl ?_
    refine Go.retN hx (t := .boolean) hret (by simp) hlk (hb hby d4_22) (by decide) (by decide) ?_
    exact ⟨congrArg (fun z => some (Value.int z)) ((if_neg (fun q => absurd q.1 hc18)).symm : (0 : Int32) = _), rfl⟩
def Str4 (Z : State) (h : Heap) (sa : Addr) (c0 c1 c2 c3 : Int32) : Prop := Exa Z h sa "java/lang/String" ∧ ∃ b kb, Fld Z h sa "java/lang/String" "value" "[B" (.ref b) ∧ (((¬ (255 : Int32) < c0) ∧ (¬ (255 : Int32) < c1) ∧ (¬ (255 : Int32) < c2) ∧ (¬ (255 : Int32) < c3) ∧ Fld Z h sa "java/lang/String" "coder" "B" (.int (0 : Int32)) ∧ Arv Z h b kb .byte (4 : Int32) [(.int (nar .byte c0.toInt8.toInt32)), (.int (nar .byte c1.toInt8.toInt32)), (.int (nar .byte c2.toInt8.toInt32)), (.int (nar .byte c3.toInt8.toInt32))] (.int (0 : Int32))) ∨ (Fld Z h sa "java/lang/String" "coder" "B" (.int (1 : Int32)) ∧ Arv Z h b kb .byte (8 : Int32) [(.int (nar .byte (c0 >>> ((0 : Int32) &&& 31)).toInt8.toInt32)), (.int (nar .byte (c0 >>> ((8 : Int32) &&& 31)).toInt8.toInt32)), (.int (nar .byte (c1 >>> ((0 : Int32) &&& 31)).toInt8.toInt32)), (.int (nar .byte (c1 >>> ((8 : Int32) &&& 31)).toInt8.toInt32)), (.int (nar .byte (c2 >>> ((0 : Int32) &&& 31)).toInt8.toInt32)), (.int (nar .byte (c2 >>> ((8 : Int32) &&& 31)).toInt8.toInt32)), (.int (nar .byte (c3 >>> ((0 : Int32) &&& 31)).toInt8.toInt32)), (.int (nar .byte (c3 >>> ((8 : Int32) &&& 31)).toInt8.toInt32))] (.int (0 : Int32))))
theorem rmAs4 (l : Launch) (Z : State) (a0 : Array Value) (hw : ∀ d ∈ tables_1, d.before a0 Z = true) (hel : EW Z a0 consts_1) (sa : Addr) (cst : Int32) (fv : Value) (c0 c1 c2 c3 : Int32) (h0 : Heap) (n0 : Nat) (Z0 : n0 ≤ h0.size) (T : Str4 Z h0 sa c0 c1 c2 c3) (hq0 : Chr c0) (hq1 : Chr c1) (hq2 : Chr c2) (hq3 : Chr c3) (X0 : Old Z n0 h0) (SC : Sta Z Z.heap "java/lang/String" "COMPACT_STRINGS" "Z" (.int cst)) (hcs : ¬ cst = (0 : Int32)) (AD : Sta Z Z.heap "java/lang/StringUTF16" "$assertionsDisabled" "Z" (.int (1 : Int32))) (HB : Sta Z Z.heap "java/lang/StringUTF16" "HI_BYTE_SHIFT" "I" (.int (0 : Int32))) (LB : Sta Z Z.heap "java/lang/StringUTF16" "LO_BYTE_SHIFT" "I" (.int (8 : Int32))) (PF : Sta Z Z.heap "jdk/internal/util/Preconditions" "SIOOBE_FORMATTER" "Ljava/util/function/BiFunction;" fv) (hfv : fv.isRef = true) :
    Met l Z consts_1 [] (⟨"com/example/epithet/epithet/store/MappedTable", "isAscii", "(Ljava/lang/String;)Z"⟩ : MethodName) prog_59_method_39_code 2 (Option.some FieldType.boolean) [] ({ frames := 5, cells := 0, slots := 0, locals := 96 } : Room) #[(.ref sa)] h0 n0 (fun v h => v = some (.int (if c0 < (128 : Int32) ∧ c1 < (128 : Int32) ∧ c2 < (128 : Int32) ∧ c3 < (128 : Int32) then (1 : Int32) else (0 : Int32))) ∧ h0 = h) := by
  obtain ⟨E, b, kb, F1, ⟨hp0, hp1, hp2, hp3, F2, B⟩ | ⟨F2, B⟩⟩ := T
  · exact rmAs0_4 l Z a0 hw hel sa b kb cst fv c0 c1 c2 c3 h0 n0 Z0 E F1 F2 B hq0 hq1 hq2 hq3 hp0 hp1 hp2 hp3 X0 SC hcs AD HB LB PF hfv
  · exact rmAs1_4 l Z a0 hw hel sa b kb cst fv c0 c1 c2 c3 h0 n0 Z0 E F1 F2 B hq0 hq1 hq2 hq3  X0 SC hcs AD HB LB PF hfv
theorem d0_0 : decode method_3_code 0 = .ok (.iload_n 0, 1) := by decide +kernel
theorem d0_1 : decode method_3_code 1 = .ok (.ifCond .ne 14, 3) := by decide +kernel
theorem d0_4 : decode method_3_code 4 = .ok (.new 21, 3) := by decide +kernel
theorem d0_7 : decode method_3_code 7 = .ok (.dup, 1) := by decide +kernel
theorem d0_8 : decode method_3_code 8 = .ok (.iconst 0, 1) := by decide +kernel
theorem d0_9 : decode method_3_code 9 = .ok (.newarray .char, 2) := by decide +kernel
theorem d0_11 : decode method_3_code 11 = .ok (.invokespecial 23, 3) := by decide +kernel
theorem d0_14 : decode method_3_code 14 = .ok (.areturn, 1) := by decide +kernel
theorem d0_15 : decode method_3_code 15 = .ok (.iload_n 0, 1) := by decide +kernel
theorem d0_16 : decode method_3_code 16 = .ok (.iconst 1, 1) := by decide +kernel
theorem d0_17 : decode method_3_code 17 = .ok (.if_icmp .ne 18, 3) := by decide +kernel
theorem d0_20 : decode method_3_code 20 = .ok (.new 21, 3) := by decide +kernel
theorem d0_23 : decode method_3_code 23 = .ok (.dup, 1) := by decide +kernel
theorem d0_24 : decode method_3_code 24 = .ok (.iconst 1, 1) := by decide +kernel
theorem d0_25 : decode method_3_code 25 = .ok (.newarray .char, 2) := by decide +kernel
theorem d0_27 : decode method_3_code 27 = .ok (.dup, 1) := by decide +kernel
theorem d0_28 : decode method_3_code 28 = .ok (.iconst 0, 1) := by decide +kernel
theorem d0_29 : decode method_3_code 29 = .ok (.iload_n 1, 1) := by decide +kernel
theorem d0_30 : decode method_3_code 30 = .ok (.castore, 1) := by decide +kernel
theorem d0_31 : decode method_3_code 31 = .ok (.invokespecial 23, 3) := by decide +kernel
theorem d0_34 : decode method_3_code 34 = .ok (.areturn, 1) := by decide +kernel
theorem d0_35 : decode method_3_code 35 = .ok (.iload_n 0, 1) := by decide +kernel
theorem d0_36 : decode method_3_code 36 = .ok (.iconst 2, 1) := by decide +kernel
theorem d0_37 : decode method_3_code 37 = .ok (.if_icmp .ne 22, 3) := by decide +kernel
theorem d0_40 : decode method_3_code 40 = .ok (.new 21, 3) := by decide +kernel
theorem d0_43 : decode method_3_code 43 = .ok (.dup, 1) := by decide +kernel
theorem d0_44 : decode method_3_code 44 = .ok (.iconst 2, 1) := by decide +kernel
theorem d0_45 : decode method_3_code 45 = .ok (.newarray .char, 2) := by decide +kernel
theorem d0_47 : decode method_3_code 47 = .ok (.dup, 1) := by decide +kernel
theorem d0_48 : decode method_3_code 48 = .ok (.iconst 0, 1) := by decide +kernel
theorem d0_49 : decode method_3_code 49 = .ok (.iload_n 1, 1) := by decide +kernel
theorem d0_50 : decode method_3_code 50 = .ok (.castore, 1) := by decide +kernel
theorem d0_51 : decode method_3_code 51 = .ok (.dup, 1) := by decide +kernel
theorem d0_52 : decode method_3_code 52 = .ok (.iconst 1, 1) := by decide +kernel
theorem d0_53 : decode method_3_code 53 = .ok (.iload_n 2, 1) := by decide +kernel
theorem d0_54 : decode method_3_code 54 = .ok (.castore, 1) := by decide +kernel
theorem d0_55 : decode method_3_code 55 = .ok (.invokespecial 23, 3) := by decide +kernel
theorem d0_58 : decode method_3_code 58 = .ok (.areturn, 1) := by decide +kernel
theorem d0_59 : decode method_3_code 59 = .ok (.iload_n 0, 1) := by decide +kernel
theorem d0_60 : decode method_3_code 60 = .ok (.iconst 3, 1) := by decide +kernel
theorem d0_61 : decode method_3_code 61 = .ok (.if_icmp .ne 26, 3) := by decide +kernel
theorem d0_64 : decode method_3_code 64 = .ok (.new 21, 3) := by decide +kernel
theorem d0_67 : decode method_3_code 67 = .ok (.dup, 1) := by decide +kernel
theorem d0_68 : decode method_3_code 68 = .ok (.iconst 3, 1) := by decide +kernel
theorem d0_69 : decode method_3_code 69 = .ok (.newarray .char, 2) := by decide +kernel
theorem d0_71 : decode method_3_code 71 = .ok (.dup, 1) := by decide +kernel
theorem d0_72 : decode method_3_code 72 = .ok (.iconst 0, 1) := by decide +kernel
theorem d0_73 : decode method_3_code 73 = .ok (.iload_n 1, 1) := by decide +kernel
theorem d0_74 : decode method_3_code 74 = .ok (.castore, 1) := by decide +kernel
theorem d0_75 : decode method_3_code 75 = .ok (.dup, 1) := by decide +kernel
theorem d0_76 : decode method_3_code 76 = .ok (.iconst 1, 1) := by decide +kernel
theorem d0_77 : decode method_3_code 77 = .ok (.iload_n 2, 1) := by decide +kernel
theorem d0_78 : decode method_3_code 78 = .ok (.castore, 1) := by decide +kernel
theorem d0_79 : decode method_3_code 79 = .ok (.dup, 1) := by decide +kernel
theorem d0_80 : decode method_3_code 80 = .ok (.iconst 2, 1) := by decide +kernel
theorem d0_81 : decode method_3_code 81 = .ok (.iload_n 3, 1) := by decide +kernel
theorem d0_82 : decode method_3_code 82 = .ok (.castore, 1) := by decide +kernel
theorem d0_83 : decode method_3_code 83 = .ok (.invokespecial 23, 3) := by decide +kernel
theorem d0_86 : decode method_3_code 86 = .ok (.areturn, 1) := by decide +kernel
theorem d0_87 : decode method_3_code 87 = .ok (.new 21, 3) := by decide +kernel
theorem d0_90 : decode method_3_code 90 = .ok (.dup, 1) := by decide +kernel
theorem d0_91 : decode method_3_code 91 = .ok (.iconst 4, 1) := by decide +kernel
theorem d0_92 : decode method_3_code 92 = .ok (.newarray .char, 2) := by decide +kernel
theorem d0_94 : decode method_3_code 94 = .ok (.dup, 1) := by decide +kernel
theorem d0_95 : decode method_3_code 95 = .ok (.iconst 0, 1) := by decide +kernel
theorem d0_96 : decode method_3_code 96 = .ok (.iload_n 1, 1) := by decide +kernel
theorem d0_97 : decode method_3_code 97 = .ok (.castore, 1) := by decide +kernel
theorem d0_98 : decode method_3_code 98 = .ok (.dup, 1) := by decide +kernel
theorem d0_99 : decode method_3_code 99 = .ok (.iconst 1, 1) := by decide +kernel
theorem d0_100 : decode method_3_code 100 = .ok (.iload_n 2, 1) := by decide +kernel
theorem d0_101 : decode method_3_code 101 = .ok (.castore, 1) := by decide +kernel
theorem d0_102 : decode method_3_code 102 = .ok (.dup, 1) := by decide +kernel
theorem d0_103 : decode method_3_code 103 = .ok (.iconst 2, 1) := by decide +kernel
theorem d0_104 : decode method_3_code 104 = .ok (.iload_n 3, 1) := by decide +kernel
theorem d0_105 : decode method_3_code 105 = .ok (.castore, 1) := by decide +kernel
theorem d0_106 : decode method_3_code 106 = .ok (.dup, 1) := by decide +kernel
theorem d0_107 : decode method_3_code 107 = .ok (.iconst 3, 1) := by decide +kernel
theorem d0_108 : decode method_3_code 108 = .ok (.iload 4, 2) := by decide +kernel
theorem d0_110 : decode method_3_code 110 = .ok (.castore, 1) := by decide +kernel
theorem d0_111 : decode method_3_code 111 = .ok (.invokespecial 23, 3) := by decide +kernel
theorem d0_114 : decode method_3_code 114 = .ok (.areturn, 1) := by decide +kernel
theorem pl_21 : plainFor (⟨"com/example/epithet/epithet/store/MappedTableIsAsciiPinLaw", "make", "(ICCCC)Ljava/lang/String;"⟩ : MethodName) = true := plainFor_of_name (by first | (simp [plainName, overriddenIn]; done) | decide +kernel)
theorem pd_17 : parseMethodDescriptor "([C)V" = some ⟨[(.array .char)], none⟩ := by decide +kernel
theorem rmM0 (l : Launch) (Z : State) (a0 : Array Value) (hw : ∀ d ∈ tables_1, d.before a0 Z = true) (hel : EW Z a0 consts_1) (cst c0 c1 c2 c3 : Int32) (h0 : Heap) (n0 : Nat) (Z0 : n0 ≤ h0.size)  (X0 : Old Z n0 h0) (SC : Sta Z Z.heap "java/lang/String" "COMPACT_STRINGS" "Z" (.int cst)) (hcs : ¬ cst = (0 : Int32)) (AD : Sta Z Z.heap "java/lang/StringUTF16" "$assertionsDisabled" "Z" (.int (1 : Int32))) (HB : Sta Z Z.heap "java/lang/StringUTF16" "HI_BYTE_SHIFT" "I" (.int (0 : Int32))) (LB : Sta Z Z.heap "java/lang/StringUTF16" "LO_BYTE_SHIFT" "I" (.int (8 : Int32))) :
    Met l Z consts_1 [] (⟨"com/example/epithet/epithet/store/MappedTableIsAsciiPinLaw", "make", "(ICCCC)Ljava/lang/String;"⟩ : MethodName) method_3_code 5 (Option.some (FieldType.object "java/lang/String")) [] ({ frames := 4, cells := 6, slots := 12, locals := 71 } : Room) #[(.int (0 : Int32)), (.int c0), (.int c1), (.int c2), (.int c3)] h0 n0 (fun v h => ∃ sa, v = some (.ref sa) ∧ Keep h0 h [] ∧ Str0 Z h sa ) := by
  refine Met.of (Ls0 := #[.val (.int (0 : Int32)), .val (.int c0), .val (.int c1), .val (.int c2), .val (.int c3)]) pl_21 (by first | (simp [argsToLocals, Value.category]; done) | rfl) hel ?_
  intro p e s m below meth c hx hby hml hret hlk hown hnm hZ
  refine Go.iloadN (q := 1) hx (hb hby d0_0) rfl rfl ?_
  refine Go.if_ne (q := 4) (t := 15) hx (hb hby d0_1) (by decide) rfl rfl (fun hc1 => absurd hc1 (by decide)) (fun hc1 => ?_)
  refine Go.newO (q := 7) hx hZ hown (tw hw 6 rfl) (tw hw 7 rfl) (tw hw 8 rfl) (hb hby d0_4) rfl (ce' := 1) (sl' := 4) rfl rfl (by decide) (by decide) (fun h1235 a1236 g1237 E1238 A1239 D1240 => ?_)
  have gz1241 : n0 ≤ a1236 := by rw [g1237]; exact Z0
  have gk1242 : h0.size ≤ a1236 := by rw [g1237]; exact (Keep.refl h0 []).1
  refine Go.dup (q := 8) hx (hb hby d0_7) rfl rfl ?_
  refine Go.iconst (q := 9) (z := (0 : Int32)) hx (hb hby d0_8) rfl rfl ?_
  refine Go.newP (q := 11) (cap := 0) hx hZ (tw hw 9 rfl) (by decide) (by decide) (hb hby d0_9) rfl (by decide) (ce' := 2) (sl' := 4) rfl rfl (by decide) (by decide) (fun h1243 a1244 k1245 g1246 E1247 A1248 => ?_)
  have ne1249 : a1236 ≠ a1244 := by rw [g1246]; exact Nat.ne_of_lt (A1239).lt
  have gz1250 : n0 ≤ a1244 := by rw [g1246]; exact (Nat.le_trans Z0 E1238.1)
  have gk1251 : h0.size ≤ a1244 := by rw [g1246]; exact ((Keep.refl h0 []).ext E1238).1
  have V1252 : Arv Z h1243 a1244 k1245 .char (0 : Int32) [] (.int (0 : Int32)) := A1248.pad (pad_rep [] (.int (0 : Int32)) 0)
  refine Go.callI (q := 14) hx hZ (a := a1236) (argsL := [(.ref a1244)]) (rest := [(.ref a1236)]) hown rfl (tw hw 10 rfl) (tw hw 11 rfl) (tw hw 8 rfl) (tw hw 12 rfl) (by decide) (rmI0 l Z a0 hw hel a1236 a1244 k1245 cst  h1243 n0 (Nat.le_trans (Nat.le_trans Z0 E1238.1) E1247.1) gz1241 ne1249.symm (Exa.ext E1247 A1239) (Fld.ext E1247 (D1240 (Or.inr (tw hw 22 rfl)) (ty := (.array .byte)) (by decide))) (Fld.ext E1247 (D1240 (Or.inr (tw hw 23 rfl)) (ty := .byte) (by decide))) V1252  ((X0.ext E1238).ext E1247) SC hcs) (by simp) (by rw [hml]; rfl) pd_17 rfl rfl (hb hby d0_11) rfl (by decide) (ble rfl) (ce' := 6) (sl' := 12) rfl rfl (by decide) (by decide) (fun v1253 h1254 hQ1255 => ?_)
  have lt1257 := ((Exa.ext E1247 A1239)).lt
  have lt1258 := (V1252).lt
  obtain ⟨rfl, K1256, b1259, k1260, F1262, F1263, V1264⟩ := hQ1255
  show Go _ _ _ _ _ _ _ _ _ _ _ _ _ _ _ _ _ _ _ _ 6 12 14 #[.val (.int (0 : Int32)), .val (.int c0), .val (.int c1), .val (.int c2), .val (.int c3)] [(.ref a1236)]
  refine Go.retA hx hret rfl (by rfl) hlk (hb hby d0_14) (by decide) (by decide) ?_
  exact ⟨a1236, rfl, (Keep.trans (((Keep.refl h0 []).ext E1238).ext E1247) K1256 (allS (Or.inr gk1242) all0)), ((Exa.ext E1247 A1239).keep K1256), b1259, k1260, F1262, ⟨F1263, V1264⟩⟩
theorem rmM1 (l : Launch) (Z : State) (a0 : Array Value) (hw : ∀ d ∈ tables_1, d.before a0 Z = true) (hel : EW Z a0 consts_1) (cst c0 c1 c2 c3 : Int32) (h0 : Heap) (n0 : Nat) (Z0 : n0 ≤ h0.size) (hq0 : Chr c0) (X0 : Old Z n0 h0) (SC : Sta Z Z.heap "java/lang/String" "COMPACT_STRINGS" "Z" (.int cst)) (hcs : ¬ cst = (0 : Int32)) (AD : Sta Z Z.heap "java/lang/StringUTF16" "$assertionsDisabled" "Z" (.int (1 : Int32))) (HB : Sta Z Z.heap "java/lang/StringUTF16" "HI_BYTE_SHIFT" "I" (.int (0 : Int32))) (LB : Sta Z Z.heap "java/lang/StringUTF16" "LO_BYTE_SHIFT" "I" (.int (8 : Int32))) :
    Met l Z consts_1 [] (⟨"com/example/epithet/epithet/store/MappedTableIsAsciiPinLaw", "make", "(ICCCC)Ljava/lang/String;"⟩ : MethodName) method_3_code 5 (Option.some (FieldType.object "java/lang/String")) [] ({ frames := 6, cells := 4, slots := 20, locals := 123 } : Room) #[(.int (1 : Int32)), (.int c0), (.int c1), (.int c2), (.int c3)] h0 n0 (fun v h => ∃ sa, v = some (.ref sa) ∧ Keep h0 h [] ∧ Str1 Z h sa c0) := by
  refine Met.of (Ls0 := #[.val (.int (1 : Int32)), .val (.int c0), .val (.int c1), .val (.int c2), .val (.int c3)]) pl_21 (by first | (simp [argsToLocals, Value.category]; done) | rfl) hel ?_
  intro p e s m below meth c hx hby hml hret hlk hown hnm hZ
  refine Go.iloadN (q := 1) hx (hb hby d0_0) rfl rfl ?_
  refine Go.if_ne (q := 4) (t := 15) hx (hb hby d0_1) (by decide) rfl rfl (fun hc1 => ?_) (fun hc1 => absurd hc1 (by decide))
  refine Go.iloadN (q := 16) hx (hb hby d0_15) rfl rfl ?_
  refine Go.iconst (q := 17) (z := (1 : Int32)) hx (hb hby d0_16) rfl rfl ?_
  refine Go.icmp_ne (q := 20) (t := 35) hx (hb hby d0_17) (by decide) rfl rfl (fun hc17 => absurd hc17 (by decide)) (fun hc17 => ?_)
  refine Go.newO (q := 23) hx hZ hown (tw hw 6 rfl) (tw hw 7 rfl) (tw hw 8 rfl) (hb hby d0_20) rfl (ce' := 1) (sl' := 4) rfl rfl (by decide) (by decide) (fun h1265 a1266 g1267 E1268 A1269 D1270 => ?_)
  have gz1271 : n0 ≤ a1266 := by rw [g1267]; exact Z0
  have gk1272 : h0.size ≤ a1266 := by rw [g1267]; exact (Keep.refl h0 []).1
  refine Go.dup (q := 24) hx (hb hby d0_23) rfl rfl ?_
  refine Go.iconst (q := 25) (z := (1 : Int32)) hx (hb hby d0_24) rfl rfl ?_
  refine Go.newP (q := 27) (cap := 1) hx hZ (tw hw 9 rfl) (by decide) (by decide) (hb hby d0_25) rfl (by decide) (ce' := 2) (sl' := 5) rfl rfl (by decide) (by decide) (fun h1273 a1274 k1275 g1276 E1277 A1278 => ?_)
  have ne1279 : a1266 ≠ a1274 := by rw [g1276]; exact Nat.ne_of_lt (A1269).lt
  have gz1280 : n0 ≤ a1274 := by rw [g1276]; exact (Nat.le_trans Z0 E1268.1)
  have gk1281 : h0.size ≤ a1274 := by rw [g1276]; exact ((Keep.refl h0 []).ext E1268).1
  have V1282 : Arv Z h1273 a1274 k1275 .char (1 : Int32) [(.int (0 : Int32))] (.int (0 : Int32)) := A1278.pad (pad_rep [] (.int (0 : Int32)) 1)
  refine Go.dup (q := 28) hx (hb hby d0_27) rfl rfl ?_
  refine Go.iconst (q := 29) (z := (0 : Int32)) hx (hb hby d0_28) rfl rfl ?_
  refine Go.iloadN (q := 30) hx (hb hby d0_29) rfl rfl ?_
  refine Go.castore (q := 31) hx hZ V1282 ⟨by decide, by decide⟩ 0 rfl (ble rfl) gz1280 (by simp) (hb hby d0_30) rfl (fun h1283 W1284 V1285 => ?_)
  have V1286 : Arv Z h1283 a1274 k1275 .char (1 : Int32) [.int c0] (.int (0 : Int32)) := by have V := V1285; rw [nar_chr hq0] at V; exact V
  rcases lu1 c0 with hp0 | hU
  · skip
    refine Go.callI (q := 34) hx hZ (a := a1266) (argsL := [(.ref a1274)]) (rest := [(.ref a1266)]) hown rfl (tw hw 10 rfl) (tw hw 11 rfl) (tw hw 8 rfl) (tw hw 12 rfl) (by decide) (rmI1 l Z a0 hw hel a1266 a1274 k1275 cst c0 h1283 n0 (Nat.le_trans (Nat.le_trans (Nat.le_trans Z0 E1268.1) E1277.1) (Keep.of_wr W1284).1) gz1271 ne1279.symm (Exa.wr W1284 (Exa.ext E1277 A1269)) (Fld.other W1284 (Fld.ext E1277 (D1270 (Or.inr (tw hw 22 rfl)) (ty := (.array .byte)) (by decide))) (Or.inl ne1279)) (Fld.other W1284 (Fld.ext E1277 (D1270 (Or.inr (tw hw 23 rfl)) (ty := .byte) (by decide))) (Or.inl ne1279)) V1286 hp0 (((X0.ext E1268).ext E1277).wr W1284 gz1280) SC hcs) (by simp) (by rw [hml]; rfl) pd_17 rfl rfl (hb hby d0_31) rfl (by decide) (ble rfl) (ce' := 3) (sl' := 6) rfl rfl (by decide) (by decide) (fun v1287 h1288 hQ1289 => ?_)
    have lt1291 := ((Exa.wr W1284 (Exa.ext E1277 A1269))).lt
    have lt1292 := (V1286).lt
    obtain ⟨rfl, K1290, b1293, k1294, g1295, F1296, F1297, V1298⟩ := hQ1289
    have ne1299 : a1266 ≠ b1293 := Nat.ne_of_lt (Nat.lt_of_lt_of_le lt1291 g1295)
    have ne1300 : a1274 ≠ b1293 := Nat.ne_of_lt (Nat.lt_of_lt_of_le lt1292 g1295)
    show Go _ _ _ _ _ _ _ _ _ _ _ _ _ _ _ _ _ _ _ _ 3 6 34 #[.val (.int (1 : Int32)), .val (.int c0), .val (.int c1), .val (.int c2), .val (.int c3)] [(.ref a1266)]
    refine Go.retA hx hret rfl (by rfl) hlk (hb hby d0_34) (by decide) (by decide) ?_
    exact ⟨a1266, rfl, (Keep.trans ((((Keep.refl h0 []).ext E1268).ext E1277).wr W1284 (Or.inr gk1281)) K1290 (allS (Or.inr gk1272) all0)), ((Exa.wr W1284 (Exa.ext E1277 A1269)).keep K1290), b1293, k1294, F1296, Or.inl ⟨hp0, F1297, V1298⟩⟩
  · skip
    refine Go.callI (q := 34) hx hZ (a := a1266) (argsL := [(.ref a1274)]) (rest := [(.ref a1266)]) hown rfl (tw hw 10 rfl) (tw hw 11 rfl) (tw hw 8 rfl) (tw hw 12 rfl) (by decide) (rmIU1 l Z a0 hw hel a1266 a1274 k1275 cst c0 h1283 n0 (Nat.le_trans (Nat.le_trans (Nat.le_trans Z0 E1268.1) E1277.1) (Keep.of_wr W1284).1) gz1271 ne1279.symm (Exa.wr W1284 (Exa.ext E1277 A1269)) (Fld.other W1284 (Fld.ext E1277 (D1270 (Or.inr (tw hw 22 rfl)) (ty := (.array .byte)) (by decide))) (Or.inl ne1279)) (Fld.other W1284 (Fld.ext E1277 (D1270 (Or.inr (tw hw 23 rfl)) (ty := .byte) (by decide))) (Or.inl ne1279)) V1286 hq0 hU (((X0.ext E1268).ext E1277).wr W1284 gz1280) SC hcs AD HB LB) (by simp) (by rw [hml]; rfl) pd_17 rfl rfl (hb hby d0_31) rfl (by decide) (ble rfl) (ce' := 4) (sl' := 8) rfl rfl (by decide) (by decide) (fun v1301 h1302 hQ1303 => ?_)
    obtain ⟨rfl, K1304, b1305, k1306, g1307, F1308, F1309, V1310⟩ := hQ1303
    show Go _ _ _ _ _ _ _ _ _ _ _ _ _ _ _ _ _ _ _ _ 4 8 34 #[.val (.int (1 : Int32)), .val (.int c0), .val (.int c1), .val (.int c2), .val (.int c3)] [(.ref a1266)]
    refine Go.retA hx hret rfl (by rfl) hlk (hb hby d0_34) (by decide) (by decide) ?_
    exact ⟨a1266, rfl, (Keep.trans ((((Keep.refl h0 []).ext E1268).ext E1277).wr W1284 (Or.inr gk1281)) K1304 (allS (Or.inr gk1272) all0)), ((Exa.wr W1284 (Exa.ext E1277 A1269)).keep K1304), b1305, k1306, F1308, Or.inr ⟨F1309, V1310⟩⟩
theorem rmM2 (l : Launch) (Z : State) (a0 : Array Value) (hw : ∀ d ∈ tables_1, d.before a0 Z = true) (hel : EW Z a0 consts_1) (cst c0 c1 c2 c3 : Int32) (h0 : Heap) (n0 : Nat) (Z0 : n0 ≤ h0.size) (hq0 : Chr c0) (hq1 : Chr c1) (X0 : Old Z n0 h0) (SC : Sta Z Z.heap "java/lang/String" "COMPACT_STRINGS" "Z" (.int cst)) (hcs : ¬ cst = (0 : Int32)) (AD : Sta Z Z.heap "java/lang/StringUTF16" "$assertionsDisabled" "Z" (.int (1 : Int32))) (HB : Sta Z Z.heap "java/lang/StringUTF16" "HI_BYTE_SHIFT" "I" (.int (0 : Int32))) (LB : Sta Z Z.heap "java/lang/StringUTF16" "LO_BYTE_SHIFT" "I" (.int (8 : Int32))) :
    Met l Z consts_1 [] (⟨"com/example/epithet/epithet/store/MappedTableIsAsciiPinLaw", "make", "(ICCCC)Ljava/lang/String;"⟩ : MethodName) method_3_code 5 (Option.some (FieldType.object "java/lang/String")) [] ({ frames := 6, cells := 4, slots := 20, locals := 123 } : Room) #[(.int (2 : Int32)), (.int c0), (.int c1), (.int c2), (.int c3)] h0 n0 (fun v h => ∃ sa, v = some (.ref sa) ∧ Keep h0 h [] ∧ Str2 Z h sa c0 c1) := by
  refine Met.of (Ls0 := #[.val (.int (2 : Int32)), .val (.int c0), .val (.int c1), .val (.int c2), .val (.int c3)]) pl_21 (by first | (simp [argsToLocals, Value.category]; done) | rfl) hel ?_
  intro p e s m below meth c hx hby hml hret hlk hown hnm hZ
  refine Go.iloadN (q := 1) hx (hb hby d0_0) rfl rfl ?_
  refine Go.if_ne (q := 4) (t := 15) hx (hb hby d0_1) (by decide) rfl rfl (fun hc1 => ?_) (fun hc1 => absurd hc1 (by decide))
  refine Go.iloadN (q := 16) hx (hb hby d0_15) rfl rfl ?_
  refine Go.iconst (q := 17) (z := (1 : Int32)) hx (hb hby d0_16) rfl rfl ?_
  refine Go.icmp_ne (q := 20) (t := 35) hx (hb hby d0_17) (by decide) rfl rfl (fun hc17 => ?_) (fun hc17 => absurd hc17 (by decide))
  refine Go.iloadN (q := 36) hx (hb hby d0_35) rfl rfl ?_
  refine Go.iconst (q := 37) (z := (2 : Int32)) hx (hb hby d0_36) rfl rfl ?_
  refine Go.icmp_ne (q := 40) (t := 59) hx (hb hby d0_37) (by decide) rfl rfl (fun hc37 => absurd hc37 (by decide)) (fun hc37 => ?_)
  refine Go.newO (q := 43) hx hZ hown (tw hw 6 rfl) (tw hw 7 rfl) (tw hw 8 rfl) (hb hby d0_40) rfl (ce' := 1) (sl' := 4) rfl rfl (by decide) (by decide) (fun h1311 a1312 g1313 E1314 A1315 D1316 => ?_)
  have gz1317 : n0 ≤ a1312 := by rw [g1313]; exact Z0
  have gk1318 : h0.size ≤ a1312 := by rw [g1313]; exact (Keep.refl h0 []).1
  refine Go.dup (q := 44) hx (hb hby d0_43) rfl rfl ?_
  refine Go.iconst (q := 45) (z := (2 : Int32)) hx (hb hby d0_44) rfl rfl ?_
  refine Go.newP (q := 47) (cap := 2) hx hZ (tw hw 9 rfl) (by decide) (by decide) (hb hby d0_45) rfl (by decide) (ce' := 2) (sl' := 6) rfl rfl (by decide) (by decide) (fun h1319 a1320 k1321 g1322 E1323 A1324 => ?_)
  have ne1325 : a1312 ≠ a1320 := by rw [g1322]; exact Nat.ne_of_lt (A1315).lt
  have gz1326 : n0 ≤ a1320 := by rw [g1322]; exact (Nat.le_trans Z0 E1314.1)
  have gk1327 : h0.size ≤ a1320 := by rw [g1322]; exact ((Keep.refl h0 []).ext E1314).1
  have V1328 : Arv Z h1319 a1320 k1321 .char (2 : Int32) [(.int (0 : Int32)), (.int (0 : Int32))] (.int (0 : Int32)) := A1324.pad (pad_rep [] (.int (0 : Int32)) 2)
  refine Go.dup (q := 48) hx (hb hby d0_47) rfl rfl ?_
  refine Go.iconst (q := 49) (z := (0 : Int32)) hx (hb hby d0_48) rfl rfl ?_
  refine Go.iloadN (q := 50) hx (hb hby d0_49) rfl rfl ?_
  refine Go.castore (q := 51) hx hZ V1328 ⟨by decide, by decide⟩ 0 rfl (ble rfl) gz1326 (by simp) (hb hby d0_50) rfl (fun h1329 W1330 V1331 => ?_)
  refine Go.dup (q := 52) hx (hb hby d0_51) rfl rfl ?_
  refine Go.iconst (q := 53) (z := (1 : Int32)) hx (hb hby d0_52) rfl rfl ?_
  refine Go.iloadN (q := 54) hx (hb hby d0_53) rfl rfl ?_
  refine Go.castore (q := 55) hx hZ V1331 ⟨by decide, by decide⟩ 1 rfl (ble rfl) gz1326 (by simp) (hb hby d0_54) rfl (fun h1332 W1333 V1334 => ?_)
  have V1335 : Arv Z h1332 a1320 k1321 .char (2 : Int32) [.int c0, .int c1] (.int (0 : Int32)) := by have V := V1334; rw [nar_chr hq0, nar_chr hq1] at V; exact V
  rcases lu2 c0 c1 with ⟨hp0, hp1⟩ | hU
  · skip
    refine Go.callI (q := 58) hx hZ (a := a1312) (argsL := [(.ref a1320)]) (rest := [(.ref a1312)]) hown rfl (tw hw 10 rfl) (tw hw 11 rfl) (tw hw 8 rfl) (tw hw 12 rfl) (by decide) (rmI2 l Z a0 hw hel a1312 a1320 k1321 cst c0 c1 h1332 n0 (Nat.le_trans (Nat.le_trans (Nat.le_trans (Nat.le_trans Z0 E1314.1) E1323.1) (Keep.of_wr W1330).1) (Keep.of_wr W1333).1) gz1317 ne1325.symm (Exa.wr W1333 (Exa.wr W1330 (Exa.ext E1323 A1315))) (Fld.other W1333 (Fld.other W1330 (Fld.ext E1323 (D1316 (Or.inr (tw hw 22 rfl)) (ty := (.array .byte)) (by decide))) (Or.inl ne1325)) (Or.inl ne1325)) (Fld.other W1333 (Fld.other W1330 (Fld.ext E1323 (D1316 (Or.inr (tw hw 23 rfl)) (ty := .byte) (by decide))) (Or.inl ne1325)) (Or.inl ne1325)) V1335 hp0 hp1 ((((X0.ext E1314).ext E1323).wr W1330 gz1326).wr W1333 gz1326) SC hcs) (by simp) (by rw [hml]; rfl) pd_17 rfl rfl (hb hby d0_55) rfl (by decide) (ble rfl) (ce' := 3) (sl' := 8) rfl rfl (by decide) (by decide) (fun v1336 h1337 hQ1338 => ?_)
    have lt1340 := ((Exa.wr W1333 (Exa.wr W1330 (Exa.ext E1323 A1315)))).lt
    have lt1341 := (V1335).lt
    obtain ⟨rfl, K1339, b1342, k1343, g1344, F1345, F1346, V1347⟩ := hQ1338
    have ne1348 : a1312 ≠ b1342 := Nat.ne_of_lt (Nat.lt_of_lt_of_le lt1340 g1344)
    have ne1349 : a1320 ≠ b1342 := Nat.ne_of_lt (Nat.lt_of_lt_of_le lt1341 g1344)
    show Go _ _ _ _ _ _ _ _ _ _ _ _ _ _ _ _ _ _ _ _ 3 8 58 #[.val (.int (2 : Int32)), .val (.int c0), .val (.int c1), .val (.int c2), .val (.int c3)] [(.ref a1312)]
    refine Go.retA hx hret rfl (by rfl) hlk (hb hby d0_58) (by decide) (by decide) ?_
    exact ⟨a1312, rfl, (Keep.trans (((((Keep.refl h0 []).ext E1314).ext E1323).wr W1330 (Or.inr gk1327)).wr W1333 (Or.inr gk1327)) K1339 (allS (Or.inr gk1318) all0)), ((Exa.wr W1333 (Exa.wr W1330 (Exa.ext E1323 A1315))).keep K1339), b1342, k1343, F1345, Or.inl ⟨hp0, hp1, F1346, V1347⟩⟩
  · skip
    refine Go.callI (q := 58) hx hZ (a := a1312) (argsL := [(.ref a1320)]) (rest := [(.ref a1312)]) hown rfl (tw hw 10 rfl) (tw hw 11 rfl) (tw hw 8 rfl) (tw hw 12 rfl) (by decide) (rmIU2 l Z a0 hw hel a1312 a1320 k1321 cst c0 c1 h1332 n0 (Nat.le_trans (Nat.le_trans (Nat.le_trans (Nat.le_trans Z0 E1314.1) E1323.1) (Keep.of_wr W1330).1) (Keep.of_wr W1333).1) gz1317 ne1325.symm (Exa.wr W1333 (Exa.wr W1330 (Exa.ext E1323 A1315))) (Fld.other W1333 (Fld.other W1330 (Fld.ext E1323 (D1316 (Or.inr (tw hw 22 rfl)) (ty := (.array .byte)) (by decide))) (Or.inl ne1325)) (Or.inl ne1325)) (Fld.other W1333 (Fld.other W1330 (Fld.ext E1323 (D1316 (Or.inr (tw hw 23 rfl)) (ty := .byte) (by decide))) (Or.inl ne1325)) (Or.inl ne1325)) V1335 hq0 hq1 hU ((((X0.ext E1314).ext E1323).wr W1330 gz1326).wr W1333 gz1326) SC hcs AD HB LB) (by simp) (by rw [hml]; rfl) pd_17 rfl rfl (hb hby d0_55) rfl (by decide) (ble rfl) (ce' := 4) (sl' := 12) rfl rfl (by decide) (by decide) (fun v1350 h1351 hQ1352 => ?_)
    obtain ⟨rfl, K1353, b1354, k1355, g1356, F1357, F1358, V1359⟩ := hQ1352
    show Go _ _ _ _ _ _ _ _ _ _ _ _ _ _ _ _ _ _ _ _ 4 12 58 #[.val (.int (2 : Int32)), .val (.int c0), .val (.int c1), .val (.int c2), .val (.int c3)] [(.ref a1312)]
    refine Go.retA hx hret rfl (by rfl) hlk (hb hby d0_58) (by decide) (by decide) ?_
    exact ⟨a1312, rfl, (Keep.trans (((((Keep.refl h0 []).ext E1314).ext E1323).wr W1330 (Or.inr gk1327)).wr W1333 (Or.inr gk1327)) K1353 (allS (Or.inr gk1318) all0)), ((Exa.wr W1333 (Exa.wr W1330 (Exa.ext E1323 A1315))).keep K1353), b1354, k1355, F1357, Or.inr ⟨F1358, V1359⟩⟩
theorem rmM3 (l : Launch) (Z : State) (a0 : Array Value) (hw : ∀ d ∈ tables_1, d.before a0 Z = true) (hel : EW Z a0 consts_1) (cst c0 c1 c2 c3 : Int32) (h0 : Heap) (n0 : Nat) (Z0 : n0 ≤ h0.size) (hq0 : Chr c0) (hq1 : Chr c1) (hq2 : Chr c2) (X0 : Old Z n0 h0) (SC : Sta Z Z.heap "java/lang/String" "COMPACT_STRINGS" "Z" (.int cst)) (hcs : ¬ cst = (0 : Int32)) (AD : Sta Z Z.heap "java/lang/StringUTF16" "$assertionsDisabled" "Z" (.int (1 : Int32))) (HB : Sta Z Z.heap "java/lang/StringUTF16" "HI_BYTE_SHIFT" "I" (.int (0 : Int32))) (LB : Sta Z Z.heap "java/lang/StringUTF16" "LO_BYTE_SHIFT" "I" (.int (8 : Int32))) :
    Met l Z consts_1 [] (⟨"com/example/epithet/epithet/store/MappedTableIsAsciiPinLaw", "make", "(ICCCC)Ljava/lang/String;"⟩ : MethodName) method_3_code 5 (Option.some (FieldType.object "java/lang/String")) [] ({ frames := 6, cells := 4, slots := 20, locals := 123 } : Room) #[(.int (3 : Int32)), (.int c0), (.int c1), (.int c2), (.int c3)] h0 n0 (fun v h => ∃ sa, v = some (.ref sa) ∧ Keep h0 h [] ∧ Str3 Z h sa c0 c1 c2) := by
  refine Met.of (Ls0 := #[.val (.int (3 : Int32)), .val (.int c0), .val (.int c1), .val (.int c2), .val (.int c3)]) pl_21 (by first | (simp [argsToLocals, Value.category]; done) | rfl) hel ?_
  intro p e s m below meth c hx hby hml hret hlk hown hnm hZ
  refine Go.iloadN (q := 1) hx (hb hby d0_0) rfl rfl ?_
  refine Go.if_ne (q := 4) (t := 15) hx (hb hby d0_1) (by decide) rfl rfl (fun hc1 => ?_) (fun hc1 => absurd hc1 (by decide))
  refine Go.iloadN (q := 16) hx (hb hby d0_15) rfl rfl ?_
  refine Go.iconst (q := 17) (z := (1 : Int32)) hx (hb hby d0_16) rfl rfl ?_
  refine Go.icmp_ne (q := 20) (t := 35) hx (hb hby d0_17) (by decide) rfl rfl (fun hc17 => ?_) (fun hc17 => absurd hc17 (by decide))
  refine Go.iloadN (q := 36) hx (hb hby d0_35) rfl rfl ?_
  refine Go.iconst (q := 37) (z := (2 : Int32)) hx (hb hby d0_36) rfl rfl ?_
  refine Go.icmp_ne (q := 40) (t := 59) hx (hb hby d0_37) (by decide) rfl rfl (fun hc37 => ?_) (fun hc37 => absurd hc37 (by decide))
  refine Go.iloadN (q := 60) hx (hb hby d0_59) rfl rfl ?_
  refine Go.iconst (q := 61) (z := (3 : Int32)) hx (hb hby d0_60) rfl rfl ?_
  refine Go.icmp_ne (q := 64) (t := 87) hx (hb hby d0_61) (by decide) rfl rfl (fun hc61 => absurd hc61 (by decide)) (fun hc61 => ?_)
  refine Go.newO (q := 67) hx hZ hown (tw hw 6 rfl) (tw hw 7 rfl) (tw hw 8 rfl) (hb hby d0_64) rfl (ce' := 1) (sl' := 4) rfl rfl (by decide) (by decide) (fun h1360 a1361 g1362 E1363 A1364 D1365 => ?_)
  have gz1366 : n0 ≤ a1361 := by rw [g1362]; exact Z0
  have gk1367 : h0.size ≤ a1361 := by rw [g1362]; exact (Keep.refl h0 []).1
  refine Go.dup (q := 68) hx (hb hby d0_67) rfl rfl ?_
  refine Go.iconst (q := 69) (z := (3 : Int32)) hx (hb hby d0_68) rfl rfl ?_
  refine Go.newP (q := 71) (cap := 3) hx hZ (tw hw 9 rfl) (by decide) (by decide) (hb hby d0_69) rfl (by decide) (ce' := 2) (sl' := 7) rfl rfl (by decide) (by decide) (fun h1368 a1369 k1370 g1371 E1372 A1373 => ?_)
  have ne1374 : a1361 ≠ a1369 := by rw [g1371]; exact Nat.ne_of_lt (A1364).lt
  have gz1375 : n0 ≤ a1369 := by rw [g1371]; exact (Nat.le_trans Z0 E1363.1)
  have gk1376 : h0.size ≤ a1369 := by rw [g1371]; exact ((Keep.refl h0 []).ext E1363).1
  have V1377 : Arv Z h1368 a1369 k1370 .char (3 : Int32) [(.int (0 : Int32)), (.int (0 : Int32)), (.int (0 : Int32))] (.int (0 : Int32)) := A1373.pad (pad_rep [] (.int (0 : Int32)) 3)
  refine Go.dup (q := 72) hx (hb hby d0_71) rfl rfl ?_
  refine Go.iconst (q := 73) (z := (0 : Int32)) hx (hb hby d0_72) rfl rfl ?_
  refine Go.iloadN (q := 74) hx (hb hby d0_73) rfl rfl ?_
  refine Go.castore (q := 75) hx hZ V1377 ⟨by decide, by decide⟩ 0 rfl (ble rfl) gz1375 (by simp) (hb hby d0_74) rfl (fun h1378 W1379 V1380 => ?_)
  refine Go.dup (q := 76) hx (hb hby d0_75) rfl rfl ?_
  refine Go.iconst (q := 77) (z := (1 : Int32)) hx (hb hby d0_76) rfl rfl ?_
  refine Go.iloadN (q := 78) hx (hb hby d0_77) rfl rfl ?_
  refine Go.castore (q := 79) hx hZ V1380 ⟨by decide, by decide⟩ 1 rfl (ble rfl) gz1375 (by simp) (hb hby d0_78) rfl (fun h1381 W1382 V1383 => ?_)
  refine Go.dup (q := 80) hx (hb hby d0_79) rfl rfl ?_
  refine Go.iconst (q := 81) (z := (2 : Int32)) hx (hb hby d0_80) rfl rfl ?_
  refine Go.iloadN (q := 82) hx (hb hby d0_81) rfl rfl ?_
  refine Go.castore (q := 83) hx hZ V1383 ⟨by decide, by decide⟩ 2 rfl (ble rfl) gz1375 (by simp) (hb hby d0_82) rfl (fun h1384 W1385 V1386 => ?_)
  have V1387 : Arv Z h1384 a1369 k1370 .char (3 : Int32) [.int c0, .int c1, .int c2] (.int (0 : Int32)) := by have V := V1386; rw [nar_chr hq0, nar_chr hq1, nar_chr hq2] at V; exact V
  rcases lu3 c0 c1 c2 with ⟨hp0, hp1, hp2⟩ | hU
  · skip
    refine Go.callI (q := 86) hx hZ (a := a1361) (argsL := [(.ref a1369)]) (rest := [(.ref a1361)]) hown rfl (tw hw 10 rfl) (tw hw 11 rfl) (tw hw 8 rfl) (tw hw 12 rfl) (by decide) (rmI3 l Z a0 hw hel a1361 a1369 k1370 cst c0 c1 c2 h1384 n0 (Nat.le_trans (Nat.le_trans (Nat.le_trans (Nat.le_trans (Nat.le_trans Z0 E1363.1) E1372.1) (Keep.of_wr W1379).1) (Keep.of_wr W1382).1) (Keep.of_wr W1385).1) gz1366 ne1374.symm (Exa.wr W1385 (Exa.wr W1382 (Exa.wr W1379 (Exa.ext E1372 A1364)))) (Fld.other W1385 (Fld.other W1382 (Fld.other W1379 (Fld.ext E1372 (D1365 (Or.inr (tw hw 22 rfl)) (ty := (.array .byte)) (by decide))) (Or.inl ne1374)) (Or.inl ne1374)) (Or.inl ne1374)) (Fld.other W1385 (Fld.other W1382 (Fld.other W1379 (Fld.ext E1372 (D1365 (Or.inr (tw hw 23 rfl)) (ty := .byte) (by decide))) (Or.inl ne1374)) (Or.inl ne1374)) (Or.inl ne1374)) V1387 hp0 hp1 hp2 (((((X0.ext E1363).ext E1372).wr W1379 gz1375).wr W1382 gz1375).wr W1385 gz1375) SC hcs) (by simp) (by rw [hml]; rfl) pd_17 rfl rfl (hb hby d0_83) rfl (by decide) (ble rfl) (ce' := 3) (sl' := 10) rfl rfl (by decide) (by decide) (fun v1388 h1389 hQ1390 => ?_)
    have lt1392 := ((Exa.wr W1385 (Exa.wr W1382 (Exa.wr W1379 (Exa.ext E1372 A1364))))).lt
    have lt1393 := (V1387).lt
    obtain ⟨rfl, K1391, b1394, k1395, g1396, F1397, F1398, V1399⟩ := hQ1390
    have ne1400 : a1361 ≠ b1394 := Nat.ne_of_lt (Nat.lt_of_lt_of_le lt1392 g1396)
    have ne1401 : a1369 ≠ b1394 := Nat.ne_of_lt (Nat.lt_of_lt_of_le lt1393 g1396)
    show Go _ _ _ _ _ _ _ _ _ _ _ _ _ _ _ _ _ _ _ _ 3 10 86 #[.val (.int (3 : Int32)), .val (.int c0), .val (.int c1), .val (.int c2), .val (.int c3)] [(.ref a1361)]
    refine Go.retA hx hret rfl (by rfl) hlk (hb hby d0_86) (by decide) (by decide) ?_
    exact ⟨a1361, rfl, (Keep.trans ((((((Keep.refl h0 []).ext E1363).ext E1372).wr W1379 (Or.inr gk1376)).wr W1382 (Or.inr gk1376)).wr W1385 (Or.inr gk1376)) K1391 (allS (Or.inr gk1367) all0)), ((Exa.wr W1385 (Exa.wr W1382 (Exa.wr W1379 (Exa.ext E1372 A1364)))).keep K1391), b1394, k1395, F1397, Or.inl ⟨hp0, hp1, hp2, F1398, V1399⟩⟩
  · skip
    refine Go.callI (q := 86) hx hZ (a := a1361) (argsL := [(.ref a1369)]) (rest := [(.ref a1361)]) hown rfl (tw hw 10 rfl) (tw hw 11 rfl) (tw hw 8 rfl) (tw hw 12 rfl) (by decide) (rmIU3 l Z a0 hw hel a1361 a1369 k1370 cst c0 c1 c2 h1384 n0 (Nat.le_trans (Nat.le_trans (Nat.le_trans (Nat.le_trans (Nat.le_trans Z0 E1363.1) E1372.1) (Keep.of_wr W1379).1) (Keep.of_wr W1382).1) (Keep.of_wr W1385).1) gz1366 ne1374.symm (Exa.wr W1385 (Exa.wr W1382 (Exa.wr W1379 (Exa.ext E1372 A1364)))) (Fld.other W1385 (Fld.other W1382 (Fld.other W1379 (Fld.ext E1372 (D1365 (Or.inr (tw hw 22 rfl)) (ty := (.array .byte)) (by decide))) (Or.inl ne1374)) (Or.inl ne1374)) (Or.inl ne1374)) (Fld.other W1385 (Fld.other W1382 (Fld.other W1379 (Fld.ext E1372 (D1365 (Or.inr (tw hw 23 rfl)) (ty := .byte) (by decide))) (Or.inl ne1374)) (Or.inl ne1374)) (Or.inl ne1374)) V1387 hq0 hq1 hq2 hU (((((X0.ext E1363).ext E1372).wr W1379 gz1375).wr W1382 gz1375).wr W1385 gz1375) SC hcs AD HB LB) (by simp) (by rw [hml]; rfl) pd_17 rfl rfl (hb hby d0_83) rfl (by decide) (ble rfl) (ce' := 4) (sl' := 16) rfl rfl (by decide) (by decide) (fun v1402 h1403 hQ1404 => ?_)
    obtain ⟨rfl, K1405, b1406, k1407, g1408, F1409, F1410, V1411⟩ := hQ1404
    show Go _ _ _ _ _ _ _ _ _ _ _ _ _ _ _ _ _ _ _ _ 4 16 86 #[.val (.int (3 : Int32)), .val (.int c0), .val (.int c1), .val (.int c2), .val (.int c3)] [(.ref a1361)]
    refine Go.retA hx hret rfl (by rfl) hlk (hb hby d0_86) (by decide) (by decide) ?_
    exact ⟨a1361, rfl, (Keep.trans ((((((Keep.refl h0 []).ext E1363).ext E1372).wr W1379 (Or.inr gk1376)).wr W1382 (Or.inr gk1376)).wr W1385 (Or.inr gk1376)) K1405 (allS (Or.inr gk1367) all0)), ((Exa.wr W1385 (Exa.wr W1382 (Exa.wr W1379 (Exa.ext E1372 A1364)))).keep K1405), b1406, k1407, F1409, Or.inr ⟨F1410, V1411⟩⟩
theorem rmM4 (l : Launch) (Z : State) (a0 : Array Value) (hw : ∀ d ∈ tables_1, d.before a0 Z = true) (hel : EW Z a0 consts_1) (cst c0 c1 c2 c3 : Int32) (h0 : Heap) (n0 : Nat) (Z0 : n0 ≤ h0.size) (hq0 : Chr c0) (hq1 : Chr c1) (hq2 : Chr c2) (hq3 : Chr c3) (X0 : Old Z n0 h0) (SC : Sta Z Z.heap "java/lang/String" "COMPACT_STRINGS" "Z" (.int cst)) (hcs : ¬ cst = (0 : Int32)) (AD : Sta Z Z.heap "java/lang/StringUTF16" "$assertionsDisabled" "Z" (.int (1 : Int32))) (HB : Sta Z Z.heap "java/lang/StringUTF16" "HI_BYTE_SHIFT" "I" (.int (0 : Int32))) (LB : Sta Z Z.heap "java/lang/StringUTF16" "LO_BYTE_SHIFT" "I" (.int (8 : Int32))) :
    Met l Z consts_1 [] (⟨"com/example/epithet/epithet/store/MappedTableIsAsciiPinLaw", "make", "(ICCCC)Ljava/lang/String;"⟩ : MethodName) method_3_code 5 (Option.some (FieldType.object "java/lang/String")) [] ({ frames := 6, cells := 4, slots := 20, locals := 123 } : Room) #[(.int (4 : Int32)), (.int c0), (.int c1), (.int c2), (.int c3)] h0 n0 (fun v h => ∃ sa, v = some (.ref sa) ∧ Keep h0 h [] ∧ Str4 Z h sa c0 c1 c2 c3) := by
  refine Met.of (Ls0 := #[.val (.int (4 : Int32)), .val (.int c0), .val (.int c1), .val (.int c2), .val (.int c3)]) pl_21 (by first | (simp [argsToLocals, Value.category]; done) | rfl) hel ?_
  intro p e s m below meth c hx hby hml hret hlk hown hnm hZ
  refine Go.iloadN (q := 1) hx (hb hby d0_0) rfl rfl ?_
  refine Go.if_ne (q := 4) (t := 15) hx (hb hby d0_1) (by decide) rfl rfl (fun hc1 => ?_) (fun hc1 => absurd hc1 (by decide))
  refine Go.iloadN (q := 16) hx (hb hby d0_15) rfl rfl ?_
  refine Go.iconst (q := 17) (z := (1 : Int32)) hx (hb hby d0_16) rfl rfl ?_
  refine Go.icmp_ne (q := 20) (t := 35) hx (hb hby d0_17) (by decide) rfl rfl (fun hc17 => ?_) (fun hc17 => absurd hc17 (by decide))
  refine Go.iloadN (q := 36) hx (hb hby d0_35) rfl rfl ?_
  refine Go.iconst (q := 37) (z := (2 : Int32)) hx (hb hby d0_36) rfl rfl ?_
  refine Go.icmp_ne (q := 40) (t := 59) hx (hb hby d0_37) (by decide) rfl rfl (fun hc37 => ?_) (fun hc37 => absurd hc37 (by decide))
  refine Go.iloadN (q := 60) hx (hb hby d0_59) rfl rfl ?_
  refine Go.iconst (q := 61) (z := (3 : Int32)) hx (hb hby d0_60) rfl rfl ?_
  refine Go.icmp_ne (q := 64) (t := 87) hx (hb hby d0_61) (by decide) rfl rfl (fun hc61 => ?_) (fun hc61 => absurd hc61 (by decide))
  refine Go.newO (q := 90) hx hZ hown (tw hw 6 rfl) (tw hw 7 rfl) (tw hw 8 rfl) (hb hby d0_87) rfl (ce' := 1) (sl' := 4) rfl rfl (by decide) (by decide) (fun h1412 a1413 g1414 E1415 A1416 D1417 => ?_)
  have gz1418 : n0 ≤ a1413 := by rw [g1414]; exact Z0
  have gk1419 : h0.size ≤ a1413 := by rw [g1414]; exact (Keep.refl h0 []).1
  refine Go.dup (q := 91) hx (hb hby d0_90) rfl rfl ?_
  refine Go.iconst (q := 92) (z := (4 : Int32)) hx (hb hby d0_91) rfl rfl ?_
  refine Go.newP (q := 94) (cap := 4) hx hZ (tw hw 9 rfl) (by decide) (by decide) (hb hby d0_92) rfl (by decide) (ce' := 2) (sl' := 8) rfl rfl (by decide) (by decide) (fun h1420 a1421 k1422 g1423 E1424 A1425 => ?_)
  have ne1426 : a1413 ≠ a1421 := by rw [g1423]; exact Nat.ne_of_lt (A1416).lt
  have gz1427 : n0 ≤ a1421 := by rw [g1423]; exact (Nat.le_trans Z0 E1415.1)
  have gk1428 : h0.size ≤ a1421 := by rw [g1423]; exact ((Keep.refl h0 []).ext E1415).1
  have V1429 : Arv Z h1420 a1421 k1422 .char (4 : Int32) [(.int (0 : Int32)), (.int (0 : Int32)), (.int (0 : Int32)), (.int (0 : Int32))] (.int (0 : Int32)) := A1425.pad (pad_rep [] (.int (0 : Int32)) 4)
  refine Go.dup (q := 95) hx (hb hby d0_94) rfl rfl ?_
  refine Go.iconst (q := 96) (z := (0 : Int32)) hx (hb hby d0_95) rfl rfl ?_
  refine Go.iloadN (q := 97) hx (hb hby d0_96) rfl rfl ?_
  refine Go.castore (q := 98) hx hZ V1429 ⟨by decide, by decide⟩ 0 rfl (ble rfl) gz1427 (by simp) (hb hby d0_97) rfl (fun h1430 W1431 V1432 => ?_)
  refine Go.dup (q := 99) hx (hb hby d0_98) rfl rfl ?_
  refine Go.iconst (q := 100) (z := (1 : Int32)) hx (hb hby d0_99) rfl rfl ?_
  refine Go.iloadN (q := 101) hx (hb hby d0_100) rfl rfl ?_
  refine Go.castore (q := 102) hx hZ V1432 ⟨by decide, by decide⟩ 1 rfl (ble rfl) gz1427 (by simp) (hb hby d0_101) rfl (fun h1433 W1434 V1435 => ?_)
  refine Go.dup (q := 103) hx (hb hby d0_102) rfl rfl ?_
  refine Go.iconst (q := 104) (z := (2 : Int32)) hx (hb hby d0_103) rfl rfl ?_
  refine Go.iloadN (q := 105) hx (hb hby d0_104) rfl rfl ?_
  refine Go.castore (q := 106) hx hZ V1435 ⟨by decide, by decide⟩ 2 rfl (ble rfl) gz1427 (by simp) (hb hby d0_105) rfl (fun h1436 W1437 V1438 => ?_)
  refine Go.dup (q := 107) hx (hb hby d0_106) rfl rfl ?_
  refine Go.iconst (q := 108) (z := (3 : Int32)) hx (hb hby d0_107) rfl rfl ?_
  refine Go.iload (q := 110) hx (hb hby d0_108) rfl rfl ?_
  refine Go.castore (q := 111) hx hZ V1438 ⟨by decide, by decide⟩ 3 rfl (ble rfl) gz1427 (by simp) (hb hby d0_110) rfl (fun h1439 W1440 V1441 => ?_)
  have V1442 : Arv Z h1439 a1421 k1422 .char (4 : Int32) [.int c0, .int c1, .int c2, .int c3] (.int (0 : Int32)) := by have V := V1441; rw [nar_chr hq0, nar_chr hq1, nar_chr hq2, nar_chr hq3] at V; exact V
  rcases lu4 c0 c1 c2 c3 with ⟨hp0, hp1, hp2, hp3⟩ | hU
  · skip
    refine Go.callI (q := 114) hx hZ (a := a1413) (argsL := [(.ref a1421)]) (rest := [(.ref a1413)]) hown rfl (tw hw 10 rfl) (tw hw 11 rfl) (tw hw 8 rfl) (tw hw 12 rfl) (by decide) (rmI4 l Z a0 hw hel a1413 a1421 k1422 cst c0 c1 c2 c3 h1439 n0 (Nat.le_trans (Nat.le_trans (Nat.le_trans (Nat.le_trans (Nat.le_trans (Nat.le_trans Z0 E1415.1) E1424.1) (Keep.of_wr W1431).1) (Keep.of_wr W1434).1) (Keep.of_wr W1437).1) (Keep.of_wr W1440).1) gz1418 ne1426.symm (Exa.wr W1440 (Exa.wr W1437 (Exa.wr W1434 (Exa.wr W1431 (Exa.ext E1424 A1416))))) (Fld.other W1440 (Fld.other W1437 (Fld.other W1434 (Fld.other W1431 (Fld.ext E1424 (D1417 (Or.inr (tw hw 22 rfl)) (ty := (.array .byte)) (by decide))) (Or.inl ne1426)) (Or.inl ne1426)) (Or.inl ne1426)) (Or.inl ne1426)) (Fld.other W1440 (Fld.other W1437 (Fld.other W1434 (Fld.other W1431 (Fld.ext E1424 (D1417 (Or.inr (tw hw 23 rfl)) (ty := .byte) (by decide))) (Or.inl ne1426)) (Or.inl ne1426)) (Or.inl ne1426)) (Or.inl ne1426)) V1442 hp0 hp1 hp2 hp3 ((((((X0.ext E1415).ext E1424).wr W1431 gz1427).wr W1434 gz1427).wr W1437 gz1427).wr W1440 gz1427) SC hcs) (by simp) (by rw [hml]; rfl) pd_17 rfl rfl (hb hby d0_111) rfl (by decide) (ble rfl) (ce' := 3) (sl' := 12) rfl rfl (by decide) (by decide) (fun v1443 h1444 hQ1445 => ?_)
    have lt1447 := ((Exa.wr W1440 (Exa.wr W1437 (Exa.wr W1434 (Exa.wr W1431 (Exa.ext E1424 A1416)))))).lt
    have lt1448 := (V1442).lt
    obtain ⟨rfl, K1446, b1449, k1450, g1451, F1452, F1453, V1454⟩ := hQ1445
    have ne1455 : a1413 ≠ b1449 := Nat.ne_of_lt (Nat.lt_of_lt_of_le lt1447 g1451)
    have ne1456 : a1421 ≠ b1449 := Nat.ne_of_lt (Nat.lt_of_lt_of_le lt1448 g1451)
    show Go _ _ _ _ _ _ _ _ _ _ _ _ _ _ _ _ _ _ _ _ 3 12 114 #[.val (.int (4 : Int32)), .val (.int c0), .val (.int c1), .val (.int c2), .val (.int c3)] [(.ref a1413)]
    refine Go.retA hx hret rfl (by rfl) hlk (hb hby d0_114) (by decide) (by decide) ?_
    exact ⟨a1413, rfl, (Keep.trans (((((((Keep.refl h0 []).ext E1415).ext E1424).wr W1431 (Or.inr gk1428)).wr W1434 (Or.inr gk1428)).wr W1437 (Or.inr gk1428)).wr W1440 (Or.inr gk1428)) K1446 (allS (Or.inr gk1419) all0)), ((Exa.wr W1440 (Exa.wr W1437 (Exa.wr W1434 (Exa.wr W1431 (Exa.ext E1424 A1416))))).keep K1446), b1449, k1450, F1452, Or.inl ⟨hp0, hp1, hp2, hp3, F1453, V1454⟩⟩
  · skip
    refine Go.callI (q := 114) hx hZ (a := a1413) (argsL := [(.ref a1421)]) (rest := [(.ref a1413)]) hown rfl (tw hw 10 rfl) (tw hw 11 rfl) (tw hw 8 rfl) (tw hw 12 rfl) (by decide) (rmIU4 l Z a0 hw hel a1413 a1421 k1422 cst c0 c1 c2 c3 h1439 n0 (Nat.le_trans (Nat.le_trans (Nat.le_trans (Nat.le_trans (Nat.le_trans (Nat.le_trans Z0 E1415.1) E1424.1) (Keep.of_wr W1431).1) (Keep.of_wr W1434).1) (Keep.of_wr W1437).1) (Keep.of_wr W1440).1) gz1418 ne1426.symm (Exa.wr W1440 (Exa.wr W1437 (Exa.wr W1434 (Exa.wr W1431 (Exa.ext E1424 A1416))))) (Fld.other W1440 (Fld.other W1437 (Fld.other W1434 (Fld.other W1431 (Fld.ext E1424 (D1417 (Or.inr (tw hw 22 rfl)) (ty := (.array .byte)) (by decide))) (Or.inl ne1426)) (Or.inl ne1426)) (Or.inl ne1426)) (Or.inl ne1426)) (Fld.other W1440 (Fld.other W1437 (Fld.other W1434 (Fld.other W1431 (Fld.ext E1424 (D1417 (Or.inr (tw hw 23 rfl)) (ty := .byte) (by decide))) (Or.inl ne1426)) (Or.inl ne1426)) (Or.inl ne1426)) (Or.inl ne1426)) V1442 hq0 hq1 hq2 hq3 hU ((((((X0.ext E1415).ext E1424).wr W1431 gz1427).wr W1434 gz1427).wr W1437 gz1427).wr W1440 gz1427) SC hcs AD HB LB) (by simp) (by rw [hml]; rfl) pd_17 rfl rfl (hb hby d0_111) rfl (by decide) (ble rfl) (ce' := 4) (sl' := 20) rfl rfl (by decide) (by decide) (fun v1457 h1458 hQ1459 => ?_)
    obtain ⟨rfl, K1460, b1461, k1462, g1463, F1464, F1465, V1466⟩ := hQ1459
    show Go _ _ _ _ _ _ _ _ _ _ _ _ _ _ _ _ _ _ _ _ 4 20 114 #[.val (.int (4 : Int32)), .val (.int c0), .val (.int c1), .val (.int c2), .val (.int c3)] [(.ref a1413)]
    refine Go.retA hx hret rfl (by rfl) hlk (hb hby d0_114) (by decide) (by decide) ?_
    exact ⟨a1413, rfl, (Keep.trans (((((((Keep.refl h0 []).ext E1415).ext E1424).wr W1431 (Or.inr gk1428)).wr W1434 (Or.inr gk1428)).wr W1437 (Or.inr gk1428)).wr W1440 (Or.inr gk1428)) K1460 (allS (Or.inr gk1419) all0)), ((Exa.wr W1440 (Exa.wr W1437 (Exa.wr W1434 (Exa.wr W1431 (Exa.ext E1424 A1416))))).keep K1460), b1461, k1462, F1464, Or.inr ⟨F1465, V1466⟩⟩
theorem pl_22 : plainFor (⟨"com/example/epithet/epithet/store/MappedTableIsAsciiPinLaw", "law", "(IIIII)Z"⟩ : MethodName) = true := plainFor_of_name (by first | (simp [plainName, overriddenIn]; done) | decide +kernel)
theorem pd_18 : parseMethodDescriptor "(ICCCC)Ljava/lang/String;" = some ⟨[.int, .char, .char, .char, .char], some (.object "java/lang/String")⟩ := by decide +kernel
theorem pd_19 : parseMethodDescriptor "(Ljava/lang/String;)Z" = some ⟨[(.object "java/lang/String")], some .boolean⟩ := by decide +kernel
theorem rm0 (l : Launch) (Z : State) (a0 : Array Value) (hw : ∀ d ∈ tables_1, d.before a0 Z = true) (hel : EW Z a0 consts_1) (p1 p2 p3 p4 p5 cst : Int32) (fv : Value) (h0 : Heap) (n0 : Nat) (Z0 : n0 ≤ h0.size) (X0 : Old Z n0 h0) (SC : Sta Z Z.heap "java/lang/String" "COMPACT_STRINGS" "Z" (.int cst)) (hcs : ¬ cst = (0 : Int32)) (AD : Sta Z Z.heap "java/lang/StringUTF16" "$assertionsDisabled" "Z" (.int (1 : Int32))) (HB : Sta Z Z.heap "java/lang/StringUTF16" "HI_BYTE_SHIFT" "I" (.int (0 : Int32))) (LB : Sta Z Z.heap "java/lang/StringUTF16" "LO_BYTE_SHIFT" "I" (.int (8 : Int32))) (PF : Sta Z Z.heap "jdk/internal/util/Preconditions" "SIOOBE_FORMATTER" "Ljava/util/function/BiFunction;" fv) (hfv : fv.isRef = true) :
    Met l Z consts_1 [] x code maxLocals ret tables_1 room_1 #[(.int p1), (.int p2), (.int p3), (.int p4), (.int p5)] h0 n0 (fun v h => v = some (.int 1)) := by
  refine Met.of (Ls0 := #[.val (.int p1), .val (.int p2), .val (.int p3), .val (.int p4), .val (.int p5), .unset, .unset, .unset, .unset, .unset, .unset, .unset]) pl_22 (by first | (simp [argsToLocals, Value.category, maxLocals]; done) | rfl) hel ?_
  have hSA : ∀ d ∈ Bundle.stringAtoms, d.before a0 Z = true := fun d hd => hw d ((by decide +kernel : ∀ d ∈ Bundle.stringAtoms, d ∈ tables_1) d hd)
  intro p e s m below meth c hx hby hml hret hlk hown hnm hZ
  refine Go.iloadN (q := 1) hx (hb hby at_0) rfl rfl ?_
  refine Go.ldcInt (q := 3) hx hZ hown (tw hw 0 rfl) (hb hby at_1) rfl ?_
  refine Go.iand (q := 4) hx (hb hby at_3) rfl ?_
  refine Go.iconst (q := 5) (z := (5 : Int32)) hx (hb hby at_4) rfl rfl ?_
  refine Go.irem (q := 6) hx (hb hby at_5) (by decide) rfl ?_
  have hk1467 : (p1 &&& (2147483647 : Int32)) % (5 : Int32) = (0 : Int32) ∨ (p1 &&& (2147483647 : Int32)) % (5 : Int32) = (1 : Int32) ∨ (p1 &&& (2147483647 : Int32)) % (5 : Int32) = (2 : Int32) ∨ (p1 &&& (2147483647 : Int32)) % (5 : Int32) = (3 : Int32) ∨ (p1 &&& (2147483647 : Int32)) % (5 : Int32) = (4 : Int32) := rem5 _
  rcases hk1467 with hk1467 | hk1467 | hk1467 | hk1467 | hk1467
  · rw [hk1467]
    refine Go.istore (q := 8) (l' := #[.val (.int p1), .val (.int p2), .val (.int p3), .val (.int p4), .val (.int p5), .val (.int (0 : Int32)), .unset, .unset, .unset, .unset, .unset, .unset]) hx (hb hby at_6) rfl rfl ?_
    refine Go.iloadN (q := 9) hx (hb hby at_8) rfl rfl ?_
    refine Go.ldcInt (q := 11) hx hZ hown (tw hw 1 rfl) (hb hby at_9) rfl ?_
    refine Go.iand (q := 12) hx (hb hby at_11) rfl ?_
    refine Go.i2c (q := 13) hx (hb hby at_12) rfl ?_
    obtain ⟨c0, e0, hq0⟩ : ∃ c, (p2 &&& (65535 : Int32)).toUInt32.toUInt16.toUInt32.toInt32 = c ∧ Chr c := ⟨_, rfl, chr_of _⟩
    rw [e0]
    refine Go.istore (q := 15) (l' := #[.val (.int p1), .val (.int p2), .val (.int p3), .val (.int p4), .val (.int p5), .val (.int (0 : Int32)), .val (.int c0), .unset, .unset, .unset, .unset, .unset]) hx (hb hby at_13) rfl rfl ?_
    refine Go.iloadN (q := 16) hx (hb hby at_15) rfl rfl ?_
    refine Go.ldcInt (q := 18) hx hZ hown (tw hw 1 rfl) (hb hby at_16) rfl ?_
    refine Go.iand (q := 19) hx (hb hby at_18) rfl ?_
    refine Go.i2c (q := 20) hx (hb hby at_19) rfl ?_
    obtain ⟨c1, e1, hq1⟩ : ∃ c, (p3 &&& (65535 : Int32)).toUInt32.toUInt16.toUInt32.toInt32 = c ∧ Chr c := ⟨_, rfl, chr_of _⟩
    rw [e1]
    refine Go.istore (q := 22) (l' := #[.val (.int p1), .val (.int p2), .val (.int p3), .val (.int p4), .val (.int p5), .val (.int (0 : Int32)), .val (.int c0), .val (.int c1), .unset, .unset, .unset, .unset]) hx (hb hby at_20) rfl rfl ?_
    refine Go.iloadN (q := 23) hx (hb hby at_22) rfl rfl ?_
    refine Go.ldcInt (q := 25) hx hZ hown (tw hw 1 rfl) (hb hby at_23) rfl ?_
    refine Go.iand (q := 26) hx (hb hby at_25) rfl ?_
    refine Go.i2c (q := 27) hx (hb hby at_26) rfl ?_
    obtain ⟨c2, e2, hq2⟩ : ∃ c, (p4 &&& (65535 : Int32)).toUInt32.toUInt16.toUInt32.toInt32 = c ∧ Chr c := ⟨_, rfl, chr_of _⟩
    rw [e2]
    refine Go.istore (q := 29) (l' := #[.val (.int p1), .val (.int p2), .val (.int p3), .val (.int p4), .val (.int p5), .val (.int (0 : Int32)), .val (.int c0), .val (.int c1), .val (.int c2), .unset, .unset, .unset]) hx (hb hby at_27) rfl rfl ?_
    refine Go.iload (q := 31) hx (hb hby at_29) rfl rfl ?_
    refine Go.ldcInt (q := 33) hx hZ hown (tw hw 1 rfl) (hb hby at_31) rfl ?_
    refine Go.iand (q := 34) hx (hb hby at_33) rfl ?_
    refine Go.i2c (q := 35) hx (hb hby at_34) rfl ?_
    obtain ⟨c3, e3, hq3⟩ : ∃ c, (p5 &&& (65535 : Int32)).toUInt32.toUInt16.toUInt32.toInt32 = c ∧ Chr c := ⟨_, rfl, chr_of _⟩
    rw [e3]
    refine Go.istore (q := 37) (l' := #[.val (.int p1), .val (.int p2), .val (.int p3), .val (.int p4), .val (.int p5), .val (.int (0 : Int32)), .val (.int c0), .val (.int c1), .val (.int c2), .val (.int c3), .unset, .unset]) hx (hb hby at_35) rfl rfl ?_
    refine Go.iload (q := 39) hx (hb hby at_37) rfl rfl ?_
    refine Go.iload (q := 41) hx (hb hby at_39) rfl rfl ?_
    refine Go.iload (q := 43) hx (hb hby at_41) rfl rfl ?_
    refine Go.iload (q := 45) hx (hb hby at_43) rfl rfl ?_
    refine Go.iload (q := 47) hx (hb hby at_45) rfl rfl ?_
    refine Go.callS (q := 50) hx hZ (argsL := [(.int (0 : Int32)), (.int c0), (.int c1), (.int c2), (.int c3)]) (rest := []) hown (tw hw 2 rfl) (tw hw 3 rfl) (tw hw 4 rfl) (tw hw 5 rfl) (by decide) (rmM0 l Z a0 hw hel cst c0 c1 c2 c3 h0 n0 Z0  X0 SC hcs AD HB LB) (fun _ hx => nomatch hx) (by rw [hml]; rfl) pd_18 rfl rfl (hb hby at_47) rfl (by decide) (ble rfl) (ce' := 6) (sl' := 12) rfl rfl (by decide) (by decide) (fun v1468 h1469 hQ1470 => ?_)
    obtain ⟨sa, rfl, K1471, T1472⟩ := hQ1470
    show Go _ _ _ _ _ _ _ _ _ _ _ _ _ _ _ _ _ _ _ _ 6 12 50 #[.val (.int p1), .val (.int p2), .val (.int p3), .val (.int p4), .val (.int p5), .val (.int (0 : Int32)), .val (.int c0), .val (.int c1), .val (.int c2), .val (.int c3), .unset, .unset] [(.ref sa)]
    refine Go.astore (q := 52) (l' := #[.val (.int p1), .val (.int p2), .val (.int p3), .val (.int p4), .val (.int p5), .val (.int (0 : Int32)), .val (.int c0), .val (.int c1), .val (.int c2), .val (.int c3), .val (.ref sa), .unset]) hx (hb hby at_50) (by rfl) rfl rfl ?_
    refine Go.iload (q := 54) hx (hb hby at_52) rfl rfl ?_
    refine Go.iconst (q := 55) (z := (1 : Int32)) hx (hb hby at_54) rfl rfl ?_
    refine Go.icmp_lt (q := 58) (t := 66) hx (hb hby at_55) (by decide) rfl rfl (fun hc55 => ?_) (fun hc55 => absurd hc55 (by decide))
    refine Go.iload (q := 68) hx (hb hby at_66) rfl rfl ?_
    refine Go.iconst (q := 69) (z := (2 : Int32)) hx (hb hby at_68) rfl rfl ?_
    refine Go.icmp_lt (q := 72) (t := 80) hx (hb hby at_69) (by decide) rfl rfl (fun hc69 => ?_) (fun hc69 => absurd hc69 (by decide))
    refine Go.iload (q := 82) hx (hb hby at_80) rfl rfl ?_
    refine Go.iconst (q := 83) (z := (3 : Int32)) hx (hb hby at_82) rfl rfl ?_
    refine Go.icmp_lt (q := 86) (t := 94) hx (hb hby at_83) (by decide) rfl rfl (fun hc83 => ?_) (fun hc83 => absurd hc83 (by decide))
    refine Go.iload (q := 96) hx (hb hby at_94) rfl rfl ?_
    refine Go.iconst (q := 97) (z := (4 : Int32)) hx (hb hby at_96) rfl rfl ?_
    refine Go.icmp_lt (q := 100) (t := 108) hx (hb hby at_97) (by decide) rfl rfl (fun hc97 => ?_) (fun hc97 => absurd hc97 (by decide))
    refine Go.iconst (q := 109) (z := (1 : Int32)) hx (hb hby at_108) rfl rfl ?_
    refine Go.goto (q := 113) hx (hb hby at_109) (by decide) rfl ?_
    refine Go.istore (q := 115) (l' := #[.val (.int p1), .val (.int p2), .val (.int p3), .val (.int p4), .val (.int p5), .val (.int (0 : Int32)), .val (.int c0), .val (.int c1), .val (.int c2), .val (.int c3), .val (.ref sa), .val (.int (1 : Int32))]) hx (hb hby at_113) rfl rfl ?_
    refine Go.aload (q := 117) hx (hb hby at_115) rfl (by rfl) rfl ?_
    refine Go.callS (q := 120) hx hZ (argsL := [(.ref sa)]) (rest := []) hown (tw hw 28 rfl) (tw hw 29 rfl) (tw hw 30 rfl) (tw hw 31 rfl) (by decide) (rmAs0 l Z a0 hw hel sa cst fv  h1469 n0 (Nat.le_trans Z0 K1471.1) T1472  (X0.keep K1471 all0) SC hcs AD HB LB PF hfv) (fun _ hx => nomatch hx) (by rw [hml]; rfl) pd_19 rfl rfl (hb hby at_117) rfl (by decide) (ble rfl) (ce' := 6) (sl' := 12) rfl rfl (by decide) (by decide) (fun v1473 h1474 hQ1475 => ?_)
    obtain ⟨hv1476, rfl⟩ := hQ1475
    subst hv1476
    show Go _ _ _ _ _ _ _ _ _ _ _ _ _ _ _ _ _ _ _ _ 6 12 120 #[.val (.int p1), .val (.int p2), .val (.int p3), .val (.int p4), .val (.int p5), .val (.int (0 : Int32)), .val (.int c0), .val (.int c1), .val (.int c2), .val (.int c3), .val (.ref sa), .val (.int (1 : Int32))] [(.int (1 : Int32))]
    refine Go.iload (q := 122) hx (hb hby at_120) rfl rfl ?_
    refine Go.icmp_ne (q := 125) (t := 129) hx (hb hby at_122) (by decide) rfl rfl (fun hc122 => absurd hc122 (by decide)) (fun hc122 => ?_)
    refine Go.iconst (q := 126) (z := (1 : Int32)) hx (hb hby at_125) rfl rfl ?_
    refine Go.goto (q := 130) hx (hb hby at_126) (by decide) rfl ?_
    refine Go.retN hx (t := .boolean) hret (by simp) hlk (hb hby at_130) (by decide) (by decide) ?_
    rfl
  · rw [hk1467]
    refine Go.istore (q := 8) (l' := #[.val (.int p1), .val (.int p2), .val (.int p3), .val (.int p4), .val (.int p5), .val (.int (1 : Int32)), .unset, .unset, .unset, .unset, .unset, .unset]) hx (hb hby at_6) rfl rfl ?_
    refine Go.iloadN (q := 9) hx (hb hby at_8) rfl rfl ?_
    refine Go.ldcInt (q := 11) hx hZ hown (tw hw 1 rfl) (hb hby at_9) rfl ?_
    refine Go.iand (q := 12) hx (hb hby at_11) rfl ?_
    refine Go.i2c (q := 13) hx (hb hby at_12) rfl ?_
    obtain ⟨c0, e0, hq0⟩ : ∃ c, (p2 &&& (65535 : Int32)).toUInt32.toUInt16.toUInt32.toInt32 = c ∧ Chr c := ⟨_, rfl, chr_of _⟩
    rw [e0]
    refine Go.istore (q := 15) (l' := #[.val (.int p1), .val (.int p2), .val (.int p3), .val (.int p4), .val (.int p5), .val (.int (1 : Int32)), .val (.int c0), .unset, .unset, .unset, .unset, .unset]) hx (hb hby at_13) rfl rfl ?_
    refine Go.iloadN (q := 16) hx (hb hby at_15) rfl rfl ?_
    refine Go.ldcInt (q := 18) hx hZ hown (tw hw 1 rfl) (hb hby at_16) rfl ?_
    refine Go.iand (q := 19) hx (hb hby at_18) rfl ?_
    refine Go.i2c (q := 20) hx (hb hby at_19) rfl ?_
    obtain ⟨c1, e1, hq1⟩ : ∃ c, (p3 &&& (65535 : Int32)).toUInt32.toUInt16.toUInt32.toInt32 = c ∧ Chr c := ⟨_, rfl, chr_of _⟩
    rw [e1]
    refine Go.istore (q := 22) (l' := #[.val (.int p1), .val (.int p2), .val (.int p3), .val (.int p4), .val (.int p5), .val (.int (1 : Int32)), .val (.int c0), .val (.int c1), .unset, .unset, .unset, .unset]) hx (hb hby at_20) rfl rfl ?_
    refine Go.iloadN (q := 23) hx (hb hby at_22) rfl rfl ?_
    refine Go.ldcInt (q := 25) hx hZ hown (tw hw 1 rfl) (hb hby at_23) rfl ?_
    refine Go.iand (q := 26) hx (hb hby at_25) rfl ?_
    refine Go.i2c (q := 27) hx (hb hby at_26) rfl ?_
    obtain ⟨c2, e2, hq2⟩ : ∃ c, (p4 &&& (65535 : Int32)).toUInt32.toUInt16.toUInt32.toInt32 = c ∧ Chr c := ⟨_, rfl, chr_of _⟩
    rw [e2]
    refine Go.istore (q := 29) (l' := #[.val (.int p1), .val (.int p2), .val (.int p3), .val (.int p4), .val (.int p5), .val (.int (1 : Int32)), .val (.int c0), .val (.int c1), .val (.int c2), .unset, .unset, .unset]) hx (hb hby at_27) rfl rfl ?_
    refine Go.iload (q := 31) hx (hb hby at_29) rfl rfl ?_
    refine Go.ldcInt (q := 33) hx hZ hown (tw hw 1 rfl) (hb hby at_31) rfl ?_
    refine Go.iand (q := 34) hx (hb hby at_33) rfl ?_
    refine Go.i2c (q := 35) hx (hb hby at_34) rfl ?_
    obtain ⟨c3, e3, hq3⟩ : ∃ c, (p5 &&& (65535 : Int32)).toUInt32.toUInt16.toUInt32.toInt32 = c ∧ Chr c := ⟨_, rfl, chr_of _⟩
    rw [e3]
    refine Go.istore (q := 37) (l' := #[.val (.int p1), .val (.int p2), .val (.int p3), .val (.int p4), .val (.int p5), .val (.int (1 : Int32)), .val (.int c0), .val (.int c1), .val (.int c2), .val (.int c3), .unset, .unset]) hx (hb hby at_35) rfl rfl ?_
    refine Go.iload (q := 39) hx (hb hby at_37) rfl rfl ?_
    refine Go.iload (q := 41) hx (hb hby at_39) rfl rfl ?_
    refine Go.iload (q := 43) hx (hb hby at_41) rfl rfl ?_
    refine Go.iload (q := 45) hx (hb hby at_43) rfl rfl ?_
    refine Go.iload (q := 47) hx (hb hby at_45) rfl rfl ?_
    refine Go.callS (q := 50) hx hZ (argsL := [(.int (1 : Int32)), (.int c0), (.int c1), (.int c2), (.int c3)]) (rest := []) hown (tw hw 2 rfl) (tw hw 3 rfl) (tw hw 4 rfl) (tw hw 5 rfl) (by decide) (rmM1 l Z a0 hw hel cst c0 c1 c2 c3 h0 n0 Z0 hq0 X0 SC hcs AD HB LB) (fun _ hx => nomatch hx) (by rw [hml]; rfl) pd_18 rfl rfl (hb hby at_47) rfl (by decide) (ble rfl) (ce' := 4) (sl' := 20) rfl rfl (by decide) (by decide) (fun v1477 h1478 hQ1479 => ?_)
    obtain ⟨sa, rfl, K1480, T1481⟩ := hQ1479
    show Go _ _ _ _ _ _ _ _ _ _ _ _ _ _ _ _ _ _ _ _ 4 20 50 #[.val (.int p1), .val (.int p2), .val (.int p3), .val (.int p4), .val (.int p5), .val (.int (1 : Int32)), .val (.int c0), .val (.int c1), .val (.int c2), .val (.int c3), .unset, .unset] [(.ref sa)]
    refine Go.astore (q := 52) (l' := #[.val (.int p1), .val (.int p2), .val (.int p3), .val (.int p4), .val (.int p5), .val (.int (1 : Int32)), .val (.int c0), .val (.int c1), .val (.int c2), .val (.int c3), .val (.ref sa), .unset]) hx (hb hby at_50) (by rfl) rfl rfl ?_
    refine Go.iload (q := 54) hx (hb hby at_52) rfl rfl ?_
    refine Go.iconst (q := 55) (z := (1 : Int32)) hx (hb hby at_54) rfl rfl ?_
    refine Go.icmp_lt (q := 58) (t := 66) hx (hb hby at_55) (by decide) rfl rfl (fun hc55 => absurd hc55 (by decide)) (fun hc55 => ?_)
    refine Go.iload (q := 60) hx (hb hby at_58) rfl rfl ?_
    refine Go.sipush (q := 63) (z := (128 : Int32)) hx (hb hby at_60) rfl rfl ?_
    refine Go.icmp_ge (q := 66) (t := 112) hx (hb hby at_63) (by decide) rfl rfl (fun hc63 => ?_) (fun hc63 => ?_)
    · skip
      refine Go.iconst (q := 113) (z := (0 : Int32)) hx (hb hby at_112) rfl rfl ?_
      refine Go.istore (q := 115) (l' := #[.val (.int p1), .val (.int p2), .val (.int p3), .val (.int p4), .val (.int p5), .val (.int (1 : Int32)), .val (.int c0), .val (.int c1), .val (.int c2), .val (.int c3), .val (.ref sa), .val (.int (0 : Int32))]) hx (hb hby at_113) rfl rfl ?_
      refine Go.aload (q := 117) hx (hb hby at_115) rfl (by rfl) rfl ?_
      refine Go.callS (q := 120) hx hZ (argsL := [(.ref sa)]) (rest := []) hown (tw hw 28 rfl) (tw hw 29 rfl) (tw hw 30 rfl) (tw hw 31 rfl) (by decide) (rmAs1 l Z a0 hw hel sa cst fv c0 h1478 n0 (Nat.le_trans Z0 K1480.1) T1481 hq0 (X0.keep K1480 all0) SC hcs AD HB LB PF hfv) (fun _ hx => nomatch hx) (by rw [hml]; rfl) pd_19 rfl rfl (hb hby at_117) rfl (by decide) (ble rfl) (ce' := 4) (sl' := 20) rfl rfl (by decide) (by decide) (fun v1482 h1483 hQ1484 => ?_)
      obtain ⟨hv1485, rfl⟩ := hQ1484
      rw [if_neg (fun q => absurd q hc63)] at hv1485
      subst hv1485
      show Go _ _ _ _ _ _ _ _ _ _ _ _ _ _ _ _ _ _ _ _ 4 20 120 #[.val (.int p1), .val (.int p2), .val (.int p3), .val (.int p4), .val (.int p5), .val (.int (1 : Int32)), .val (.int c0), .val (.int c1), .val (.int c2), .val (.int c3), .val (.ref sa), .val (.int (0 : Int32))] [(.int (0 : Int32))]
      refine Go.iload (q := 122) hx (hb hby at_120) rfl rfl ?_
      refine Go.icmp_ne (q := 125) (t := 129) hx (hb hby at_122) (by decide) rfl rfl (fun hc122 => absurd hc122 (by decide)) (fun hc122 => ?_)
      refine Go.iconst (q := 126) (z := (1 : Int32)) hx (hb hby at_125) rfl rfl ?_
      refine Go.goto (q := 130) hx (hb hby at_126) (by decide) rfl ?_
      refine Go.retN hx (t := .boolean) hret (by simp) hlk (hb hby at_130) (by decide) (by decide) ?_
      rfl
    · skip
      refine Go.iload (q := 68) hx (hb hby at_66) rfl rfl ?_
      refine Go.iconst (q := 69) (z := (2 : Int32)) hx (hb hby at_68) rfl rfl ?_
      refine Go.icmp_lt (q := 72) (t := 80) hx (hb hby at_69) (by decide) rfl rfl (fun hc69 => ?_) (fun hc69 => absurd hc69 (by decide))
      refine Go.iload (q := 82) hx (hb hby at_80) rfl rfl ?_
      refine Go.iconst (q := 83) (z := (3 : Int32)) hx (hb hby at_82) rfl rfl ?_
      refine Go.icmp_lt (q := 86) (t := 94) hx (hb hby at_83) (by decide) rfl rfl (fun hc83 => ?_) (fun hc83 => absurd hc83 (by decide))
      refine Go.iload (q := 96) hx (hb hby at_94) rfl rfl ?_
      refine Go.iconst (q := 97) (z := (4 : Int32)) hx (hb hby at_96) rfl rfl ?_
      refine Go.icmp_lt (q := 100) (t := 108) hx (hb hby at_97) (by decide) rfl rfl (fun hc97 => ?_) (fun hc97 => absurd hc97 (by decide))
      refine Go.iconst (q := 109) (z := (1 : Int32)) hx (hb hby at_108) rfl rfl ?_
      refine Go.goto (q := 113) hx (hb hby at_109) (by decide) rfl ?_
      refine Go.istore (q := 115) (l' := #[.val (.int p1), .val (.int p2), .val (.int p3), .val (.int p4), .val (.int p5), .val (.int (1 : Int32)), .val (.int c0), .val (.int c1), .val (.int c2), .val (.int c3), .val (.ref sa), .val (.int (1 : Int32))]) hx (hb hby at_113) rfl rfl ?_
      refine Go.aload (q := 117) hx (hb hby at_115) rfl (by rfl) rfl ?_
      refine Go.callS (q := 120) hx hZ (argsL := [(.ref sa)]) (rest := []) hown (tw hw 28 rfl) (tw hw 29 rfl) (tw hw 30 rfl) (tw hw 31 rfl) (by decide) (rmAs1 l Z a0 hw hel sa cst fv c0 h1478 n0 (Nat.le_trans Z0 K1480.1) T1481 hq0 (X0.keep K1480 all0) SC hcs AD HB LB PF hfv) (fun _ hx => nomatch hx) (by rw [hml]; rfl) pd_19 rfl rfl (hb hby at_117) rfl (by decide) (ble rfl) (ce' := 4) (sl' := 20) rfl rfl (by decide) (by decide) (fun v1486 h1487 hQ1488 => ?_)
      obtain ⟨hv1489, rfl⟩ := hQ1488
      rw [if_pos hc63] at hv1489
      subst hv1489
      show Go _ _ _ _ _ _ _ _ _ _ _ _ _ _ _ _ _ _ _ _ 4 20 120 #[.val (.int p1), .val (.int p2), .val (.int p3), .val (.int p4), .val (.int p5), .val (.int (1 : Int32)), .val (.int c0), .val (.int c1), .val (.int c2), .val (.int c3), .val (.ref sa), .val (.int (1 : Int32))] [(.int (1 : Int32))]
      refine Go.iload (q := 122) hx (hb hby at_120) rfl rfl ?_
      refine Go.icmp_ne (q := 125) (t := 129) hx (hb hby at_122) (by decide) rfl rfl (fun hc122 => absurd hc122 (by decide)) (fun hc122 => ?_)
      refine Go.iconst (q := 126) (z := (1 : Int32)) hx (hb hby at_125) rfl rfl ?_
      refine Go.goto (q := 130) hx (hb hby at_126) (by decide) rfl ?_
      refine Go.retN hx (t := .boolean) hret (by simp) hlk (hb hby at_130) (by decide) (by decide) ?_
      rfl
  · rw [hk1467]
    refine Go.istore (q := 8) (l' := #[.val (.int p1), .val (.int p2), .val (.int p3), .val (.int p4), .val (.int p5), .val (.int (2 : Int32)), .unset, .unset, .unset, .unset, .unset, .unset]) hx (hb hby at_6) rfl rfl ?_
    refine Go.iloadN (q := 9) hx (hb hby at_8) rfl rfl ?_
    refine Go.ldcInt (q := 11) hx hZ hown (tw hw 1 rfl) (hb hby at_9) rfl ?_
    refine Go.iand (q := 12) hx (hb hby at_11) rfl ?_
    refine Go.i2c (q := 13) hx (hb hby at_12) rfl ?_
    obtain ⟨c0, e0, hq0⟩ : ∃ c, (p2 &&& (65535 : Int32)).toUInt32.toUInt16.toUInt32.toInt32 = c ∧ Chr c := ⟨_, rfl, chr_of _⟩
    rw [e0]
    refine Go.istore (q := 15) (l' := #[.val (.int p1), .val (.int p2), .val (.int p3), .val (.int p4), .val (.int p5), .val (.int (2 : Int32)), .val (.int c0), .unset, .unset, .unset, .unset, .unset]) hx (hb hby at_13) rfl rfl ?_
    refine Go.iloadN (q := 16) hx (hb hby at_15) rfl rfl ?_
    refine Go.ldcInt (q := 18) hx hZ hown (tw hw 1 rfl) (hb hby at_16) rfl ?_
    refine Go.iand (q := 19) hx (hb hby at_18) rfl ?_
    refine Go.i2c (q := 20) hx (hb hby at_19) rfl ?_
    obtain ⟨c1, e1, hq1⟩ : ∃ c, (p3 &&& (65535 : Int32)).toUInt32.toUInt16.toUInt32.toInt32 = c ∧ Chr c := ⟨_, rfl, chr_of _⟩
    rw [e1]
    refine Go.istore (q := 22) (l' := #[.val (.int p1), .val (.int p2), .val (.int p3), .val (.int p4), .val (.int p5), .val (.int (2 : Int32)), .val (.int c0), .val (.int c1), .unset, .unset, .unset, .unset]) hx (hb hby at_20) rfl rfl ?_
    refine Go.iloadN (q := 23) hx (hb hby at_22) rfl rfl ?_
    refine Go.ldcInt (q := 25) hx hZ hown (tw hw 1 rfl) (hb hby at_23) rfl ?_
    refine Go.iand (q := 26) hx (hb hby at_25) rfl ?_
    refine Go.i2c (q := 27) hx (hb hby at_26) rfl ?_
    obtain ⟨c2, e2, hq2⟩ : ∃ c, (p4 &&& (65535 : Int32)).toUInt32.toUInt16.toUInt32.toInt32 = c ∧ Chr c := ⟨_, rfl, chr_of _⟩
    rw [e2]
    refine Go.istore (q := 29) (l' := #[.val (.int p1), .val (.int p2), .val (.int p3), .val (.int p4), .val (.int p5), .val (.int (2 : Int32)), .val (.int c0), .val (.int c1), .val (.int c2), .unset, .unset, .unset]) hx (hb hby at_27) rfl rfl ?_
    refine Go.iload (q := 31) hx (hb hby at_29) rfl rfl ?_
    refine Go.ldcInt (q := 33) hx hZ hown (tw hw 1 rfl) (hb hby at_31) rfl ?_
    refine Go.iand (q := 34) hx (hb hby at_33) rfl ?_
    refine Go.i2c (q := 35) hx (hb hby at_34) rfl ?_
    obtain ⟨c3, e3, hq3⟩ : ∃ c, (p5 &&& (65535 : Int32)).toUInt32.toUInt16.toUInt32.toInt32 = c ∧ Chr c := ⟨_, rfl, chr_of _⟩
    rw [e3]
    refine Go.istore (q := 37) (l' := #[.val (.int p1), .val (.int p2), .val (.int p3), .val (.int p4), .val (.int p5), .val (.int (2 : Int32)), .val (.int c0), .val (.int c1), .val (.int c2), .val (.int c3), .unset, .unset]) hx (hb hby at_35) rfl rfl ?_
    refine Go.iload (q := 39) hx (hb hby at_37) rfl rfl ?_
    refine Go.iload (q := 41) hx (hb hby at_39) rfl rfl ?_
    refine Go.iload (q := 43) hx (hb hby at_41) rfl rfl ?_
    refine Go.iload (q := 45) hx (hb hby at_43) rfl rfl ?_
    refine Go.iload (q := 47) hx (hb hby at_45) rfl rfl ?_
    refine Go.callS (q := 50) hx hZ (argsL := [(.int (2 : Int32)), (.int c0), (.int c1), (.int c2), (.int c3)]) (rest := []) hown (tw hw 2 rfl) (tw hw 3 rfl) (tw hw 4 rfl) (tw hw 5 rfl) (by decide) (rmM2 l Z a0 hw hel cst c0 c1 c2 c3 h0 n0 Z0 hq0 hq1 X0 SC hcs AD HB LB) (fun _ hx => nomatch hx) (by rw [hml]; rfl) pd_18 rfl rfl (hb hby at_47) rfl (by decide) (ble rfl) (ce' := 4) (sl' := 20) rfl rfl (by decide) (by decide) (fun v1490 h1491 hQ1492 => ?_)
    obtain ⟨sa, rfl, K1493, T1494⟩ := hQ1492
    show Go _ _ _ _ _ _ _ _ _ _ _ _ _ _ _ _ _ _ _ _ 4 20 50 #[.val (.int p1), .val (.int p2), .val (.int p3), .val (.int p4), .val (.int p5), .val (.int (2 : Int32)), .val (.int c0), .val (.int c1), .val (.int c2), .val (.int c3), .unset, .unset] [(.ref sa)]
    refine Go.astore (q := 52) (l' := #[.val (.int p1), .val (.int p2), .val (.int p3), .val (.int p4), .val (.int p5), .val (.int (2 : Int32)), .val (.int c0), .val (.int c1), .val (.int c2), .val (.int c3), .val (.ref sa), .unset]) hx (hb hby at_50) (by rfl) rfl rfl ?_
    refine Go.iload (q := 54) hx (hb hby at_52) rfl rfl ?_
    refine Go.iconst (q := 55) (z := (1 : Int32)) hx (hb hby at_54) rfl rfl ?_
    refine Go.icmp_lt (q := 58) (t := 66) hx (hb hby at_55) (by decide) rfl rfl (fun hc55 => absurd hc55 (by decide)) (fun hc55 => ?_)
    refine Go.iload (q := 60) hx (hb hby at_58) rfl rfl ?_
    refine Go.sipush (q := 63) (z := (128 : Int32)) hx (hb hby at_60) rfl rfl ?_
    refine Go.icmp_ge (q := 66) (t := 112) hx (hb hby at_63) (by decide) rfl rfl (fun hc63 => ?_) (fun hc63 => ?_)
    · skip
      refine Go.iconst (q := 113) (z := (0 : Int32)) hx (hb hby at_112) rfl rfl ?_
      refine Go.istore (q := 115) (l' := #[.val (.int p1), .val (.int p2), .val (.int p3), .val (.int p4), .val (.int p5), .val (.int (2 : Int32)), .val (.int c0), .val (.int c1), .val (.int c2), .val (.int c3), .val (.ref sa), .val (.int (0 : Int32))]) hx (hb hby at_113) rfl rfl ?_
      refine Go.aload (q := 117) hx (hb hby at_115) rfl (by rfl) rfl ?_
      refine Go.callS (q := 120) hx hZ (argsL := [(.ref sa)]) (rest := []) hown (tw hw 28 rfl) (tw hw 29 rfl) (tw hw 30 rfl) (tw hw 31 rfl) (by decide) (rmAs2 l Z a0 hw hel sa cst fv c0 c1 h1491 n0 (Nat.le_trans Z0 K1493.1) T1494 hq0 hq1 (X0.keep K1493 all0) SC hcs AD HB LB PF hfv) (fun _ hx => nomatch hx) (by rw [hml]; rfl) pd_19 rfl rfl (hb hby at_117) rfl (by decide) (ble rfl) (ce' := 4) (sl' := 20) rfl rfl (by decide) (by decide) (fun v1495 h1496 hQ1497 => ?_)
      obtain ⟨hv1498, rfl⟩ := hQ1497
      rw [if_neg (fun q => absurd q.1 hc63)] at hv1498
      subst hv1498
      show Go _ _ _ _ _ _ _ _ _ _ _ _ _ _ _ _ _ _ _ _ 4 20 120 #[.val (.int p1), .val (.int p2), .val (.int p3), .val (.int p4), .val (.int p5), .val (.int (2 : Int32)), .val (.int c0), .val (.int c1), .val (.int c2), .val (.int c3), .val (.ref sa), .val (.int (0 : Int32))] [(.int (0 : Int32))]
      refine Go.iload (q := 122) hx (hb hby at_120) rfl rfl ?_
      refine Go.icmp_ne (q := 125) (t := 129) hx (hb hby at_122) (by decide) rfl rfl (fun hc122 => absurd hc122 (by decide)) (fun hc122 => ?_)
      refine Go.iconst (q := 126) (z := (1 : Int32)) hx (hb hby at_125) rfl rfl ?_
      refine Go.goto (q := 130) hx (hb hby at_126) (by decide) rfl ?_
      refine Go.retN hx (t := .boolean) hret (by simp) hlk (hb hby at_130) (by decide) (by decide) ?_
      rfl
    · skip
      refine Go.iload (q := 68) hx (hb hby at_66) rfl rfl ?_
      refine Go.iconst (q := 69) (z := (2 : Int32)) hx (hb hby at_68) rfl rfl ?_
      refine Go.icmp_lt (q := 72) (t := 80) hx (hb hby at_69) (by decide) rfl rfl (fun hc69 => absurd hc69 (by decide)) (fun hc69 => ?_)
      refine Go.iload (q := 74) hx (hb hby at_72) rfl rfl ?_
      refine Go.sipush (q := 77) (z := (128 : Int32)) hx (hb hby at_74) rfl rfl ?_
      refine Go.icmp_ge (q := 80) (t := 112) hx (hb hby at_77) (by decide) rfl rfl (fun hc77 => ?_) (fun hc77 => ?_)
      · skip
        refine Go.iconst (q := 113) (z := (0 : Int32)) hx (hb hby at_112) rfl rfl ?_
        refine Go.istore (q := 115) (l' := #[.val (.int p1), .val (.int p2), .val (.int p3), .val (.int p4), .val (.int p5), .val (.int (2 : Int32)), .val (.int c0), .val (.int c1), .val (.int c2), .val (.int c3), .val (.ref sa), .val (.int (0 : Int32))]) hx (hb hby at_113) rfl rfl ?_
        refine Go.aload (q := 117) hx (hb hby at_115) rfl (by rfl) rfl ?_
        refine Go.callS (q := 120) hx hZ (argsL := [(.ref sa)]) (rest := []) hown (tw hw 28 rfl) (tw hw 29 rfl) (tw hw 30 rfl) (tw hw 31 rfl) (by decide) (rmAs2 l Z a0 hw hel sa cst fv c0 c1 h1491 n0 (Nat.le_trans Z0 K1493.1) T1494 hq0 hq1 (X0.keep K1493 all0) SC hcs AD HB LB PF hfv) (fun _ hx => nomatch hx) (by rw [hml]; rfl) pd_19 rfl rfl (hb hby at_117) rfl (by decide) (ble rfl) (ce' := 4) (sl' := 20) rfl rfl (by decide) (by decide) (fun v1499 h1500 hQ1501 => ?_)
        obtain ⟨hv1502, rfl⟩ := hQ1501
        rw [if_neg (fun q => absurd q.2 hc77)] at hv1502
        subst hv1502
        show Go _ _ _ _ _ _ _ _ _ _ _ _ _ _ _ _ _ _ _ _ 4 20 120 #[.val (.int p1), .val (.int p2), .val (.int p3), .val (.int p4), .val (.int p5), .val (.int (2 : Int32)), .val (.int c0), .val (.int c1), .val (.int c2), .val (.int c3), .val (.ref sa), .val (.int (0 : Int32))] [(.int (0 : Int32))]
        refine Go.iload (q := 122) hx (hb hby at_120) rfl rfl ?_
        refine Go.icmp_ne (q := 125) (t := 129) hx (hb hby at_122) (by decide) rfl rfl (fun hc122 => absurd hc122 (by decide)) (fun hc122 => ?_)
        refine Go.iconst (q := 126) (z := (1 : Int32)) hx (hb hby at_125) rfl rfl ?_
        refine Go.goto (q := 130) hx (hb hby at_126) (by decide) rfl ?_
        refine Go.retN hx (t := .boolean) hret (by simp) hlk (hb hby at_130) (by decide) (by decide) ?_
        rfl
      · skip
        refine Go.iload (q := 82) hx (hb hby at_80) rfl rfl ?_
        refine Go.iconst (q := 83) (z := (3 : Int32)) hx (hb hby at_82) rfl rfl ?_
        refine Go.icmp_lt (q := 86) (t := 94) hx (hb hby at_83) (by decide) rfl rfl (fun hc83 => ?_) (fun hc83 => absurd hc83 (by decide))
        refine Go.iload (q := 96) hx (hb hby at_94) rfl rfl ?_
        refine Go.iconst (q := 97) (z := (4 : Int32)) hx (hb hby at_96) rfl rfl ?_
        refine Go.icmp_lt (q := 100) (t := 108) hx (hb hby at_97) (by decide) rfl rfl (fun hc97 => ?_) (fun hc97 => absurd hc97 (by decide))
        refine Go.iconst (q := 109) (z := (1 : Int32)) hx (hb hby at_108) rfl rfl ?_
        refine Go.goto (q := 113) hx (hb hby at_109) (by decide) rfl ?_
        refine Go.istore (q := 115) (l' := #[.val (.int p1), .val (.int p2), .val (.int p3), .val (.int p4), .val (.int p5), .val (.int (2 : Int32)), .val (.int c0), .val (.int c1), .val (.int c2), .val (.int c3), .val (.ref sa), .val (.int (1 : Int32))]) hx (hb hby at_113) rfl rfl ?_
        refine Go.aload (q := 117) hx (hb hby at_115) rfl (by rfl) rfl ?_
        refine Go.callS (q := 120) hx hZ (argsL := [(.ref sa)]) (rest := []) hown (tw hw 28 rfl) (tw hw 29 rfl) (tw hw 30 rfl) (tw hw 31 rfl) (by decide) (rmAs2 l Z a0 hw hel sa cst fv c0 c1 h1491 n0 (Nat.le_trans Z0 K1493.1) T1494 hq0 hq1 (X0.keep K1493 all0) SC hcs AD HB LB PF hfv) (fun _ hx => nomatch hx) (by rw [hml]; rfl) pd_19 rfl rfl (hb hby at_117) rfl (by decide) (ble rfl) (ce' := 4) (sl' := 20) rfl rfl (by decide) (by decide) (fun v1503 h1504 hQ1505 => ?_)
        obtain ⟨hv1506, rfl⟩ := hQ1505
        rw [if_pos ⟨hc63, hc77⟩] at hv1506
        subst hv1506
        show Go _ _ _ _ _ _ _ _ _ _ _ _ _ _ _ _ _ _ _ _ 4 20 120 #[.val (.int p1), .val (.int p2), .val (.int p3), .val (.int p4), .val (.int p5), .val (.int (2 : Int32)), .val (.int c0), .val (.int c1), .val (.int c2), .val (.int c3), .val (.ref sa), .val (.int (1 : Int32))] [(.int (1 : Int32))]
        refine Go.iload (q := 122) hx (hb hby at_120) rfl rfl ?_
        refine Go.icmp_ne (q := 125) (t := 129) hx (hb hby at_122) (by decide) rfl rfl (fun hc122 => absurd hc122 (by decide)) (fun hc122 => ?_)
        refine Go.iconst (q := 126) (z := (1 : Int32)) hx (hb hby at_125) rfl rfl ?_
        refine Go.goto (q := 130) hx (hb hby at_126) (by decide) rfl ?_
        refine Go.retN hx (t := .boolean) hret (by simp) hlk (hb hby at_130) (by decide) (by decide) ?_
        rfl
  · rw [hk1467]
    refine Go.istore (q := 8) (l' := #[.val (.int p1), .val (.int p2), .val (.int p3), .val (.int p4), .val (.int p5), .val (.int (3 : Int32)), .unset, .unset, .unset, .unset, .unset, .unset]) hx (hb hby at_6) rfl rfl ?_
    refine Go.iloadN (q := 9) hx (hb hby at_8) rfl rfl ?_
    refine Go.ldcInt (q := 11) hx hZ hown (tw hw 1 rfl) (hb hby at_9) rfl ?_
    refine Go.iand (q := 12) hx (hb hby at_11) rfl ?_
    refine Go.i2c (q := 13) hx (hb hby at_12) rfl ?_
    obtain ⟨c0, e0, hq0⟩ : ∃ c, (p2 &&& (65535 : Int32)).toUInt32.toUInt16.toUInt32.toInt32 = c ∧ Chr c := ⟨_, rfl, chr_of _⟩
    rw [e0]
    refine Go.istore (q := 15) (l' := #[.val (.int p1), .val (.int p2), .val (.int p3), .val (.int p4), .val (.int p5), .val (.int (3 : Int32)), .val (.int c0), .unset, .unset, .unset, .unset, .unset]) hx (hb hby at_13) rfl rfl ?_
    refine Go.iloadN (q := 16) hx (hb hby at_15) rfl rfl ?_
    refine Go.ldcInt (q := 18) hx hZ hown (tw hw 1 rfl) (hb hby at_16) rfl ?_
    refine Go.iand (q := 19) hx (hb hby at_18) rfl ?_
    refine Go.i2c (q := 20) hx (hb hby at_19) rfl ?_
    obtain ⟨c1, e1, hq1⟩ : ∃ c, (p3 &&& (65535 : Int32)).toUInt32.toUInt16.toUInt32.toInt32 = c ∧ Chr c := ⟨_, rfl, chr_of _⟩
    rw [e1]
    refine Go.istore (q := 22) (l' := #[.val (.int p1), .val (.int p2), .val (.int p3), .val (.int p4), .val (.int p5), .val (.int (3 : Int32)), .val (.int c0), .val (.int c1), .unset, .unset, .unset, .unset]) hx (hb hby at_20) rfl rfl ?_
    refine Go.iloadN (q := 23) hx (hb hby at_22) rfl rfl ?_
    refine Go.ldcInt (q := 25) hx hZ hown (tw hw 1 rfl) (hb hby at_23) rfl ?_
    refine Go.iand (q := 26) hx (hb hby at_25) rfl ?_
    refine Go.i2c (q := 27) hx (hb hby at_26) rfl ?_
    obtain ⟨c2, e2, hq2⟩ : ∃ c, (p4 &&& (65535 : Int32)).toUInt32.toUInt16.toUInt32.toInt32 = c ∧ Chr c := ⟨_, rfl, chr_of _⟩
    rw [e2]
    refine Go.istore (q := 29) (l' := #[.val (.int p1), .val (.int p2), .val (.int p3), .val (.int p4), .val (.int p5), .val (.int (3 : Int32)), .val (.int c0), .val (.int c1), .val (.int c2), .unset, .unset, .unset]) hx (hb hby at_27) rfl rfl ?_
    refine Go.iload (q := 31) hx (hb hby at_29) rfl rfl ?_
    refine Go.ldcInt (q := 33) hx hZ hown (tw hw 1 rfl) (hb hby at_31) rfl ?_
    refine Go.iand (q := 34) hx (hb hby at_33) rfl ?_
    refine Go.i2c (q := 35) hx (hb hby at_34) rfl ?_
    obtain ⟨c3, e3, hq3⟩ : ∃ c, (p5 &&& (65535 : Int32)).toUInt32.toUInt16.toUInt32.toInt32 = c ∧ Chr c := ⟨_, rfl, chr_of _⟩
    rw [e3]
    refine Go.istore (q := 37) (l' := #[.val (.int p1), .val (.int p2), .val (.int p3), .val (.int p4), .val (.int p5), .val (.int (3 : Int32)), .val (.int c0), .val (.int c1), .val (.int c2), .val (.int c3), .unset, .unset]) hx (hb hby at_35) rfl rfl ?_
    refine Go.iload (q := 39) hx (hb hby at_37) rfl rfl ?_
    refine Go.iload (q := 41) hx (hb hby at_39) rfl rfl ?_
    refine Go.iload (q := 43) hx (hb hby at_41) rfl rfl ?_
    refine Go.iload (q := 45) hx (hb hby at_43) rfl rfl ?_
    refine Go.iload (q := 47) hx (hb hby at_45) rfl rfl ?_
    refine Go.callS (q := 50) hx hZ (argsL := [(.int (3 : Int32)), (.int c0), (.int c1), (.int c2), (.int c3)]) (rest := []) hown (tw hw 2 rfl) (tw hw 3 rfl) (tw hw 4 rfl) (tw hw 5 rfl) (by decide) (rmM3 l Z a0 hw hel cst c0 c1 c2 c3 h0 n0 Z0 hq0 hq1 hq2 X0 SC hcs AD HB LB) (fun _ hx => nomatch hx) (by rw [hml]; rfl) pd_18 rfl rfl (hb hby at_47) rfl (by decide) (ble rfl) (ce' := 4) (sl' := 20) rfl rfl (by decide) (by decide) (fun v1507 h1508 hQ1509 => ?_)
    obtain ⟨sa, rfl, K1510, T1511⟩ := hQ1509
    show Go _ _ _ _ _ _ _ _ _ _ _ _ _ _ _ _ _ _ _ _ 4 20 50 #[.val (.int p1), .val (.int p2), .val (.int p3), .val (.int p4), .val (.int p5), .val (.int (3 : Int32)), .val (.int c0), .val (.int c1), .val (.int c2), .val (.int c3), .unset, .unset] [(.ref sa)]
    refine Go.astore (q := 52) (l' := #[.val (.int p1), .val (.int p2), .val (.int p3), .val (.int p4), .val (.int p5), .val (.int (3 : Int32)), .val (.int c0), .val (.int c1), .val (.int c2), .val (.int c3), .val (.ref sa), .unset]) hx (hb hby at_50) (by rfl) rfl rfl ?_
    refine Go.iload (q := 54) hx (hb hby at_52) rfl rfl ?_
    refine Go.iconst (q := 55) (z := (1 : Int32)) hx (hb hby at_54) rfl rfl ?_
    refine Go.icmp_lt (q := 58) (t := 66) hx (hb hby at_55) (by decide) rfl rfl (fun hc55 => absurd hc55 (by decide)) (fun hc55 => ?_)
    refine Go.iload (q := 60) hx (hb hby at_58) rfl rfl ?_
    refine Go.sipush (q := 63) (z := (128 : Int32)) hx (hb hby at_60) rfl rfl ?_
    refine Go.icmp_ge (q := 66) (t := 112) hx (hb hby at_63) (by decide) rfl rfl (fun hc63 => ?_) (fun hc63 => ?_)
    · skip
      refine Go.iconst (q := 113) (z := (0 : Int32)) hx (hb hby at_112) rfl rfl ?_
      refine Go.istore (q := 115) (l' := #[.val (.int p1), .val (.int p2), .val (.int p3), .val (.int p4), .val (.int p5), .val (.int (3 : Int32)), .val (.int c0), .val (.int c1), .val (.int c2), .val (.int c3), .val (.ref sa), .val (.int (0 : Int32))]) hx (hb hby at_113) rfl rfl ?_
      refine Go.aload (q := 117) hx (hb hby at_115) rfl (by rfl) rfl ?_
      refine Go.callS (q := 120) hx hZ (argsL := [(.ref sa)]) (rest := []) hown (tw hw 28 rfl) (tw hw 29 rfl) (tw hw 30 rfl) (tw hw 31 rfl) (by decide) (rmAs3 l Z a0 hw hel sa cst fv c0 c1 c2 h1508 n0 (Nat.le_trans Z0 K1510.1) T1511 hq0 hq1 hq2 (X0.keep K1510 all0) SC hcs AD HB LB PF hfv) (fun _ hx => nomatch hx) (by rw [hml]; rfl) pd_19 rfl rfl (hb hby at_117) rfl (by decide) (ble rfl) (ce' := 4) (sl' := 20) rfl rfl (by decide) (by decide) (fun v1512 h1513 hQ1514 => ?_)
      obtain ⟨hv1515, rfl⟩ := hQ1514
      rw [if_neg (fun q => absurd q.1 hc63)] at hv1515
      subst hv1515
      show Go _ _ _ _ _ _ _ _ _ _ _ _ _ _ _ _ _ _ _ _ 4 20 120 #[.val (.int p1), .val (.int p2), .val (.int p3), .val (.int p4), .val (.int p5), .val (.int (3 : Int32)), .val (.int c0), .val (.int c1), .val (.int c2), .val (.int c3), .val (.ref sa), .val (.int (0 : Int32))] [(.int (0 : Int32))]
      refine Go.iload (q := 122) hx (hb hby at_120) rfl rfl ?_
      refine Go.icmp_ne (q := 125) (t := 129) hx (hb hby at_122) (by decide) rfl rfl (fun hc122 => absurd hc122 (by decide)) (fun hc122 => ?_)
      refine Go.iconst (q := 126) (z := (1 : Int32)) hx (hb hby at_125) rfl rfl ?_
      refine Go.goto (q := 130) hx (hb hby at_126) (by decide) rfl ?_
      refine Go.retN hx (t := .boolean) hret (by simp) hlk (hb hby at_130) (by decide) (by decide) ?_
      rfl
    · skip
      refine Go.iload (q := 68) hx (hb hby at_66) rfl rfl ?_
      refine Go.iconst (q := 69) (z := (2 : Int32)) hx (hb hby at_68) rfl rfl ?_
      refine Go.icmp_lt (q := 72) (t := 80) hx (hb hby at_69) (by decide) rfl rfl (fun hc69 => absurd hc69 (by decide)) (fun hc69 => ?_)
      refine Go.iload (q := 74) hx (hb hby at_72) rfl rfl ?_
      refine Go.sipush (q := 77) (z := (128 : Int32)) hx (hb hby at_74) rfl rfl ?_
      refine Go.icmp_ge (q := 80) (t := 112) hx (hb hby at_77) (by decide) rfl rfl (fun hc77 => ?_) (fun hc77 => ?_)
      · skip
        refine Go.iconst (q := 113) (z := (0 : Int32)) hx (hb hby at_112) rfl rfl ?_
        refine Go.istore (q := 115) (l' := #[.val (.int p1), .val (.int p2), .val (.int p3), .val (.int p4), .val (.int p5), .val (.int (3 : Int32)), .val (.int c0), .val (.int c1), .val (.int c2), .val (.int c3), .val (.ref sa), .val (.int (0 : Int32))]) hx (hb hby at_113) rfl rfl ?_
        refine Go.aload (q := 117) hx (hb hby at_115) rfl (by rfl) rfl ?_
        refine Go.callS (q := 120) hx hZ (argsL := [(.ref sa)]) (rest := []) hown (tw hw 28 rfl) (tw hw 29 rfl) (tw hw 30 rfl) (tw hw 31 rfl) (by decide) (rmAs3 l Z a0 hw hel sa cst fv c0 c1 c2 h1508 n0 (Nat.le_trans Z0 K1510.1) T1511 hq0 hq1 hq2 (X0.keep K1510 all0) SC hcs AD HB LB PF hfv) (fun _ hx => nomatch hx) (by rw [hml]; rfl) pd_19 rfl rfl (hb hby at_117) rfl (by decide) (ble rfl) (ce' := 4) (sl' := 20) rfl rfl (by decide) (by decide) (fun v1516 h1517 hQ1518 => ?_)
        obtain ⟨hv1519, rfl⟩ := hQ1518
        rw [if_neg (fun q => absurd q.2.1 hc77)] at hv1519
        subst hv1519
        show Go _ _ _ _ _ _ _ _ _ _ _ _ _ _ _ _ _ _ _ _ 4 20 120 #[.val (.int p1), .val (.int p2), .val (.int p3), .val (.int p4), .val (.int p5), .val (.int (3 : Int32)), .val (.int c0), .val (.int c1), .val (.int c2), .val (.int c3), .val (.ref sa), .val (.int (0 : Int32))] [(.int (0 : Int32))]
        refine Go.iload (q := 122) hx (hb hby at_120) rfl rfl ?_
        refine Go.icmp_ne (q := 125) (t := 129) hx (hb hby at_122) (by decide) rfl rfl (fun hc122 => absurd hc122 (by decide)) (fun hc122 => ?_)
        refine Go.iconst (q := 126) (z := (1 : Int32)) hx (hb hby at_125) rfl rfl ?_
        refine Go.goto (q := 130) hx (hb hby at_126) (by decide) rfl ?_
        refine Go.retN hx (t := .boolean) hret (by simp) hlk (hb hby at_130) (by decide) (by decide) ?_
        rfl
      · skip
        refine Go.iload (q := 82) hx (hb hby at_80) rfl rfl ?_
        refine Go.iconst (q := 83) (z := (3 : Int32)) hx (hb hby at_82) rfl rfl ?_
        refine Go.icmp_lt (q := 86) (t := 94) hx (hb hby at_83) (by decide) rfl rfl (fun hc83 => absurd hc83 (by decide)) (fun hc83 => ?_)
        refine Go.iload (q := 88) hx (hb hby at_86) rfl rfl ?_
        refine Go.sipush (q := 91) (z := (128 : Int32)) hx (hb hby at_88) rfl rfl ?_
        refine Go.icmp_ge (q := 94) (t := 112) hx (hb hby at_91) (by decide) rfl rfl (fun hc91 => ?_) (fun hc91 => ?_)
        · skip
          refine Go.iconst (q := 113) (z := (0 : Int32)) hx (hb hby at_112) rfl rfl ?_
          refine Go.istore (q := 115) (l' := #[.val (.int p1), .val (.int p2), .val (.int p3), .val (.int p4), .val (.int p5), .val (.int (3 : Int32)), .val (.int c0), .val (.int c1), .val (.int c2), .val (.int c3), .val (.ref sa), .val (.int (0 : Int32))]) hx (hb hby at_113) rfl rfl ?_
          refine Go.aload (q := 117) hx (hb hby at_115) rfl (by rfl) rfl ?_
          refine Go.callS (q := 120) hx hZ (argsL := [(.ref sa)]) (rest := []) hown (tw hw 28 rfl) (tw hw 29 rfl) (tw hw 30 rfl) (tw hw 31 rfl) (by decide) (rmAs3 l Z a0 hw hel sa cst fv c0 c1 c2 h1508 n0 (Nat.le_trans Z0 K1510.1) T1511 hq0 hq1 hq2 (X0.keep K1510 all0) SC hcs AD HB LB PF hfv) (fun _ hx => nomatch hx) (by rw [hml]; rfl) pd_19 rfl rfl (hb hby at_117) rfl (by decide) (ble rfl) (ce' := 4) (sl' := 20) rfl rfl (by decide) (by decide) (fun v1520 h1521 hQ1522 => ?_)
          obtain ⟨hv1523, rfl⟩ := hQ1522
          rw [if_neg (fun q => absurd q.2.2 hc91)] at hv1523
          subst hv1523
          show Go _ _ _ _ _ _ _ _ _ _ _ _ _ _ _ _ _ _ _ _ 4 20 120 #[.val (.int p1), .val (.int p2), .val (.int p3), .val (.int p4), .val (.int p5), .val (.int (3 : Int32)), .val (.int c0), .val (.int c1), .val (.int c2), .val (.int c3), .val (.ref sa), .val (.int (0 : Int32))] [(.int (0 : Int32))]
          refine Go.iload (q := 122) hx (hb hby at_120) rfl rfl ?_
          refine Go.icmp_ne (q := 125) (t := 129) hx (hb hby at_122) (by decide) rfl rfl (fun hc122 => absurd hc122 (by decide)) (fun hc122 => ?_)
          refine Go.iconst (q := 126) (z := (1 : Int32)) hx (hb hby at_125) rfl rfl ?_
          refine Go.goto (q := 130) hx (hb hby at_126) (by decide) rfl ?_
          refine Go.retN hx (t := .boolean) hret (by simp) hlk (hb hby at_130) (by decide) (by decide) ?_
          rfl
        · skip
          refine Go.iload (q := 96) hx (hb hby at_94) rfl rfl ?_
          refine Go.iconst (q := 97) (z := (4 : Int32)) hx (hb hby at_96) rfl rfl ?_
          refine Go.icmp_lt (q := 100) (t := 108) hx (hb hby at_97) (by decide) rfl rfl (fun hc97 => ?_) (fun hc97 => absurd hc97 (by decide))
          refine Go.iconst (q := 109) (z := (1 : Int32)) hx (hb hby at_108) rfl rfl ?_
          refine Go.goto (q := 113) hx (hb hby at_109) (by decide) rfl ?_
          refine Go.istore (q := 115) (l' := #[.val (.int p1), .val (.int p2), .val (.int p3), .val (.int p4), .val (.int p5), .val (.int (3 : Int32)), .val (.int c0), .val (.int c1), .val (.int c2), .val (.int c3), .val (.ref sa), .val (.int (1 : Int32))]) hx (hb hby at_113) rfl rfl ?_
          refine Go.aload (q := 117) hx (hb hby at_115) rfl (by rfl) rfl ?_
          refine Go.callS (q := 120) hx hZ (argsL := [(.ref sa)]) (rest := []) hown (tw hw 28 rfl) (tw hw 29 rfl) (tw hw 30 rfl) (tw hw 31 rfl) (by decide) (rmAs3 l Z a0 hw hel sa cst fv c0 c1 c2 h1508 n0 (Nat.le_trans Z0 K1510.1) T1511 hq0 hq1 hq2 (X0.keep K1510 all0) SC hcs AD HB LB PF hfv) (fun _ hx => nomatch hx) (by rw [hml]; rfl) pd_19 rfl rfl (hb hby at_117) rfl (by decide) (ble rfl) (ce' := 4) (sl' := 20) rfl rfl (by decide) (by decide) (fun v1524 h1525 hQ1526 => ?_)
          obtain ⟨hv1527, rfl⟩ := hQ1526
          rw [if_pos ⟨hc63, hc77, hc91⟩] at hv1527
          subst hv1527
          show Go _ _ _ _ _ _ _ _ _ _ _ _ _ _ _ _ _ _ _ _ 4 20 120 #[.val (.int p1), .val (.int p2), .val (.int p3), .val (.int p4), .val (.int p5), .val (.int (3 : Int32)), .val (.int c0), .val (.int c1), .val (.int c2), .val (.int c3), .val (.ref sa), .val (.int (1 : Int32))] [(.int (1 : Int32))]
          refine Go.iload (q := 122) hx (hb hby at_120) rfl rfl ?_
          refine Go.icmp_ne (q := 125) (t := 129) hx (hb hby at_122) (by decide) rfl rfl (fun hc122 => absurd hc122 (by decide)) (fun hc122 => ?_)
          refine Go.iconst (q := 126) (z := (1 : Int32)) hx (hb hby at_125) rfl rfl ?_
          refine Go.goto (q := 130) hx (hb hby at_126) (by decide) rfl ?_
          refine Go.retN hx (t := .boolean) hret (by simp) hlk (hb hby at_130) (by decide) (by decide) ?_
          rfl
  · rw [hk1467]
    refine Go.istore (q := 8) (l' := #[.val (.int p1), .val (.int p2), .val (.int p3), .val (.int p4), .val (.int p5), .val (.int (4 : Int32)), .unset, .unset, .unset, .unset, .unset, .unset]) hx (hb hby at_6) rfl rfl ?_
    refine Go.iloadN (q := 9) hx (hb hby at_8) rfl rfl ?_
    refine Go.ldcInt (q := 11) hx hZ hown (tw hw 1 rfl) (hb hby at_9) rfl ?_
    refine Go.iand (q := 12) hx (hb hby at_11) rfl ?_
    refine Go.i2c (q := 13) hx (hb hby at_12) rfl ?_
    obtain ⟨c0, e0, hq0⟩ : ∃ c, (p2 &&& (65535 : Int32)).toUInt32.toUInt16.toUInt32.toInt32 = c ∧ Chr c := ⟨_, rfl, chr_of _⟩
    rw [e0]
    refine Go.istore (q := 15) (l' := #[.val (.int p1), .val (.int p2), .val (.int p3), .val (.int p4), .val (.int p5), .val (.int (4 : Int32)), .val (.int c0), .unset, .unset, .unset, .unset, .unset]) hx (hb hby at_13) rfl rfl ?_
    refine Go.iloadN (q := 16) hx (hb hby at_15) rfl rfl ?_
    refine Go.ldcInt (q := 18) hx hZ hown (tw hw 1 rfl) (hb hby at_16) rfl ?_
    refine Go.iand (q := 19) hx (hb hby at_18) rfl ?_
    refine Go.i2c (q := 20) hx (hb hby at_19) rfl ?_
    obtain ⟨c1, e1, hq1⟩ : ∃ c, (p3 &&& (65535 : Int32)).toUInt32.toUInt16.toUInt32.toInt32 = c ∧ Chr c := ⟨_, rfl, chr_of _⟩
    rw [e1]
    refine Go.istore (q := 22) (l' := #[.val (.int p1), .val (.int p2), .val (.int p3), .val (.int p4), .val (.int p5), .val (.int (4 : Int32)), .val (.int c0), .val (.int c1), .unset, .unset, .unset, .unset]) hx (hb hby at_20) rfl rfl ?_
    refine Go.iloadN (q := 23) hx (hb hby at_22) rfl rfl ?_
    refine Go.ldcInt (q := 25) hx hZ hown (tw hw 1 rfl) (hb hby at_23) rfl ?_
    refine Go.iand (q := 26) hx (hb hby at_25) rfl ?_
    refine Go.i2c (q := 27) hx (hb hby at_26) rfl ?_
    obtain ⟨c2, e2, hq2⟩ : ∃ c, (p4 &&& (65535 : Int32)).toUInt32.toUInt16.toUInt32.toInt32 = c ∧ Chr c := ⟨_, rfl, chr_of _⟩
    rw [e2]
    refine Go.istore (q := 29) (l' := #[.val (.int p1), .val (.int p2), .val (.int p3), .val (.int p4), .val (.int p5), .val (.int (4 : Int32)), .val (.int c0), .val (.int c1), .val (.int c2), .unset, .unset, .unset]) hx (hb hby at_27) rfl rfl ?_
    refine Go.iload (q := 31) hx (hb hby at_29) rfl rfl ?_
    refine Go.ldcInt (q := 33) hx hZ hown (tw hw 1 rfl) (hb hby at_31) rfl ?_
    refine Go.iand (q := 34) hx (hb hby at_33) rfl ?_
    refine Go.i2c (q := 35) hx (hb hby at_34) rfl ?_
    obtain ⟨c3, e3, hq3⟩ : ∃ c, (p5 &&& (65535 : Int32)).toUInt32.toUInt16.toUInt32.toInt32 = c ∧ Chr c := ⟨_, rfl, chr_of _⟩
    rw [e3]
    refine Go.istore (q := 37) (l' := #[.val (.int p1), .val (.int p2), .val (.int p3), .val (.int p4), .val (.int p5), .val (.int (4 : Int32)), .val (.int c0), .val (.int c1), .val (.int c2), .val (.int c3), .unset, .unset]) hx (hb hby at_35) rfl rfl ?_
    refine Go.iload (q := 39) hx (hb hby at_37) rfl rfl ?_
    refine Go.iload (q := 41) hx (hb hby at_39) rfl rfl ?_
    refine Go.iload (q := 43) hx (hb hby at_41) rfl rfl ?_
    refine Go.iload (q := 45) hx (hb hby at_43) rfl rfl ?_
    refine Go.iload (q := 47) hx (hb hby at_45) rfl rfl ?_
    refine Go.callS (q := 50) hx hZ (argsL := [(.int (4 : Int32)), (.int c0), (.int c1), (.int c2), (.int c3)]) (rest := []) hown (tw hw 2 rfl) (tw hw 3 rfl) (tw hw 4 rfl) (tw hw 5 rfl) (by decide) (rmM4 l Z a0 hw hel cst c0 c1 c2 c3 h0 n0 Z0 hq0 hq1 hq2 hq3 X0 SC hcs AD HB LB) (fun _ hx => nomatch hx) (by rw [hml]; rfl) pd_18 rfl rfl (hb hby at_47) rfl (by decide) (ble rfl) (ce' := 4) (sl' := 20) rfl rfl (by decide) (by decide) (fun v1528 h1529 hQ1530 => ?_)
    obtain ⟨sa, rfl, K1531, T1532⟩ := hQ1530
    show Go _ _ _ _ _ _ _ _ _ _ _ _ _ _ _ _ _ _ _ _ 4 20 50 #[.val (.int p1), .val (.int p2), .val (.int p3), .val (.int p4), .val (.int p5), .val (.int (4 : Int32)), .val (.int c0), .val (.int c1), .val (.int c2), .val (.int c3), .unset, .unset] [(.ref sa)]
    refine Go.astore (q := 52) (l' := #[.val (.int p1), .val (.int p2), .val (.int p3), .val (.int p4), .val (.int p5), .val (.int (4 : Int32)), .val (.int c0), .val (.int c1), .val (.int c2), .val (.int c3), .val (.ref sa), .unset]) hx (hb hby at_50) (by rfl) rfl rfl ?_
    refine Go.iload (q := 54) hx (hb hby at_52) rfl rfl ?_
    refine Go.iconst (q := 55) (z := (1 : Int32)) hx (hb hby at_54) rfl rfl ?_
    refine Go.icmp_lt (q := 58) (t := 66) hx (hb hby at_55) (by decide) rfl rfl (fun hc55 => absurd hc55 (by decide)) (fun hc55 => ?_)
    refine Go.iload (q := 60) hx (hb hby at_58) rfl rfl ?_
    refine Go.sipush (q := 63) (z := (128 : Int32)) hx (hb hby at_60) rfl rfl ?_
    refine Go.icmp_ge (q := 66) (t := 112) hx (hb hby at_63) (by decide) rfl rfl (fun hc63 => ?_) (fun hc63 => ?_)
    · skip
      refine Go.iconst (q := 113) (z := (0 : Int32)) hx (hb hby at_112) rfl rfl ?_
      refine Go.istore (q := 115) (l' := #[.val (.int p1), .val (.int p2), .val (.int p3), .val (.int p4), .val (.int p5), .val (.int (4 : Int32)), .val (.int c0), .val (.int c1), .val (.int c2), .val (.int c3), .val (.ref sa), .val (.int (0 : Int32))]) hx (hb hby at_113) rfl rfl ?_
      refine Go.aload (q := 117) hx (hb hby at_115) rfl (by rfl) rfl ?_
      refine Go.callS (q := 120) hx hZ (argsL := [(.ref sa)]) (rest := []) hown (tw hw 28 rfl) (tw hw 29 rfl) (tw hw 30 rfl) (tw hw 31 rfl) (by decide) (rmAs4 l Z a0 hw hel sa cst fv c0 c1 c2 c3 h1529 n0 (Nat.le_trans Z0 K1531.1) T1532 hq0 hq1 hq2 hq3 (X0.keep K1531 all0) SC hcs AD HB LB PF hfv) (fun _ hx => nomatch hx) (by rw [hml]; rfl) pd_19 rfl rfl (hb hby at_117) rfl (by decide) (ble rfl) (ce' := 4) (sl' := 20) rfl rfl (by decide) (by decide) (fun v1533 h1534 hQ1535 => ?_)
      obtain ⟨hv1536, rfl⟩ := hQ1535
      rw [if_neg (fun q => absurd q.1 hc63)] at hv1536
      subst hv1536
      show Go _ _ _ _ _ _ _ _ _ _ _ _ _ _ _ _ _ _ _ _ 4 20 120 #[.val (.int p1), .val (.int p2), .val (.int p3), .val (.int p4), .val (.int p5), .val (.int (4 : Int32)), .val (.int c0), .val (.int c1), .val (.int c2), .val (.int c3), .val (.ref sa), .val (.int (0 : Int32))] [(.int (0 : Int32))]
      refine Go.iload (q := 122) hx (hb hby at_120) rfl rfl ?_
      refine Go.icmp_ne (q := 125) (t := 129) hx (hb hby at_122) (by decide) rfl rfl (fun hc122 => absurd hc122 (by decide)) (fun hc122 => ?_)
      refine Go.iconst (q := 126) (z := (1 : Int32)) hx (hb hby at_125) rfl rfl ?_
      refine Go.goto (q := 130) hx (hb hby at_126) (by decide) rfl ?_
      refine Go.retN hx (t := .boolean) hret (by simp) hlk (hb hby at_130) (by decide) (by decide) ?_
      rfl
    · skip
      refine Go.iload (q := 68) hx (hb hby at_66) rfl rfl ?_
      refine Go.iconst (q := 69) (z := (2 : Int32)) hx (hb hby at_68) rfl rfl ?_
      refine Go.icmp_lt (q := 72) (t := 80) hx (hb hby at_69) (by decide) rfl rfl (fun hc69 => absurd hc69 (by decide)) (fun hc69 => ?_)
      refine Go.iload (q := 74) hx (hb hby at_72) rfl rfl ?_
      refine Go.sipush (q := 77) (z := (128 : Int32)) hx (hb hby at_74) rfl rfl ?_
      refine Go.icmp_ge (q := 80) (t := 112) hx (hb hby at_77) (by decide) rfl rfl (fun hc77 => ?_) (fun hc77 => ?_)
      · skip
        refine Go.iconst (q := 113) (z := (0 : Int32)) hx (hb hby at_112) rfl rfl ?_
        refine Go.istore (q := 115) (l' := #[.val (.int p1), .val (.int p2), .val (.int p3), .val (.int p4), .val (.int p5), .val (.int (4 : Int32)), .val (.int c0), .val (.int c1), .val (.int c2), .val (.int c3), .val (.ref sa), .val (.int (0 : Int32))]) hx (hb hby at_113) rfl rfl ?_
        refine Go.aload (q := 117) hx (hb hby at_115) rfl (by rfl) rfl ?_
        refine Go.callS (q := 120) hx hZ (argsL := [(.ref sa)]) (rest := []) hown (tw hw 28 rfl) (tw hw 29 rfl) (tw hw 30 rfl) (tw hw 31 rfl) (by decide) (rmAs4 l Z a0 hw hel sa cst fv c0 c1 c2 c3 h1529 n0 (Nat.le_trans Z0 K1531.1) T1532 hq0 hq1 hq2 hq3 (X0.keep K1531 all0) SC hcs AD HB LB PF hfv) (fun _ hx => nomatch hx) (by rw [hml]; rfl) pd_19 rfl rfl (hb hby at_117) rfl (by decide) (ble rfl) (ce' := 4) (sl' := 20) rfl rfl (by decide) (by decide) (fun v1537 h1538 hQ1539 => ?_)
        obtain ⟨hv1540, rfl⟩ := hQ1539
        rw [if_neg (fun q => absurd q.2.1 hc77)] at hv1540
        subst hv1540
        show Go _ _ _ _ _ _ _ _ _ _ _ _ _ _ _ _ _ _ _ _ 4 20 120 #[.val (.int p1), .val (.int p2), .val (.int p3), .val (.int p4), .val (.int p5), .val (.int (4 : Int32)), .val (.int c0), .val (.int c1), .val (.int c2), .val (.int c3), .val (.ref sa), .val (.int (0 : Int32))] [(.int (0 : Int32))]
        refine Go.iload (q := 122) hx (hb hby at_120) rfl rfl ?_
        refine Go.icmp_ne (q := 125) (t := 129) hx (hb hby at_122) (by decide) rfl rfl (fun hc122 => absurd hc122 (by decide)) (fun hc122 => ?_)
        refine Go.iconst (q := 126) (z := (1 : Int32)) hx (hb hby at_125) rfl rfl ?_
        refine Go.goto (q := 130) hx (hb hby at_126) (by decide) rfl ?_
        refine Go.retN hx (t := .boolean) hret (by simp) hlk (hb hby at_130) (by decide) (by decide) ?_
        rfl
      · skip
        refine Go.iload (q := 82) hx (hb hby at_80) rfl rfl ?_
        refine Go.iconst (q := 83) (z := (3 : Int32)) hx (hb hby at_82) rfl rfl ?_
        refine Go.icmp_lt (q := 86) (t := 94) hx (hb hby at_83) (by decide) rfl rfl (fun hc83 => absurd hc83 (by decide)) (fun hc83 => ?_)
        refine Go.iload (q := 88) hx (hb hby at_86) rfl rfl ?_
        refine Go.sipush (q := 91) (z := (128 : Int32)) hx (hb hby at_88) rfl rfl ?_
        refine Go.icmp_ge (q := 94) (t := 112) hx (hb hby at_91) (by decide) rfl rfl (fun hc91 => ?_) (fun hc91 => ?_)
        · skip
          refine Go.iconst (q := 113) (z := (0 : Int32)) hx (hb hby at_112) rfl rfl ?_
          refine Go.istore (q := 115) (l' := #[.val (.int p1), .val (.int p2), .val (.int p3), .val (.int p4), .val (.int p5), .val (.int (4 : Int32)), .val (.int c0), .val (.int c1), .val (.int c2), .val (.int c3), .val (.ref sa), .val (.int (0 : Int32))]) hx (hb hby at_113) rfl rfl ?_
          refine Go.aload (q := 117) hx (hb hby at_115) rfl (by rfl) rfl ?_
          refine Go.callS (q := 120) hx hZ (argsL := [(.ref sa)]) (rest := []) hown (tw hw 28 rfl) (tw hw 29 rfl) (tw hw 30 rfl) (tw hw 31 rfl) (by decide) (rmAs4 l Z a0 hw hel sa cst fv c0 c1 c2 c3 h1529 n0 (Nat.le_trans Z0 K1531.1) T1532 hq0 hq1 hq2 hq3 (X0.keep K1531 all0) SC hcs AD HB LB PF hfv) (fun _ hx => nomatch hx) (by rw [hml]; rfl) pd_19 rfl rfl (hb hby at_117) rfl (by decide) (ble rfl) (ce' := 4) (sl' := 20) rfl rfl (by decide) (by decide) (fun v1541 h1542 hQ1543 => ?_)
          obtain ⟨hv1544, rfl⟩ := hQ1543
          rw [if_neg (fun q => absurd q.2.2.1 hc91)] at hv1544
          subst hv1544
          show Go _ _ _ _ _ _ _ _ _ _ _ _ _ _ _ _ _ _ _ _ 4 20 120 #[.val (.int p1), .val (.int p2), .val (.int p3), .val (.int p4), .val (.int p5), .val (.int (4 : Int32)), .val (.int c0), .val (.int c1), .val (.int c2), .val (.int c3), .val (.ref sa), .val (.int (0 : Int32))] [(.int (0 : Int32))]
          refine Go.iload (q := 122) hx (hb hby at_120) rfl rfl ?_
          refine Go.icmp_ne (q := 125) (t := 129) hx (hb hby at_122) (by decide) rfl rfl (fun hc122 => absurd hc122 (by decide)) (fun hc122 => ?_)
          refine Go.iconst (q := 126) (z := (1 : Int32)) hx (hb hby at_125) rfl rfl ?_
          refine Go.goto (q := 130) hx (hb hby at_126) (by decide) rfl ?_
          refine Go.retN hx (t := .boolean) hret (by simp) hlk (hb hby at_130) (by decide) (by decide) ?_
          rfl
        · skip
          refine Go.iload (q := 96) hx (hb hby at_94) rfl rfl ?_
          refine Go.iconst (q := 97) (z := (4 : Int32)) hx (hb hby at_96) rfl rfl ?_
          refine Go.icmp_lt (q := 100) (t := 108) hx (hb hby at_97) (by decide) rfl rfl (fun hc97 => absurd hc97 (by decide)) (fun hc97 => ?_)
          refine Go.iload (q := 102) hx (hb hby at_100) rfl rfl ?_
          refine Go.sipush (q := 105) (z := (128 : Int32)) hx (hb hby at_102) rfl rfl ?_
          refine Go.icmp_ge (q := 108) (t := 112) hx (hb hby at_105) (by decide) rfl rfl (fun hc105 => ?_) (fun hc105 => ?_)
          · skip
            refine Go.iconst (q := 113) (z := (0 : Int32)) hx (hb hby at_112) rfl rfl ?_
            refine Go.istore (q := 115) (l' := #[.val (.int p1), .val (.int p2), .val (.int p3), .val (.int p4), .val (.int p5), .val (.int (4 : Int32)), .val (.int c0), .val (.int c1), .val (.int c2), .val (.int c3), .val (.ref sa), .val (.int (0 : Int32))]) hx (hb hby at_113) rfl rfl ?_
            refine Go.aload (q := 117) hx (hb hby at_115) rfl (by rfl) rfl ?_
            refine Go.callS (q := 120) hx hZ (argsL := [(.ref sa)]) (rest := []) hown (tw hw 28 rfl) (tw hw 29 rfl) (tw hw 30 rfl) (tw hw 31 rfl) (by decide) (rmAs4 l Z a0 hw hel sa cst fv c0 c1 c2 c3 h1529 n0 (Nat.le_trans Z0 K1531.1) T1532 hq0 hq1 hq2 hq3 (X0.keep K1531 all0) SC hcs AD HB LB PF hfv) (fun _ hx => nomatch hx) (by rw [hml]; rfl) pd_19 rfl rfl (hb hby at_117) rfl (by decide) (ble rfl) (ce' := 4) (sl' := 20) rfl rfl (by decide) (by decide) (fun v1545 h1546 hQ1547 => ?_)
            obtain ⟨hv1548, rfl⟩ := hQ1547
            rw [if_neg (fun q => absurd q.2.2.2 hc105)] at hv1548
            subst hv1548
            show Go _ _ _ _ _ _ _ _ _ _ _ _ _ _ _ _ _ _ _ _ 4 20 120 #[.val (.int p1), .val (.int p2), .val (.int p3), .val (.int p4), .val (.int p5), .val (.int (4 : Int32)), .val (.int c0), .val (.int c1), .val (.int c2), .val (.int c3), .val (.ref sa), .val (.int (0 : Int32))] [(.int (0 : Int32))]
            refine Go.iload (q := 122) hx (hb hby at_120) rfl rfl ?_
            refine Go.icmp_ne (q := 125) (t := 129) hx (hb hby at_122) (by decide) rfl rfl (fun hc122 => absurd hc122 (by decide)) (fun hc122 => ?_)
            refine Go.iconst (q := 126) (z := (1 : Int32)) hx (hb hby at_125) rfl rfl ?_
            refine Go.goto (q := 130) hx (hb hby at_126) (by decide) rfl ?_
            refine Go.retN hx (t := .boolean) hret (by simp) hlk (hb hby at_130) (by decide) (by decide) ?_
            rfl
          · skip
            refine Go.iconst (q := 109) (z := (1 : Int32)) hx (hb hby at_108) rfl rfl ?_
            refine Go.goto (q := 113) hx (hb hby at_109) (by decide) rfl ?_
            refine Go.istore (q := 115) (l' := #[.val (.int p1), .val (.int p2), .val (.int p3), .val (.int p4), .val (.int p5), .val (.int (4 : Int32)), .val (.int c0), .val (.int c1), .val (.int c2), .val (.int c3), .val (.ref sa), .val (.int (1 : Int32))]) hx (hb hby at_113) rfl rfl ?_
            refine Go.aload (q := 117) hx (hb hby at_115) rfl (by rfl) rfl ?_
            refine Go.callS (q := 120) hx hZ (argsL := [(.ref sa)]) (rest := []) hown (tw hw 28 rfl) (tw hw 29 rfl) (tw hw 30 rfl) (tw hw 31 rfl) (by decide) (rmAs4 l Z a0 hw hel sa cst fv c0 c1 c2 c3 h1529 n0 (Nat.le_trans Z0 K1531.1) T1532 hq0 hq1 hq2 hq3 (X0.keep K1531 all0) SC hcs AD HB LB PF hfv) (fun _ hx => nomatch hx) (by rw [hml]; rfl) pd_19 rfl rfl (hb hby at_117) rfl (by decide) (ble rfl) (ce' := 4) (sl' := 20) rfl rfl (by decide) (by decide) (fun v1549 h1550 hQ1551 => ?_)
            obtain ⟨hv1552, rfl⟩ := hQ1551
            rw [if_pos ⟨hc63, hc77, hc91, hc105⟩] at hv1552
            subst hv1552
            show Go _ _ _ _ _ _ _ _ _ _ _ _ _ _ _ _ _ _ _ _ 4 20 120 #[.val (.int p1), .val (.int p2), .val (.int p3), .val (.int p4), .val (.int p5), .val (.int (4 : Int32)), .val (.int c0), .val (.int c1), .val (.int c2), .val (.int c3), .val (.ref sa), .val (.int (1 : Int32))] [(.int (1 : Int32))]
            refine Go.iload (q := 122) hx (hb hby at_120) rfl rfl ?_
            refine Go.icmp_ne (q := 125) (t := 129) hx (hb hby at_122) (by decide) rfl rfl (fun hc122 => absurd hc122 (by decide)) (fun hc122 => ?_)
            refine Go.iconst (q := 126) (z := (1 : Int32)) hx (hb hby at_125) rfl rfl ?_
            refine Go.goto (q := 130) hx (hb hby at_126) (by decide) rfl ?_
            refine Go.retN hx (t := .boolean) hret (by simp) hlk (hb hby at_130) (by decide) (by decide) ?_
            rfl
theorem comes_1 {Post : Tables → Env → Array Value → State → Outcome → State → Prop} (hpost : ∀ tb e args s v u, (limb_1_1.after args s (.returned v) u = true ∧ limb_1_2.after args s (.returned v) u = true ∧ True) → ReturnedEndW s (.returned v) u (Jvm.fieldLocs frame_1_writes args s ++ Jvm.arrayLocs frame_1_arrays args s ++ Jvm.staticLocs frame_1_statics s) 24 1152 → Post tb e args s (.returned v) u) :
    ArmFor flags0 classFile x code maxLocals ret World_1 tables_1 room_1 Calls_1 rest_1 Pre_1 Post := by
  intro l hfl _ _ p e ha hc hk s m args below hf hA hF happ hP
  obtain ⟨hcalls, hrest, hpre⟩ := hP
  obtain ⟨-, -, -, hnamed, -, -, -, hat⟩ := (Spec.applies_iff hf).mp happ
  obtain ⟨hg, hn⟩ := and_e (Cond.before_iff.mp (show (Jvm.Cond.and given_1 narrow_1).before args s = true from hpre))
  obtain ⟨hcnt, hk0⟩ := and_e hg
  obtain ⟨ha0, hk1⟩ := and_e hk0
  obtain ⟨ha1, hk2⟩ := and_e hk1
  obtain ⟨ha2, hk3⟩ := and_e hk2
  obtain ⟨ha3, hk4⟩ := and_e hk3
  obtain ⟨w0, w1, w2, w3, w4, rfl⟩ : ∃ w0 w1 w2 w3 w4 : Value, args = #[w0, w1, w2, w3, w4] := by
    have hs : args.size = 5 := by simpa [Cond.value, given_1] using hcnt
    obtain ⟨L⟩ := args
    match L, hs with
    | [w0, w1, w2, w3, w4], _ => exact ⟨w0, w1, w2, w3, w4, rfl⟩
  have hw := fun d (hd : d ∈ tables_1) => atoms_spec (ws := Jvm.Cond.code x code maxLocals ret :: tables_1) hat d (List.mem_cons_of_mem _ hd)
  obtain ⟨hsets, hown0⟩ := atoms_of _ (rest_1_c_eq ▸ (show rest_1_c.before _ s = true from hrest))
  have hfit : Fit s := fun {y c} hc i hi => by
    obtain ⟨ha, rfl⟩ := Array.getElem?_eq_some_iff.mp hc
    have q := List.all_eq_true.mp ((Array.all_eq_true_iff_forall_mem.mp hF) _ (Array.getElem_mem ha)) i (List.mem_range.mpr hi)
    simpa [Array.getElem?_eq_getElem hi] using q
  obtain ⟨i0, ei0⟩ := is_v ha0
  obtain rfl : w0 = (.int i0) := Option.some.inj ei0
  obtain ⟨i1, ei1⟩ := is_v ha1
  obtain rfl : w1 = (.int i1) := Option.some.inj ei1
  obtain ⟨i2, ei2⟩ := is_v ha2
  obtain rfl : w2 = (.int i2) := Option.some.inj ei2
  obtain ⟨i3, ei3⟩ := is_v ha3
  obtain rfl : w3 = (.int i3) := Option.some.inj ei3
  obtain ⟨i4, ei4⟩ := is_v hk4
  obtain rfl : w4 = (.int i4) := Option.some.inj ei4
  have hel : EW s _ consts_1 := EW.cons (tw hw 20 rfl) (by decide) EW.nil
  have hCH : CHv s consts_1 s.vm s.heap := CHv.start hel hcalls.1 (hsets _ (List.mem_of_getElem? (i := 2) rfl)) (tw hw 21 rfl) (tw hw 7 rfl)
  have n5 := not_v (Cond.before_iff.mp (hsets _ (List.mem_of_getElem? (i := 2) rfl)))
  obtain ⟨cst, e6⟩ := is_v (Cond.before_iff.mp (hsets _ (List.mem_of_getElem? (i := 1) rfl)))
  have SC : Sta s s.heap "java/lang/String" "COMPACT_STRINGS" "Z" (.int cst) := Sta.start e6 (Or.inl (hsets _ (List.mem_of_getElem? (i := 0) rfl)))
  have hcs : ¬ (cst = (0 : Int32)) := gotF (Cond.eq_ints e6 (Term.int_eval (0))) n5
  have AD := Sta.start (eqv_i (Term.int_eval (1 : Int32)) (Cond.before_iff.mp (hsets _ (List.mem_of_getElem? (i := 12) rfl)))) (Or.inl (hsets _ (List.mem_of_getElem? (i := 11) rfl)))
  have HB := Sta.start (eqv_i (Term.int_eval (0 : Int32)) (Cond.before_iff.mp (hsets _ (List.mem_of_getElem? (i := 15) rfl)))) (Or.inl (hsets _ (List.mem_of_getElem? (i := 14) rfl)))
  have LB := Sta.start (eqv_i (Term.int_eval (8 : Int32)) (Cond.before_iff.mp (hsets _ (List.mem_of_getElem? (i := 18) rfl)))) (Or.inl (hsets _ (List.mem_of_getElem? (i := 17) rfl)))
  obtain ⟨fv, ef, hfv⟩ := isR_v (Cond.before_iff.mp (hsets _ (List.mem_of_getElem? (i := 8) rfl)))
  have PF := Sta.start ef (Or.inl (hsets _ (List.mem_of_getElem? (i := 7) rfl)))
  obtain ⟨n, o, h1, h2, h3, _, L, rfl, ⟨rfl, N⟩, -, hq⟩ := rm0 l s _ hw hel i0 i1 i2 i3 i4 cst fv s.heap s.heap.size (Nat.le_refl _) (Old.start s) SC hcs AD HB LB PF hfv p e ha hc hk s m _ below hf ((Spec.applies_iff_loose hf).mp happ).1 ⟨rfl, State.Warmed39.refl s, rfl, hCH, fun _ hx => nomatch hx⟩ trivial
  refine ⟨n, _, h1, h2, h3, hpost _ _ _ _ _ _ ⟨Cond.after_iff.mpr rfl, Cond.after_iff.mpr (eq_i res_at (Term.int_eval (1)) rfl), trivial⟩ ⟨hq.1, hq.2.1, hq.2.2.1, (hq.2.2.2.sift fun y hy => Or.inr (N y hy)).mono (by decide) (by decide)⟩⟩
theorem main_1_1 : Claimed_1_1 := comes_1 fun _ _ _ _ _ _ h hF => ⟨h.1, hF⟩
theorem main_1_2 : Claimed_1_2 := comes_1 fun _ _ _ _ _ _ h hF => ⟨h.2.1, hF⟩
end Jvm.Pilot.@@N@@
namespace Jvm.Pilot.@@N@@
open Jvm Jvm.ClassFile Sem Op Lib Jvm.Free Jvm.Stand Jvm.Pilot.@@N@@.Jvm.D
/-! MADE BY PROGRAM (witnessworld.py) out of the Statement's table words and the real class files: 18 classes; the members and pool entries that the words name. The judged class is class 1, her method 1. -/
namespace start1
open Jvm.ClassFile
def u (s : String) : CpInfo := .utf8 (stringToUtf16 s)
/-- a pool by its gaps: so many unusable entries, then the entry; so many at the end -/
def gap : Nat → List CpInfo → List CpInfo
  | 0, r => r
  | n + 1, r => .unusable :: gap n r
def poolList (es : List (Nat × CpInfo)) (last : Nat) : List CpInfo := es.foldr (fun e r => gap e.1 (e.2 :: r)) (gap last [])
def pool (es : List (Nat × CpInfo)) (last : Nat) : Array CpInfo := ⟨poolList es last⟩
def fileOf (pool : Array CpInfo) (this : Nat) (attrs : Array Attribute := #[]) (ms : Array MethodInfo := #[]) (fl : Nat := 33) (sup : Nat := 0) (ifs : Array Nat := #[]) (fds : Array FieldInfo := #[]) : ClassFile where
  minorVersion := 0
  majorVersion := 65
  constantPool := pool
  accessFlags := fl
  thisClass := this
  superClass := sup
  interfaces := ifs
  fields := fds
  methods := ms
  attributes := attrs
def plain (name : String) (sup : Option ClassId) : Class where
  name := name
  kind := .ordinary
  loader := none
  accessFlags := 33
  super := sup
  interfaces := #[]
  cf := none
  fields := #[]
  methods := #[]
  instanceTypes := #[]
  staticTypes := #[]
  resolved := #[]
  callSites := []
  init := .initialized
  statics := none
  mirror := none

def pool0 : Array CpInfo := pool [(5, u "<init>"), (0, u "()V"), (1, .class_ 10), (1, u "java/lang/Object")] 113

def k0c0 : Code := { maxStack := 0, maxLocals := 1, code := object_method_1_code, exceptionTable := #[], attributes := #[] }
def k0m0 : Method := { name := "<init>", desc := "()V", sig := { parameters := [], returnType := none }, accessFlags := 1, code := some k0c0 }
/-- java/lang/Object -/
def k0 : Class := { plain "java/lang/Object" none with
  accessFlags := 33
  interfaces := #[]
  cf := some (fileOf pool0 8 #[] #[{ accessFlags := 1, nameIndex := 5, descriptorIndex := 6, attributes := #[] }] 33 0 #[] #[])
  fields := #[]
  methods := #[k0m0]
  instanceTypes := #[]
  staticTypes := #[]
  resolved := Array.replicate 124 none
  statics := none }

def pool1 : Array CpInfo := pool [(2, .class_ 4), (1, u "java/lang/Object"), (0, u "<init>"), (0, u "()V"), (0, .integer 2147483647), (0, .integer 65535), (0, .methodref 10 11), (0, .class_ 12), (0, .nameAndType 13 14), (0, u "com/example/epithet/epithet/store/MappedTableIsAsciiPinLaw"), (0, u "make"), (0, u "(ICCCC)Ljava/lang/String;"), (0, .methodref 16 17), (0, .class_ 18), (0, .nameAndType 19 20), (0, u "com/example/epithet/epithet/store/MappedTable"), (0, u "isAscii"), (0, u "(Ljava/lang/String;)Z"), (0, .class_ 22), (0, u "java/lang/String"), (0, .methodref 21 24), (0, .nameAndType 5 25), (0, u "([C)V"), (2, u "law"), (0, u "(IIIII)Z")] 3

def k1m0 : Method := { name := "<init>", desc := "()V", sig := { parameters := [], returnType := none }, accessFlags := 2, code := none }
def k1c1 : Code := { maxStack := 5, maxLocals := 12, code := code, exceptionTable := #[], attributes := #[] }
def k1m1 : Method := { name := "law", desc := "(IIIII)Z", sig := { parameters := [.int, .int, .int, .int, .int], returnType := some .boolean }, accessFlags := 9, code := some k1c1 }
def k1c2 : Code := { maxStack := 6, maxLocals := 5, code := method_3_code, exceptionTable := #[], attributes := #[] }
def k1m2 : Method := { name := "make", desc := "(ICCCC)Ljava/lang/String;", sig := { parameters := [.int, .char, .char, .char, .char], returnType := some (.object "java/lang/String") }, accessFlags := 10, code := some k1c2 }
/-- com/example/epithet/epithet/store/MappedTableIsAsciiPinLaw -/
def k1 : Class := { plain "com/example/epithet/epithet/store/MappedTableIsAsciiPinLaw" (some 0) with
  accessFlags := 49
  interfaces := #[]
  cf := some (fileOf pool1 10 #[] #[{ accessFlags := 2, nameIndex := 5, descriptorIndex := 6, attributes := #[] }, { accessFlags := 9, nameIndex := 28, descriptorIndex := 29, attributes := #[] }, { accessFlags := 10, nameIndex := 13, descriptorIndex := 14, attributes := #[] }] 49 2 #[] #[])
  fields := #[]
  methods := #[k1m0, k1m1, k1m2]
  instanceTypes := #[]
  staticTypes := #[]
  resolved := Array.replicate 33 none
  statics := none }

def pool2 : Array CpInfo := pool [(1, .class_ 2), (0, u "java/io/Serializable"), (0, .class_ 4), (0, u "java/lang/Object")] 2

/-- java/io/Serializable -/
def k2 : Class := { plain "java/io/Serializable" (some 0) with
  accessFlags := 1537
  interfaces := #[]
  cf := some (fileOf pool2 1 #[] #[] 1537 3 #[] #[])
  fields := #[]
  methods := #[]
  instanceTypes := #[]
  staticTypes := #[]
  resolved := Array.replicate 7 none
  statics := none }

def pool3 : Array CpInfo := pool [(1, .class_ 2), (0, u "java/lang/Comparable"), (0, .class_ 4), (0, u "java/lang/Object")] 7

/-- java/lang/Comparable -/
def k3 : Class := { plain "java/lang/Comparable" (some 0) with
  accessFlags := 1537
  interfaces := #[]
  cf := some (fileOf pool3 1 #[] #[] 1537 3 #[] #[])
  fields := #[]
  methods := #[]
  instanceTypes := #[]
  staticTypes := #[]
  resolved := Array.replicate 12 none
  statics := none }

def pool4 : Array CpInfo := pool [(2, .class_ 4), (1, u "java/lang/CharSequence"), (42, .class_ 48), (0, u "java/lang/CharSequence$1CodePointIterator"), (10, .class_ 60), (0, u "java/lang/CharSequence$1CharIterator"), (5, .class_ 67), (0, u "java/lang/Object")] 63

/-- java/lang/CharSequence -/
def k4 : Class := { plain "java/lang/CharSequence" (some 0) with
  accessFlags := 1537
  interfaces := #[]
  cf := some (fileOf pool4 2 #[.nestMembers #[47, 59]] #[] 1537 66 #[] #[])
  fields := #[]
  methods := #[]
  instanceTypes := #[]
  staticTypes := #[]
  resolved := Array.replicate 131 none
  statics := none }

def pool5 : Array CpInfo := pool [(1, .class_ 2), (0, u "java/lang/constant/Constable"), (0, .class_ 4), (0, u "java/lang/Object")] 6

/-- java/lang/constant/Constable -/
def k5 : Class := { plain "java/lang/constant/Constable" (some 0) with
  accessFlags := 1537
  interfaces := #[]
  cf := some (fileOf pool5 1 #[] #[] 1537 3 #[] #[])
  fields := #[]
  methods := #[]
  instanceTypes := #[]
  staticTypes := #[]
  resolved := Array.replicate 11 none
  statics := none }

def pool6 : Array CpInfo := pool [(1, .class_ 2), (0, u "java/lang/constant/ConstantDesc"), (0, .class_ 4), (0, u "java/lang/Object")] 32

/-- java/lang/constant/ConstantDesc -/
def k6 : Class := { plain "java/lang/constant/ConstantDesc" (some 0) with
  accessFlags := 1537
  interfaces := #[]
  cf := some (fileOf pool6 1 #[] #[] 1537 3 #[] #[])
  fields := #[]
  methods := #[]
  instanceTypes := #[]
  staticTypes := #[]
  resolved := Array.replicate 37 none
  statics := none }

def pool7 : Array CpInfo := pool [(1, .methodref 2 3), (0, .class_ 4), (0, .nameAndType 5 6), (0, u "java/lang/Object"), (0, u "<init>"), (0, u "()V"), (0, .string 8), (0, u ""), (0, .fieldref 10 11), (0, .class_ 12), (0, .nameAndType 13 14), (0, u "java/lang/String"), (0, u "value"), (0, u "[B"), (0, .fieldref 10 16), (0, .nameAndType 17 18), (0, u "coder"), (0, u "B"), (2, u "hash"), (0, u "I"), (2, u "hashIsZero"), (0, u "Z"), (0, .methodref 10 28), (0, .nameAndType 5 29), (0, u "([CIILjava/lang/Void;)V"), (8, .fieldref 10 39), (0, .nameAndType 40 26), (0, u "COMPACT_STRINGS"), (1, .class_ 44), (1, u "java/lang/StringUTF16"), (0, u "compress"), (1, .methodref 42 48), (0, .nameAndType 49 50), (0, u "coderFromArrayLen"), (0, u "([BI)B"), (56, .class_ 109), (1, u "java/lang/StringLatin1"), (32, u "()Z"), (34, .methodref 42 178), (0, .nameAndType 45 179), (0, u "([CII)[B"), (154, u "()I"), (0, .methodref 10 336), (0, .nameAndType 17 337), (0, u "()B"), (25, u "([BI)C"), (27, u "(II)V"), (35, u "(I)C"), (64, .methodref 10 493), (0, .nameAndType 494 142), (0, u "isLatin1"), (0, .methodref 107 496), (0, .nameAndType 497 363), (0, u "charAt"), (0, .methodref 42 496), (2, u "checkIndex"), (5, u "length"), (67, .class_ 576), (0, u "java/lang/CharSequence"), (22, u "CASE_INSENSITIVE_ORDER"), (0, u "Ljava/util/Comparator;"), (409, u "([C)V"), (42, .fieldref 1054 1055), (0, .class_ 1056), (0, .nameAndType 1057 1058), (0, u "jdk/internal/util/Preconditions"), (0, u "SIOOBE_FORMATTER"), (0, u "Ljava/util/function/BiFunction;"), (0, .methodref 1054 1060), (0, .nameAndType 501 1061), (0, u "(IILjava/util/function/BiFunction;)I"), (39, u "serialPersistentFields"), (0, u "[Ljava/io/ObjectStreamField;"), (0, .class_ 1104), (0, u "java/lang/String$CaseInsensitiveComparator"), (1, .class_ 1107), (0, u "java/io/Serializable"), (0, .class_ 1109), (0, u "java/lang/Comparable"), (0, .class_ 1111), (0, u "java/lang/constant/Constable"), (0, .class_ 1113), (0, u "java/lang/constant/ConstantDesc"), (2, u "serialVersionUID"), (0, u "J"), (3, u "REPL"), (0, u "C"), (2, u "LATIN1"), (1, u "UTF16")] 323

def k7m0 : Method := { name := "<init>", desc := "()V", sig := { parameters := [], returnType := none }, accessFlags := 1, code := none }
def k7c1 : Code := { maxStack := 5, maxLocals := 2, code := jdk_42_method_3_code, exceptionTable := #[], attributes := #[] }
def k7m1 : Method := { name := "<init>", desc := "([C)V", sig := { parameters := [(.array .char)], returnType := none }, accessFlags := 1, code := some k7c1 }
def k7c2 : Code := { maxStack := 2, maxLocals := 1, code := jdk_42_method_54_code, exceptionTable := #[], attributes := #[] }
def k7m2 : Method := { name := "length", desc := "()I", sig := { parameters := [], returnType := some .int }, accessFlags := 1, code := some k7c2 }
def k7c3 : Code := { maxStack := 2, maxLocals := 2, code := jdk_42_method_56_code, exceptionTable := #[], attributes := #[] }
def k7m3 : Method := { name := "charAt", desc := "(I)C", sig := { parameters := [.int], returnType := some .char }, accessFlags := 1, code := some k7c3 }
def k7c4 : Code := { maxStack := 4, maxLocals := 6, code := jdk_42_method_149_code, exceptionTable := #[], attributes := #[] }
def k7m4 : Method := { name := "<init>", desc := "([CIILjava/lang/Void;)V", sig := { parameters := [(.array .char), .int, .int, (.object "java/lang/Void")], returnType := none }, accessFlags := 2, code := some k7c4 }
def k7c5 : Code := { maxStack := 1, maxLocals := 1, code := jdk_42_method_152_code, exceptionTable := #[], attributes := #[] }
def k7m5 : Method := { name := "coder", desc := "()B", sig := { parameters := [], returnType := some .byte }, accessFlags := 0, code := some k7c5 }
def k7c6 : Code := { maxStack := 1, maxLocals := 1, code := jdk_42_method_154_code, exceptionTable := #[], attributes := #[] }
def k7m6 : Method := { name := "isLatin1", desc := "()Z", sig := { parameters := [], returnType := some .boolean }, accessFlags := 0, code := some k7c6 }
def k7c7 : Code := { maxStack := 3, maxLocals := 2, code := jdk_42_method_155_code, exceptionTable := #[], attributes := #[] }
def k7m7 : Method := { name := "checkIndex", desc := "(II)V", sig := { parameters := [.int, .int], returnType := none }, accessFlags := 8, code := some k7c7 }
/-- java/lang/String -/
def k7 : Class := { plain "java/lang/String" (some 0) with
  accessFlags := 49
  interfaces := #[2, 3, 4, 5, 6]
  cf := some (fileOf pool7 10 #[.nestMembers #[1103]] #[{ accessFlags := 1, nameIndex := 5, descriptorIndex := 6, attributes := #[] }, { accessFlags := 1, nameIndex := 5, descriptorIndex := 1010, attributes := #[] }, { accessFlags := 1, nameIndex := 507, descriptorIndex := 334, attributes := #[] }, { accessFlags := 1, nameIndex := 497, descriptorIndex := 427, attributes := #[] }, { accessFlags := 2, nameIndex := 5, descriptorIndex := 29, attributes := #[] }, { accessFlags := 0, nameIndex := 17, descriptorIndex := 337, attributes := #[] }, { accessFlags := 0, nameIndex := 494, descriptorIndex := 142, attributes := #[] }, { accessFlags := 8, nameIndex := 501, descriptorIndex := 391, attributes := #[] }] 49 2 #[1106, 1108, 575, 1110, 1112] #[{ accessFlags := 18, nameIndex := 13, descriptorIndex := 14, attributes := #[] }, { accessFlags := 18, nameIndex := 17, descriptorIndex := 18, attributes := #[] }, { accessFlags := 2, nameIndex := 21, descriptorIndex := 22, attributes := #[] }, { accessFlags := 2, nameIndex := 25, descriptorIndex := 26, attributes := #[] }, { accessFlags := 26, nameIndex := 1116, descriptorIndex := 1117, attributes := #[] }, { accessFlags := 24, nameIndex := 40, descriptorIndex := 26, attributes := #[] }, { accessFlags := 26, nameIndex := 1101, descriptorIndex := 1102, attributes := #[] }, { accessFlags := 26, nameIndex := 1121, descriptorIndex := 1122, attributes := #[] }, { accessFlags := 25, nameIndex := 599, descriptorIndex := 600, attributes := #[] }, { accessFlags := 24, nameIndex := 1125, descriptorIndex := 18, attributes := #[] }, { accessFlags := 24, nameIndex := 1127, descriptorIndex := 18, attributes := #[] }])
  fields := #[{ name := "value", type := (.array .byte), accessFlags := 18, slot := 0, constantValue := 0 }, { name := "coder", type := .byte, accessFlags := 18, slot := 1, constantValue := 0 }, { name := "hash", type := .int, accessFlags := 2, slot := 2, constantValue := 0 }, { name := "hashIsZero", type := .boolean, accessFlags := 2, slot := 3, constantValue := 0 }, { name := "serialVersionUID", type := .long, accessFlags := 26, slot := 0, constantValue := 0 }, { name := "COMPACT_STRINGS", type := .boolean, accessFlags := 24, slot := 1, constantValue := 0 }, { name := "serialPersistentFields", type := (.array (.object "java/io/ObjectStreamField")), accessFlags := 26, slot := 2, constantValue := 0 }, { name := "REPL", type := .char, accessFlags := 26, slot := 3, constantValue := 0 }, { name := "CASE_INSENSITIVE_ORDER", type := (.object "java/util/Comparator"), accessFlags := 25, slot := 4, constantValue := 0 }, { name := "LATIN1", type := .byte, accessFlags := 24, slot := 5, constantValue := 0 }, { name := "UTF16", type := .byte, accessFlags := 24, slot := 6, constantValue := 0 }]
  methods := #[k7m0, k7m1, k7m2, k7m3, k7m4, k7m5, k7m6, k7m7]
  instanceTypes := #[(.array .byte), .byte, .int, .boolean]
  staticTypes := #[.long, .boolean, (.array (.object "java/io/ObjectStreamField")), .char, (.object "java/util/Comparator"), .byte, .byte]
  resolved := Array.replicate 1451 none
  statics := some 0 }

def pool8 : Array CpInfo := pool [(2, .class_ 4), (1, u "java/lang/Object"), (3, .class_ 10), (1, u "com/example/epithet/epithet/store/MappedTable"), (0, u "files"), (0, u "Lcom/example/epithet/epithet/store/RecordFiles;"), (14, u "file"), (0, u "Ljava/nio/file/Path;"), (2, u "lock"), (0, u "Lcom/example/epithet/epithet/store/StoreLock;"), (2, u "pairs"), (0, u "Lcom/example/epithet/epithet/store/SpPairs;"), (2, u "layout"), (0, u "Lcom/example/epithet/epithet/store/MappedTable$Layout;"), (2, u "records"), (0, u "Lcom/example/epithet/epithet/store/MappedTable$Records;"), (1, .class_ 48), (1, u "com/example/epithet/epithet/store/MappedTable$Layout"), (0, u "homeAt"), (0, u "()I"), (2, u "I"), (2, u "occupiedAt"), (4, u "maxCapacity"), (3, u "J"), (2, u "entryBytes"), (9, u "grownFromAt"), (2, u "spreadAt"), (2, u "headerBytes"), (6, u "segmentShift"), (2, u "opened"), (0, u "Z"), (11, u "mapping"), (0, u "Lcom/example/epithet/epithet/store/MappedTable$Mapped;"), (0, .class_ 110), (0, u "com/example/epithet/epithet/store/MappedTable$Patience"), (2, .class_ 115), (1, u "com/example/epithet/epithet/store/MappedTable$Mapped"), (93, .class_ 211), (1, u "com/example/epithet/epithet/store/MappedTable$Match"), (33, .class_ 246), (0, u "com/example/epithet/epithet/store/MappedTable$Turns"), (90, u "ZEROS"), (0, u "[B"), (56, u "COPIED_INTS"), (0, u "Ljava/lang/invoke/VarHandle;"), (15, .class_ 414), (1, u "com/example/epithet/epithet/store/MappedTable$Records"), (1, .methodref 417 418), (0, .class_ 419), (0, .nameAndType 420 50), (0, u "java/lang/String"), (0, u "length"), (0, .methodref 417 422), (0, .nameAndType 423 424), (0, u "charAt"), (0, u "(I)C"), (27, u "MAKE"), (0, u "Ljava/util/Set;"), (43, u "MAP"), (96, u "TAG"), (2, u "SEQUENCE"), (1, u "CAPACITY"), (1, u "COUNT"), (1, u "TOKEN"), (1, u "KEPT"), (1, u "MIN_CAPACITY"), (0, u "MAX_CAPACITY"), (2, u "SEGMENT_BYTES"), (2, u "GROWING"), (2, u "SPREAD_PLACES"), (0, u "PLACED_AT_ONCE"), (1, u "PATIENCE"), (2, u "BETWEEN_CHANGES"), (33, u "isAscii"), (0, u "(Ljava/lang/String;)Z"), (6, .class_ 666), (0, u "com/example/epithet/epithet/store/MappedTable$Sink")] 39

def k8c0 : Code := { maxStack := 2, maxLocals := 2, code := prog_59_method_39_code, exceptionTable := #[], attributes := #[] }
def k8m0 : Method := { name := "isAscii", desc := "(Ljava/lang/String;)Z", sig := { parameters := [(.object "java/lang/String")], returnType := some .boolean }, accessFlags := 8, code := some k8c0 }
/-- com/example/epithet/epithet/store/MappedTable -/
def k8 : Class := { plain "com/example/epithet/epithet/store/MappedTable" (some 0) with
  accessFlags := 48
  interfaces := #[]
  cf := some (fileOf pool8 8 #[.nestMembers #[113, 245, 109, 209, 665, 412, 46]] #[{ accessFlags := 8, nameIndex := 657, descriptorIndex := 658, attributes := #[] }] 48 2 #[] #[{ accessFlags := 26, nameIndex := 594, descriptorIndex := 53, attributes := #[] }, { accessFlags := 26, nameIndex := 597, descriptorIndex := 53, attributes := #[] }, { accessFlags := 26, nameIndex := 599, descriptorIndex := 53, attributes := #[] }, { accessFlags := 26, nameIndex := 601, descriptorIndex := 53, attributes := #[] }, { accessFlags := 26, nameIndex := 603, descriptorIndex := 53, attributes := #[] }, { accessFlags := 26, nameIndex := 605, descriptorIndex := 53, attributes := #[] }, { accessFlags := 26, nameIndex := 607, descriptorIndex := 65, attributes := #[] }, { accessFlags := 24, nameIndex := 608, descriptorIndex := 65, attributes := #[] }, { accessFlags := 24, nameIndex := 611, descriptorIndex := 65, attributes := #[] }, { accessFlags := 26, nameIndex := 614, descriptorIndex := 65, attributes := #[] }, { accessFlags := 26, nameIndex := 617, descriptorIndex := 65, attributes := #[] }, { accessFlags := 26, nameIndex := 618, descriptorIndex := 53, attributes := #[] }, { accessFlags := 26, nameIndex := 620, descriptorIndex := 65, attributes := #[] }, { accessFlags := 26, nameIndex := 623, descriptorIndex := 65, attributes := #[] }, { accessFlags := 26, nameIndex := 395, descriptorIndex := 396, attributes := #[] }, { accessFlags := 26, nameIndex := 497, descriptorIndex := 453, attributes := #[] }, { accessFlags := 26, nameIndex := 452, descriptorIndex := 453, attributes := #[] }, { accessFlags := 26, nameIndex := 337, descriptorIndex := 338, attributes := #[] }, { accessFlags := 18, nameIndex := 11, descriptorIndex := 12, attributes := #[] }, { accessFlags := 18, nameIndex := 27, descriptorIndex := 28, attributes := #[] }, { accessFlags := 18, nameIndex := 31, descriptorIndex := 32, attributes := #[] }, { accessFlags := 18, nameIndex := 35, descriptorIndex := 36, attributes := #[] }, { accessFlags := 18, nameIndex := 39, descriptorIndex := 40, attributes := #[] }, { accessFlags := 18, nameIndex := 43, descriptorIndex := 44, attributes := #[] }, { accessFlags := 18, nameIndex := 49, descriptorIndex := 53, attributes := #[] }, { accessFlags := 18, nameIndex := 56, descriptorIndex := 53, attributes := #[] }, { accessFlags := 18, nameIndex := 61, descriptorIndex := 65, attributes := #[] }, { accessFlags := 18, nameIndex := 68, descriptorIndex := 53, attributes := #[] }, { accessFlags := 18, nameIndex := 78, descriptorIndex := 53, attributes := #[] }, { accessFlags := 18, nameIndex := 81, descriptorIndex := 53, attributes := #[] }, { accessFlags := 18, nameIndex := 84, descriptorIndex := 53, attributes := #[] }, { accessFlags := 18, nameIndex := 91, descriptorIndex := 53, attributes := #[] }, { accessFlags := 66, nameIndex := 107, descriptorIndex := 108, attributes := #[] }, { accessFlags := 66, nameIndex := 94, descriptorIndex := 95, attributes := #[] }])
  fields := #[{ name := "TAG", type := .int, accessFlags := 26, slot := 0, constantValue := 0 }, { name := "SEQUENCE", type := .int, accessFlags := 26, slot := 1, constantValue := 0 }, { name := "CAPACITY", type := .int, accessFlags := 26, slot := 2, constantValue := 0 }, { name := "COUNT", type := .int, accessFlags := 26, slot := 3, constantValue := 0 }, { name := "TOKEN", type := .int, accessFlags := 26, slot := 4, constantValue := 0 }, { name := "KEPT", type := .int, accessFlags := 26, slot := 5, constantValue := 0 }, { name := "MIN_CAPACITY", type := .long, accessFlags := 26, slot := 6, constantValue := 0 }, { name := "MAX_CAPACITY", type := .long, accessFlags := 24, slot := 7, constantValue := 0 }, { name := "SEGMENT_BYTES", type := .long, accessFlags := 24, slot := 8, constantValue := 0 }, { name := "GROWING", type := .long, accessFlags := 26, slot := 9, constantValue := 0 }, { name := "SPREAD_PLACES", type := .long, accessFlags := 26, slot := 10, constantValue := 0 }, { name := "PLACED_AT_ONCE", type := .int, accessFlags := 26, slot := 11, constantValue := 0 }, { name := "PATIENCE", type := .long, accessFlags := 26, slot := 12, constantValue := 0 }, { name := "BETWEEN_CHANGES", type := .long, accessFlags := 26, slot := 13, constantValue := 0 }, { name := "COPIED_INTS", type := (.object "java/lang/invoke/VarHandle"), accessFlags := 26, slot := 14, constantValue := 0 }, { name := "MAP", type := (.object "java/util/Set"), accessFlags := 26, slot := 15, constantValue := 0 }, { name := "MAKE", type := (.object "java/util/Set"), accessFlags := 26, slot := 16, constantValue := 0 }, { name := "ZEROS", type := (.array .byte), accessFlags := 26, slot := 17, constantValue := 0 }, { name := "files", type := (.object "com/example/epithet/epithet/store/RecordFiles"), accessFlags := 18, slot := 0, constantValue := 0 }, { name := "file", type := (.object "java/nio/file/Path"), accessFlags := 18, slot := 1, constantValue := 0 }, { name := "lock", type := (.object "com/example/epithet/epithet/store/StoreLock"), accessFlags := 18, slot := 2, constantValue := 0 }, { name := "pairs", type := (.object "com/example/epithet/epithet/store/SpPairs"), accessFlags := 18, slot := 3, constantValue := 0 }, { name := "layout", type := (.object "com/example/epithet/epithet/store/MappedTable$Layout"), accessFlags := 18, slot := 4, constantValue := 0 }, { name := "records", type := (.object "com/example/epithet/epithet/store/MappedTable$Records"), accessFlags := 18, slot := 5, constantValue := 0 }, { name := "homeAt", type := .int, accessFlags := 18, slot := 6, constantValue := 0 }, { name := "occupiedAt", type := .int, accessFlags := 18, slot := 7, constantValue := 0 }, { name := "maxCapacity", type := .long, accessFlags := 18, slot := 8, constantValue := 0 }, { name := "entryBytes", type := .int, accessFlags := 18, slot := 9, constantValue := 0 }, { name := "grownFromAt", type := .int, accessFlags := 18, slot := 10, constantValue := 0 }, { name := "spreadAt", type := .int, accessFlags := 18, slot := 11, constantValue := 0 }, { name := "headerBytes", type := .int, accessFlags := 18, slot := 12, constantValue := 0 }, { name := "segmentShift", type := .int, accessFlags := 18, slot := 13, constantValue := 0 }, { name := "mapping", type := (.object "com/example/epithet/epithet/store/MappedTable$Mapped"), accessFlags := 66, slot := 14, constantValue := 0 }, { name := "opened", type := .boolean, accessFlags := 66, slot := 15, constantValue := 0 }]
  methods := #[k8m0]
  instanceTypes := #[(.object "com/example/epithet/epithet/store/RecordFiles"), (.object "java/nio/file/Path"), (.object "com/example/epithet/epithet/store/StoreLock"), (.object "com/example/epithet/epithet/store/SpPairs"), (.object "com/example/epithet/epithet/store/MappedTable$Layout"), (.object "com/example/epithet/epithet/store/MappedTable$Records"), .int, .int, .long, .int, .int, .int, .int, .int, (.object "com/example/epithet/epithet/store/MappedTable$Mapped"), .boolean]
  staticTypes := #[.int, .int, .int, .int, .int, .int, .long, .long, .long, .long, .long, .int, .long, .long, (.object "java/lang/invoke/VarHandle"), (.object "java/util/Set"), (.object "java/util/Set"), (.array .byte)]
  resolved := Array.replicate 706 none
  statics := none }

def pool9 : Array CpInfo := pool [(3, .class_ 4), (0, u "java/lang/String"), (1, .class_ 8), (1, u "java/lang/Object"), (0, u "<init>"), (0, u "()V"), (0, .methodref 12 13), (0, .class_ 14), (0, .nameAndType 15 16), (0, u "java/lang/StringUTF16"), (0, u "newBytesLength"), (0, u "(I)I"), (3, .integer 1073741823), (23, .fieldref 12 45), (0, .nameAndType 46 47), (0, u "$assertionsDisabled"), (0, u "Z"), (0, .methodref 12 49), (0, .nameAndType 50 51), (0, u "length"), (0, u "([B)I"), (7, .fieldref 12 60), (0, .nameAndType 61 62), (0, u "HI_BYTE_SHIFT"), (0, u "I"), (0, .fieldref 12 64), (0, .nameAndType 65 62), (0, u "LO_BYTE_SHIFT"), (1, .methodref 12 68), (0, .nameAndType 69 70), (0, u "checkIndex"), (0, u "(I[B)V"), (0, .methodref 12 72), (0, .nameAndType 73 74), (0, u "getChar"), (0, u "([BI)C"), (32, .methodref 12 108), (0, .nameAndType 109 110), (0, u "newBytesFor"), (0, u "(I)[B"), (0, .methodref 12 112), (0, .nameAndType 113 114), (0, u "putChar"), (0, u "([BII)V"), (0, .methodref 12 116), (0, .nameAndType 117 118), (0, u "compress"), (0, u "([CI[BII)I"), (0, .methodref 12 120), (0, .nameAndType 121 122), (0, u "toBytes"), (0, u "([CII)[B"), (138, u "coderFromArrayLen"), (0, u "([BI)B"), (106, .class_ 371), (1, u "java/lang/StringUTF16$LinesSpliterator"), (20, u "charAt"), (21, .methodref 3 415), (0, .nameAndType 69 416), (0, u "(II)V"), (13, u "MAX_LENGTH"), (196, .class_ 628), (0, u "java/lang/StringUTF16$CodePointsSpliterator"), (0, .class_ 630), (0, u "java/lang/StringUTF16$CharsSpliterator")] 4

def k9m0 : Method := { name := "<init>", desc := "()V", sig := { parameters := [], returnType := none }, accessFlags := 0, code := none }
def k9c1 : Code := { maxStack := 1, maxLocals := 1, code := jdk_52_method_2_code, exceptionTable := #[], attributes := #[] }
def k9m1 : Method := { name := "newBytesFor", desc := "(I)[B", sig := { parameters := [.int], returnType := some (.array .byte) }, accessFlags := 9, code := some k9c1 }
def k9c2 : Code := { maxStack := 4, maxLocals := 1, code := jdk_52_method_3_code, exceptionTable := #[], attributes := #[] }
def k9m2 : Method := { name := "newBytesLength", desc := "(I)I", sig := { parameters := [.int], returnType := some .int }, accessFlags := 9, code := some k9c2 }
def k9c3 : Code := { maxStack := 4, maxLocals := 3, code := jdk_52_method_4_code, exceptionTable := #[], attributes := #[] }
def k9m3 : Method := { name := "putChar", desc := "([BII)V", sig := { parameters := [(.array .byte), .int, .int], returnType := none }, accessFlags := 8, code := some k9c3 }
def k9c4 : Code := { maxStack := 3, maxLocals := 2, code := jdk_52_method_5_code, exceptionTable := #[], attributes := #[] }
def k9m4 : Method := { name := "getChar", desc := "([BI)C", sig := { parameters := [(.array .byte), .int], returnType := some .char }, accessFlags := 8, code := some k9c4 }
def k9c5 : Code := { maxStack := 2, maxLocals := 1, code := jdk_52_method_6_code, exceptionTable := #[], attributes := #[] }
def k9m5 : Method := { name := "length", desc := "([B)I", sig := { parameters := [(.array .byte)], returnType := some .int }, accessFlags := 9, code := some k9c5 }
def k9c6 : Code := { maxStack := 4, maxLocals := 5, code := jdk_52_method_14_code, exceptionTable := #[], attributes := #[] }
def k9m6 : Method := { name := "toBytes", desc := "([CII)[B", sig := { parameters := [(.array .char), .int, .int], returnType := some (.array .byte) }, accessFlags := 9, code := some k9c6 }
def k9c7 : Code := { maxStack := 2, maxLocals := 2, code := jdk_52_method_15_code, exceptionTable := #[], attributes := #[] }
def k9m7 : Method := { name := "coderFromArrayLen", desc := "([BI)B", sig := { parameters := [(.array .byte), .int], returnType := some .byte }, accessFlags := 8, code := some k9c7 }
def k9c8 : Code := { maxStack := 5, maxLocals := 6, code := jdk_52_method_16_code, exceptionTable := #[], attributes := #[] }
def k9m8 : Method := { name := "compress", desc := "([CII)[B", sig := { parameters := [(.array .char), .int, .int], returnType := some (.array .byte) }, accessFlags := 9, code := some k9c8 }
def k9c9 : Code := { maxStack := 3, maxLocals := 7, code := jdk_52_method_21_code, exceptionTable := #[], attributes := #[] }
def k9m9 : Method := { name := "compress", desc := "([CI[BII)I", sig := { parameters := [(.array .char), .int, (.array .byte), .int, .int], returnType := some .int }, accessFlags := 9, code := some k9c9 }
def k9c10 : Code := { maxStack := 2, maxLocals := 2, code := jdk_52_method_83_code, exceptionTable := #[], attributes := #[] }
def k9m10 : Method := { name := "charAt", desc := "([BI)C", sig := { parameters := [(.array .byte), .int], returnType := some .char }, accessFlags := 9, code := some k9c10 }
def k9c11 : Code := { maxStack := 2, maxLocals := 2, code := jdk_52_method_91_code, exceptionTable := #[], attributes := #[] }
def k9m11 : Method := { name := "checkIndex", desc := "(I[B)V", sig := { parameters := [.int, (.array .byte)], returnType := none }, accessFlags := 9, code := some k9c11 }
/-- java/lang/StringUTF16 -/
def k9 : Class := { plain "java/lang/StringUTF16" (some 0) with
  accessFlags := 48
  interfaces := #[]
  cf := some (fileOf pool9 12 #[.nestMembers #[627, 629, 369]] #[{ accessFlags := 0, nameIndex := 9, descriptorIndex := 10, attributes := #[] }, { accessFlags := 9, nameIndex := 109, descriptorIndex := 110, attributes := #[] }, { accessFlags := 9, nameIndex := 15, descriptorIndex := 16, attributes := #[] }, { accessFlags := 8, nameIndex := 113, descriptorIndex := 114, attributes := #[] }, { accessFlags := 8, nameIndex := 73, descriptorIndex := 74, attributes := #[] }, { accessFlags := 9, nameIndex := 50, descriptorIndex := 51, attributes := #[] }, { accessFlags := 9, nameIndex := 121, descriptorIndex := 122, attributes := #[] }, { accessFlags := 8, nameIndex := 261, descriptorIndex := 262, attributes := #[] }, { accessFlags := 9, nameIndex := 117, descriptorIndex := 122, attributes := #[] }, { accessFlags := 9, nameIndex := 117, descriptorIndex := 118, attributes := #[] }, { accessFlags := 9, nameIndex := 392, descriptorIndex := 74, attributes := #[] }, { accessFlags := 9, nameIndex := 69, descriptorIndex := 70, attributes := #[] }] 48 6 #[] #[{ accessFlags := 26, nameIndex := 61, descriptorIndex := 62, attributes := #[] }, { accessFlags := 26, nameIndex := 65, descriptorIndex := 62, attributes := #[] }, { accessFlags := 24, nameIndex := 430, descriptorIndex := 62, attributes := #[] }, { accessFlags := 4120, nameIndex := 46, descriptorIndex := 47, attributes := #[] }])
  fields := #[{ name := "HI_BYTE_SHIFT", type := .int, accessFlags := 26, slot := 0, constantValue := 0 }, { name := "LO_BYTE_SHIFT", type := .int, accessFlags := 26, slot := 1, constantValue := 0 }, { name := "MAX_LENGTH", type := .int, accessFlags := 24, slot := 2, constantValue := 0 }, { name := "$assertionsDisabled", type := .boolean, accessFlags := 4120, slot := 3, constantValue := 0 }]
  methods := #[k9m0, k9m1, k9m2, k9m3, k9m4, k9m5, k9m6, k9m7, k9m8, k9m9, k9m10, k9m11]
  instanceTypes := #[]
  staticTypes := #[.int, .int, .int, .boolean]
  resolved := Array.replicate 635 none
  statics := some 1 }

def pool10 : Array CpInfo := pool [(1, .class_ 2), (0, u "java/lang/String"), (1, .class_ 6), (1, u "java/lang/Object"), (0, u "<init>"), (0, u "()V"), (0, .methodref 1 10), (0, .nameAndType 11 12), (0, u "checkIndex"), (0, u "(II)V"), (1, .class_ 16), (1, u "java/lang/StringLatin1"), (36, u "([BI)C"), (67, u "$assertionsDisabled"), (0, u "Z"), (98, .class_ 223), (1, u "java/lang/StringLatin1$LinesSpliterator"), (28, u "charAt"), (137, .class_ 391), (0, u "java/lang/StringLatin1$CharsSpliterator")] 3

def k10m0 : Method := { name := "<init>", desc := "()V", sig := { parameters := [], returnType := none }, accessFlags := 0, code := none }
def k10c1 : Code := { maxStack := 2, maxLocals := 2, code := jdk_43_method_2_code, exceptionTable := #[], attributes := #[] }
def k10m1 : Method := { name := "charAt", desc := "([BI)C", sig := { parameters := [(.array .byte), .int], returnType := some .char }, accessFlags := 9, code := some k10c1 }
/-- java/lang/StringLatin1 -/
def k10 : Class := { plain "java/lang/StringLatin1" (some 0) with
  accessFlags := 48
  interfaces := #[]
  cf := some (fileOf pool10 14 #[.nestMembers #[390, 221]] #[{ accessFlags := 0, nameIndex := 7, descriptorIndex := 8, attributes := #[] }, { accessFlags := 9, nameIndex := 252, descriptorIndex := 53, attributes := #[] }] 48 4 #[] #[{ accessFlags := 4120, nameIndex := 121, descriptorIndex := 122, attributes := #[] }])
  fields := #[{ name := "$assertionsDisabled", type := .boolean, accessFlags := 4120, slot := 0, constantValue := 0 }]
  methods := #[k10m0, k10m1]
  instanceTypes := #[]
  staticTypes := #[.boolean]
  resolved := Array.replicate 395 none
  statics := none }

def pool11 : Array CpInfo := pool [(2, .class_ 4), (1, u "java/lang/Object"), (0, u "<init>"), (0, u "()V"), (17, .class_ 26), (1, u "jdk/internal/util/Preconditions"), (6, u "checkIndex"), (21, .class_ 56), (0, u "jdk/internal/util/Preconditions$4"), (57, .class_ 115), (0, u "jdk/internal/util/Preconditions$1"), (7, u "SIOOBE_FORMATTER"), (0, u "Ljava/util/function/BiFunction;"), (0, .class_ 126), (0, u "jdk/internal/util/Preconditions$2"), (3, u "AIOOBE_FORMATTER"), (0, .class_ 132), (0, u "jdk/internal/util/Preconditions$3"), (3, u "IOOBE_FORMATTER"), (41, u "(IILjava/util/function/BiFunction;)I")] 15

def k11m0 : Method := { name := "<init>", desc := "()V", sig := { parameters := [], returnType := none }, accessFlags := 1, code := none }
def k11c1 : Code := { maxStack := 3, maxLocals := 3, code := jdk_41_method_11_code, exceptionTable := #[], attributes := #[] }
def k11m1 : Method := { name := "checkIndex", desc := "(IILjava/util/function/BiFunction;)I", sig := { parameters := [.int, .int, (.object "java/util/function/BiFunction")], returnType := some .int }, accessFlags := 9, code := some k11c1 }
/-- jdk/internal/util/Preconditions -/
def k11 : Class := { plain "jdk/internal/util/Preconditions" (some 0) with
  accessFlags := 33
  interfaces := #[]
  cf := some (fileOf pool11 24 #[.nestMembers #[55, 131, 125, 114]] #[{ accessFlags := 1, nameIndex := 5, descriptorIndex := 6, attributes := #[] }, { accessFlags := 9, nameIndex := 33, descriptorIndex := 178, attributes := #[] }] 33 2 #[] #[{ accessFlags := 25, nameIndex := 123, descriptorIndex := 124, attributes := #[] }, { accessFlags := 25, nameIndex := 130, descriptorIndex := 124, attributes := #[] }, { accessFlags := 25, nameIndex := 136, descriptorIndex := 124, attributes := #[] }])
  fields := #[{ name := "SIOOBE_FORMATTER", type := (.object "java/util/function/BiFunction"), accessFlags := 25, slot := 0, constantValue := 0 }, { name := "AIOOBE_FORMATTER", type := (.object "java/util/function/BiFunction"), accessFlags := 25, slot := 1, constantValue := 0 }, { name := "IOOBE_FORMATTER", type := (.object "java/util/function/BiFunction"), accessFlags := 25, slot := 2, constantValue := 0 }]
  methods := #[k11m0, k11m1]
  instanceTypes := #[]
  staticTypes := #[(.object "java/util/function/BiFunction"), (.object "java/util/function/BiFunction"), (.object "java/util/function/BiFunction")]
  resolved := Array.replicate 194 none
  statics := some 2 }

def pool12 : Array CpInfo := pool [(9, u "<init>"), (6, .class_ 18), (1, u "java/lang/Object"), (0, u "()V"), (1, .class_ 23), (1, u "jdk/internal/util/ArraysSupport"), (0, u "LOG2_ARRAY_LONG_INDEX_SCALE"), (0, u "I"), (2, u "U"), (0, u "Ljdk/internal/misc/Unsafe;"), (8, u "BIG_ENDIAN"), (0, u "Z"), (8, u "LOG2_BYTE_BIT_SIZE"), (4, u "LOG2_ARRAY_INT_INDEX_SCALE"), (54, u "JLA"), (0, u "Ljdk/internal/access/JavaLangAccess;"), (11, u "LOG2_ARRAY_BOOLEAN_INDEX_SCALE"), (9, u "LOG2_ARRAY_BYTE_INDEX_SCALE"), (5, u "LOG2_ARRAY_CHAR_INDEX_SCALE"), (5, u "LOG2_ARRAY_SHORT_INDEX_SCALE"), (18, u "LOG2_ARRAY_FLOAT_INDEX_SCALE"), (24, u "LOG2_ARRAY_DOUBLE_INDEX_SCALE"), (89, u "T_BOOLEAN"), (2, u "T_CHAR"), (1, u "T_FLOAT"), (1, u "T_DOUBLE"), (1, u "T_BYTE"), (1, u "T_SHORT"), (1, u "T_INT"), (1, u "T_LONG"), (1, u "SOFT_MAX_ARRAY_LENGTH")] 83

def k12m0 : Method := { name := "<init>", desc := "()V", sig := { parameters := [], returnType := none }, accessFlags := 2, code := none }
/-- jdk/internal/util/ArraysSupport -/
def k12 : Class := { plain "jdk/internal/util/ArraysSupport" (some 0) with
  accessFlags := 33
  interfaces := #[]
  cf := some (fileOf pool12 21 #[] #[{ accessFlags := 2, nameIndex := 9, descriptorIndex := 19, attributes := #[] }] 33 16 #[] #[{ accessFlags := 24, nameIndex := 28, descriptorIndex := 29, attributes := #[] }, { accessFlags := 26, nameIndex := 38, descriptorIndex := 39, attributes := #[] }, { accessFlags := 25, nameIndex := 121, descriptorIndex := 25, attributes := #[] }, { accessFlags := 25, nameIndex := 131, descriptorIndex := 25, attributes := #[] }, { accessFlags := 25, nameIndex := 137, descriptorIndex := 25, attributes := #[] }, { accessFlags := 25, nameIndex := 143, descriptorIndex := 25, attributes := #[] }, { accessFlags := 25, nameIndex := 53, descriptorIndex := 25, attributes := #[] }, { accessFlags := 25, nameIndex := 24, descriptorIndex := 25, attributes := #[] }, { accessFlags := 25, nameIndex := 162, descriptorIndex := 25, attributes := #[] }, { accessFlags := 25, nameIndex := 187, descriptorIndex := 25, attributes := #[] }, { accessFlags := 26, nameIndex := 48, descriptorIndex := 25, attributes := #[] }, { accessFlags := 25, nameIndex := 277, descriptorIndex := 25, attributes := #[] }, { accessFlags := 25, nameIndex := 280, descriptorIndex := 25, attributes := #[] }, { accessFlags := 25, nameIndex := 282, descriptorIndex := 25, attributes := #[] }, { accessFlags := 25, nameIndex := 284, descriptorIndex := 25, attributes := #[] }, { accessFlags := 25, nameIndex := 286, descriptorIndex := 25, attributes := #[] }, { accessFlags := 25, nameIndex := 288, descriptorIndex := 25, attributes := #[] }, { accessFlags := 25, nameIndex := 290, descriptorIndex := 25, attributes := #[] }, { accessFlags := 25, nameIndex := 292, descriptorIndex := 25, attributes := #[] }, { accessFlags := 26, nameIndex := 108, descriptorIndex := 109, attributes := #[] }, { accessFlags := 25, nameIndex := 294, descriptorIndex := 25, attributes := #[] }])
  fields := #[{ name := "U", type := (.object "jdk/internal/misc/Unsafe"), accessFlags := 24, slot := 0, constantValue := 0 }, { name := "BIG_ENDIAN", type := .boolean, accessFlags := 26, slot := 1, constantValue := 0 }, { name := "LOG2_ARRAY_BOOLEAN_INDEX_SCALE", type := .int, accessFlags := 25, slot := 2, constantValue := 0 }, { name := "LOG2_ARRAY_BYTE_INDEX_SCALE", type := .int, accessFlags := 25, slot := 3, constantValue := 0 }, { name := "LOG2_ARRAY_CHAR_INDEX_SCALE", type := .int, accessFlags := 25, slot := 4, constantValue := 0 }, { name := "LOG2_ARRAY_SHORT_INDEX_SCALE", type := .int, accessFlags := 25, slot := 5, constantValue := 0 }, { name := "LOG2_ARRAY_INT_INDEX_SCALE", type := .int, accessFlags := 25, slot := 6, constantValue := 0 }, { name := "LOG2_ARRAY_LONG_INDEX_SCALE", type := .int, accessFlags := 25, slot := 7, constantValue := 0 }, { name := "LOG2_ARRAY_FLOAT_INDEX_SCALE", type := .int, accessFlags := 25, slot := 8, constantValue := 0 }, { name := "LOG2_ARRAY_DOUBLE_INDEX_SCALE", type := .int, accessFlags := 25, slot := 9, constantValue := 0 }, { name := "LOG2_BYTE_BIT_SIZE", type := .int, accessFlags := 26, slot := 10, constantValue := 0 }, { name := "T_BOOLEAN", type := .int, accessFlags := 25, slot := 11, constantValue := 0 }, { name := "T_CHAR", type := .int, accessFlags := 25, slot := 12, constantValue := 0 }, { name := "T_FLOAT", type := .int, accessFlags := 25, slot := 13, constantValue := 0 }, { name := "T_DOUBLE", type := .int, accessFlags := 25, slot := 14, constantValue := 0 }, { name := "T_BYTE", type := .int, accessFlags := 25, slot := 15, constantValue := 0 }, { name := "T_SHORT", type := .int, accessFlags := 25, slot := 16, constantValue := 0 }, { name := "T_INT", type := .int, accessFlags := 25, slot := 17, constantValue := 0 }, { name := "T_LONG", type := .int, accessFlags := 25, slot := 18, constantValue := 0 }, { name := "JLA", type := (.object "jdk/internal/access/JavaLangAccess"), accessFlags := 26, slot := 19, constantValue := 0 }, { name := "SOFT_MAX_ARRAY_LENGTH", type := .int, accessFlags := 25, slot := 20, constantValue := 0 }]
  methods := #[k12m0]
  instanceTypes := #[]
  staticTypes := #[(.object "jdk/internal/misc/Unsafe"), .boolean, .int, .int, .int, .int, .int, .int, .int, .int, .int, .int, .int, .int, .int, .int, .int, .int, .int, (.object "jdk/internal/access/JavaLangAccess"), .int]
  resolved := Array.replicate 378 none
  statics := none }

def pool13 : Array CpInfo := pool [(1, u "java/lang/Cloneable"), (0, .class_ 1), (0, u "java/lang/Object"), (0, .class_ 3)] 3

/-- java/lang/Cloneable -/
def k13 : Class := { plain "java/lang/Cloneable" (some 0) with
  accessFlags := 1537
  interfaces := #[]
  cf := some (fileOf pool13 2 #[] #[] 1537 4 #[] #[])
  fields := #[]
  methods := #[]
  instanceTypes := #[]
  staticTypes := #[]
  resolved := Array.replicate 8 none
  statics := none }

/-- the primitive byte -/
def k14 : Class := { plain "byte" none with kind := .primitive 'B', accessFlags := 0x411 }
/-- [B -/
def k15 : Class := { plain "[B" (some 0) with kind := .array 14 .byte, interfaces := #[13, 2], accessFlags := 1041 }

/-- the primitive char -/
def k16 : Class := { plain "char" none with kind := .primitive 'C', accessFlags := 0x411 }
/-- [C -/
def k17 : Class := { plain "[C" (some 0) with kind := .array 16 .char, interfaces := #[13, 2], accessFlags := 1041 }

def heap : Heap := #[{ cls := 7, slots := #[.long 0, .int 1, .null, .int 0, .null, .int 0, .int 0], vm := .statics 7 },
  { cls := 9, slots := #[.int 0, .int 8, .int 0, .int 1], vm := .statics 9 },
  { cls := 11, slots := #[.null, .null, .null], vm := .statics 11 }]
def classes : Array Class := #[k0, k1, k2, k3, k4, k5, k6, k7, k8, k9, k10, k11, k12, k13, k14, k15, k16, k17]
def interned : List (Array UInt16 × Addr) := []
def slotsUsed : Nat := 14
def theMethod : MethodId := ⟨1, 1⟩
def args0 : Array Value := #[.int 2, .int 65, .int 300, .int 7, .int 9]
def aboutOver (below : List Frame) : State where
  vm := { classes := classes, interned := interned.toArray }
  heap := heap
  slotsUsed := slotsUsed
  threads := #[{ frames := .invoking theMethod args0 :: below }]
def below0 : List Frame := [.native { method := ⟨0, 0⟩, args := #[] }]
def about1 : State := aboutOver below0
def p0 : Program := .bare "" "" ""
def e0 : Env := launch0.env 0 0 0
theorem w_frames : about1.frames = Frame.invoking theMethod args0 :: below0 := rfl
set_option maxRecDepth 65536 in
theorem w_args : argsFit about1.vm theMethod args0 = true := by decide +kernel
set_option maxRecDepth 65536 in
theorem w_heap : heapFits about1 = true := by decide +kernel
set_option maxRecDepth 65536 in
theorem w_runnable : about1.curStatus? = some .runnable := by decide +kernel
set_option maxRecDepth 65536 in
theorem w_alone : about1.alone = true := by decide +kernel
set_option maxRecDepth 65536 in
theorem w_named : about1.methodNamed? x = some theMethod := by decide +kernel
set_option maxRecDepth 65536 in
theorem w_hears : about1.hears theMethod below0 = true := by decide +kernel
set_option maxRecDepth 65536 in
theorem w_ripe : about1.ripe theMethod args0 below0 = true := by decide +kernel
theorem w_running : about1.status = .running := rfl
set_option maxRecDepth 65536 in
theorem w_room : about1.hasRoom e0.platform room_1 = true :=
  launch0.hasRoom_least _ room_1 (by decide +kernel) (by decide +kernel) (by decide +kernel) (by decide +kernel) (by decide +kernel) (by decide +kernel)
theorem allAtoms_all (ts : List Jvm.Cond) (a : Array Jvm.Value) (st : Jvm.State) : (allAtoms ts).before a st = ts.all (fun c => c.before a st) := by
  induction ts with
  | nil => rfl
  | cons c t ih =>
    show (Jvm.Cond.and c (allAtoms t)).before a st = _
    rw [Jvm.Cond.before_and, ih, List.all_cons]
def words1 : List Jvm.Cond := Jvm.Cond.code x code maxLocals ret :: tables_1
/-- a 'code' word, met by the world's own term for the bytes: nothing is compared byte by byte -/
theorem code_word {y : MethodName} {bytes : ByteArray} {mx : Nat} {rt : Option FieldType} {a : Array Value} {s : State} {m : MethodId} {meth : Method} {c : Code} (h1 : s.methodNamed? y = some m) (h2 : s.vm.method? m = some meth) (h3 : meth.code = some c) (h4 : c.code = bytes)
    (h5 : (c.maxLocals == mx && c.exceptionTable.isEmpty && decide (c.maxStack ≤ mostOperands) && decide (meth.sig.returnType = rt) && !meth.locks && decide (parseMethodDescriptor y.desc = some meth.sig)) = true) : (Jvm.Cond.code y bytes mx rt).before a s = true := by
  simp only [Bool.and_eq_true, beq_iff_eq, Bool.not_eq_true', decide_eq_true_eq] at h5
  obtain ⟨⟨⟨⟨⟨g1, g2⟩, g3⟩, g4⟩, g5⟩, g6⟩ := h5
  simp [Cond.before, Cond.holds, Cond.value, h1, h2, h3, h4, g1, g2, g3, g4, g5, g6]
def isCode : Jvm.Cond → Bool
  | .code _ _ _ _ => true
  | _ => false
theorem all_split {L : List Jvm.Cond} {P : Jvm.Cond → Bool} (h1 : L.all (fun c => isCode c || P c) = true) (h2 : ∀ c ∈ L.filter isCode, P c = true) : L.all P = true := by
  refine List.all_eq_true.mpr fun c hc => ?_
  have h := List.all_eq_true.mp h1 c hc
  rcases Bool.eq_false_or_eq_true (isCode c) with hi | hi
  · exact h2 c (List.mem_filter.mpr ⟨hc, hi⟩)
  · simpa [hi] using h
set_option maxRecDepth 65536 in
theorem w_c0 : (Jvm.Cond.code x code maxLocals ret).before args0 about1 = true := code_word (m := ⟨1, 1⟩) (meth := k1m1) (c := k1c1) (by decide +kernel) rfl rfl rfl (by decide +kernel)
set_option maxRecDepth 65536 in
theorem w_c1 : (Jvm.Cond.code ({ cls := "com/example/epithet/epithet/store/MappedTableIsAsciiPinLaw", name := "make", desc := "(ICCCC)Ljava/lang/String;" } : Jvm.MethodName) method_3_code (5 : Nat) (Option.some (Jvm.ClassFile.FieldType.object "java/lang/String"))).before args0 about1 = true := code_word (m := ⟨1, 2⟩) (meth := k1m2) (c := k1c2) (by decide +kernel) rfl rfl rfl (by decide +kernel)
set_option maxRecDepth 65536 in
theorem w_c2 : (Jvm.Cond.code ({ cls := "java/lang/String", name := "<init>", desc := "([C)V" } : Jvm.MethodName) jdk_42_method_3_code (2 : Nat) (Option.none : Option Jvm.ClassFile.FieldType)).before args0 about1 = true := code_word (m := ⟨7, 1⟩) (meth := k7m1) (c := k7c1) (by decide +kernel) rfl rfl rfl (by decide +kernel)
set_option maxRecDepth 65536 in
theorem w_c3 : (Jvm.Cond.code ({ cls := "java/lang/String", name := "<init>", desc := "([CIILjava/lang/Void;)V" } : Jvm.MethodName) jdk_42_method_149_code (6 : Nat) (Option.none : Option Jvm.ClassFile.FieldType)).before args0 about1 = true := code_word (m := ⟨7, 4⟩) (meth := k7m4) (c := k7c4) (by decide +kernel) rfl rfl rfl (by decide +kernel)
set_option maxRecDepth 65536 in
theorem w_c4 : (Jvm.Cond.code ({ cls := "java/lang/Object", name := "<init>", desc := "()V" } : Jvm.MethodName) object_method_1_code (1 : Nat) (Option.none : Option Jvm.ClassFile.FieldType)).before args0 about1 = true := code_word (m := ⟨0, 0⟩) (meth := k0m0) (c := k0c0) (by decide +kernel) rfl rfl rfl (by decide +kernel)
set_option maxRecDepth 65536 in
theorem w_c5 : (Jvm.Cond.code ({ cls := "com/example/epithet/epithet/store/MappedTable", name := "isAscii", desc := "(Ljava/lang/String;)Z" } : Jvm.MethodName) prog_59_method_39_code (2 : Nat) (Option.some Jvm.ClassFile.FieldType.boolean)).before args0 about1 = true := code_word (m := ⟨8, 0⟩) (meth := k8m0) (c := k8c0) (by decide +kernel) rfl rfl rfl (by decide +kernel)
set_option maxRecDepth 65536 in
theorem w_c6 : (Jvm.Cond.code ({ cls := "java/lang/String", name := "length", desc := "()I" } : Jvm.MethodName) jdk_42_method_54_code (1 : Nat) (Option.some Jvm.ClassFile.FieldType.int)).before args0 about1 = true := code_word (m := ⟨7, 2⟩) (meth := k7m2) (c := k7c2) (by decide +kernel) rfl rfl rfl (by decide +kernel)
set_option maxRecDepth 65536 in
theorem w_c7 : (Jvm.Cond.code ({ cls := "java/lang/String", name := "coder", desc := "()B" } : Jvm.MethodName) jdk_42_method_152_code (1 : Nat) (Option.some Jvm.ClassFile.FieldType.byte)).before args0 about1 = true := code_word (m := ⟨7, 5⟩) (meth := k7m5) (c := k7c5) (by decide +kernel) rfl rfl rfl (by decide +kernel)
set_option maxRecDepth 65536 in
theorem w_c8 : (Jvm.Cond.code ({ cls := "java/lang/StringUTF16", name := "compress", desc := "([CII)[B" } : Jvm.MethodName) jdk_52_method_16_code (6 : Nat) (Option.some (Jvm.ClassFile.FieldType.array Jvm.ClassFile.FieldType.byte))).before args0 about1 = true := code_word (m := ⟨9, 8⟩) (meth := k9m8) (c := k9c8) (by decide +kernel) rfl rfl rfl (by decide +kernel)
set_option maxRecDepth 65536 in
theorem w_c9 : (Jvm.Cond.code ({ cls := "java/lang/StringUTF16", name := "compress", desc := "([CI[BII)I" } : Jvm.MethodName) jdk_52_method_21_code (7 : Nat) (Option.some Jvm.ClassFile.FieldType.int)).before args0 about1 = true := code_word (m := ⟨9, 9⟩) (meth := k9m9) (c := k9c9) (by decide +kernel) rfl rfl rfl (by decide +kernel)
set_option maxRecDepth 65536 in
theorem w_c10 : (Jvm.Cond.code ({ cls := "java/lang/StringUTF16", name := "coderFromArrayLen", desc := "([BI)B" } : Jvm.MethodName) jdk_52_method_15_code (2 : Nat) (Option.some Jvm.ClassFile.FieldType.byte)).before args0 about1 = true := code_word (m := ⟨9, 7⟩) (meth := k9m7) (c := k9c7) (by decide +kernel) rfl rfl rfl (by decide +kernel)
set_option maxRecDepth 65536 in
theorem w_c11 : (Jvm.Cond.code ({ cls := "java/lang/String", name := "charAt", desc := "(I)C" } : Jvm.MethodName) jdk_42_method_56_code (2 : Nat) (Option.some Jvm.ClassFile.FieldType.char)).before args0 about1 = true := code_word (m := ⟨7, 3⟩) (meth := k7m3) (c := k7c3) (by decide +kernel) rfl rfl rfl (by decide +kernel)
set_option maxRecDepth 65536 in
theorem w_c12 : (Jvm.Cond.code ({ cls := "java/lang/String", name := "isLatin1", desc := "()Z" } : Jvm.MethodName) jdk_42_method_154_code (1 : Nat) (Option.some Jvm.ClassFile.FieldType.boolean)).before args0 about1 = true := code_word (m := ⟨7, 6⟩) (meth := k7m6) (c := k7c6) (by decide +kernel) rfl rfl rfl (by decide +kernel)
set_option maxRecDepth 65536 in
theorem w_c13 : (Jvm.Cond.code ({ cls := "java/lang/StringLatin1", name := "charAt", desc := "([BI)C" } : Jvm.MethodName) jdk_43_method_2_code (2 : Nat) (Option.some Jvm.ClassFile.FieldType.char)).before args0 about1 = true := code_word (m := ⟨10, 1⟩) (meth := k10m1) (c := k10c1) (by decide +kernel) rfl rfl rfl (by decide +kernel)
set_option maxRecDepth 65536 in
theorem w_c14 : (Jvm.Cond.code ({ cls := "java/lang/String", name := "checkIndex", desc := "(II)V" } : Jvm.MethodName) jdk_42_method_155_code (2 : Nat) (Option.none : Option Jvm.ClassFile.FieldType)).before args0 about1 = true := code_word (m := ⟨7, 7⟩) (meth := k7m7) (c := k7c7) (by decide +kernel) rfl rfl rfl (by decide +kernel)
set_option maxRecDepth 65536 in
theorem w_c15 : (Jvm.Cond.code ({ cls := "jdk/internal/util/Preconditions", name := "checkIndex", desc := "(IILjava/util/function/BiFunction;)I" } : Jvm.MethodName) jdk_41_method_11_code (3 : Nat) (Option.some Jvm.ClassFile.FieldType.int)).before args0 about1 = true := code_word (m := ⟨11, 1⟩) (meth := k11m1) (c := k11c1) (by decide +kernel) rfl rfl rfl (by decide +kernel)
set_option maxRecDepth 65536 in
theorem w_c16 : (Jvm.Cond.code ({ cls := "java/lang/StringUTF16", name := "toBytes", desc := "([CII)[B" } : Jvm.MethodName) jdk_52_method_14_code (5 : Nat) (Option.some (Jvm.ClassFile.FieldType.array Jvm.ClassFile.FieldType.byte))).before args0 about1 = true := code_word (m := ⟨9, 6⟩) (meth := k9m6) (c := k9c6) (by decide +kernel) rfl rfl rfl (by decide +kernel)
set_option maxRecDepth 65536 in
theorem w_c17 : (Jvm.Cond.code ({ cls := "java/lang/StringUTF16", name := "newBytesFor", desc := "(I)[B" } : Jvm.MethodName) jdk_52_method_2_code (1 : Nat) (Option.some (Jvm.ClassFile.FieldType.array Jvm.ClassFile.FieldType.byte))).before args0 about1 = true := code_word (m := ⟨9, 1⟩) (meth := k9m1) (c := k9c1) (by decide +kernel) rfl rfl rfl (by decide +kernel)
set_option maxRecDepth 65536 in
theorem w_c18 : (Jvm.Cond.code ({ cls := "java/lang/StringUTF16", name := "newBytesLength", desc := "(I)I" } : Jvm.MethodName) jdk_52_method_3_code (1 : Nat) (Option.some Jvm.ClassFile.FieldType.int)).before args0 about1 = true := code_word (m := ⟨9, 2⟩) (meth := k9m2) (c := k9c2) (by decide +kernel) rfl rfl rfl (by decide +kernel)
set_option maxRecDepth 65536 in
theorem w_c19 : (Jvm.Cond.code ({ cls := "java/lang/StringUTF16", name := "putChar", desc := "([BII)V" } : Jvm.MethodName) jdk_52_method_4_code (3 : Nat) (Option.none : Option Jvm.ClassFile.FieldType)).before args0 about1 = true := code_word (m := ⟨9, 3⟩) (meth := k9m3) (c := k9c3) (by decide +kernel) rfl rfl rfl (by decide +kernel)
set_option maxRecDepth 65536 in
theorem w_c20 : (Jvm.Cond.code ({ cls := "java/lang/StringUTF16", name := "getChar", desc := "([BI)C" } : Jvm.MethodName) jdk_52_method_5_code (2 : Nat) (Option.some Jvm.ClassFile.FieldType.char)).before args0 about1 = true := code_word (m := ⟨9, 4⟩) (meth := k9m4) (c := k9c4) (by decide +kernel) rfl rfl rfl (by decide +kernel)
set_option maxRecDepth 65536 in
theorem w_c21 : (Jvm.Cond.code ({ cls := "java/lang/StringUTF16", name := "charAt", desc := "([BI)C" } : Jvm.MethodName) jdk_52_method_83_code (2 : Nat) (Option.some Jvm.ClassFile.FieldType.char)).before args0 about1 = true := code_word (m := ⟨9, 10⟩) (meth := k9m10) (c := k9c10) (by decide +kernel) rfl rfl rfl (by decide +kernel)
set_option maxRecDepth 65536 in
theorem w_c22 : (Jvm.Cond.code ({ cls := "java/lang/StringUTF16", name := "checkIndex", desc := "(I[B)V" } : Jvm.MethodName) jdk_52_method_91_code (2 : Nat) (Option.none : Option Jvm.ClassFile.FieldType)).before args0 about1 = true := code_word (m := ⟨9, 11⟩) (meth := k9m11) (c := k9c11) (by decide +kernel) rfl rfl rfl (by decide +kernel)
set_option maxRecDepth 65536 in
theorem w_c23 : (Jvm.Cond.code ({ cls := "java/lang/StringUTF16", name := "length", desc := "([B)I" } : Jvm.MethodName) jdk_52_method_6_code (1 : Nat) (Option.some Jvm.ClassFile.FieldType.int)).before args0 about1 = true := code_word (m := ⟨9, 5⟩) (meth := k9m5) (c := k9c5) (by decide +kernel) rfl rfl rfl (by decide +kernel)
def codes1 : List Jvm.Cond := [Jvm.Cond.code x code maxLocals ret, Jvm.Cond.code ({ cls := "com/example/epithet/epithet/store/MappedTableIsAsciiPinLaw", name := "make", desc := "(ICCCC)Ljava/lang/String;" } : Jvm.MethodName) method_3_code (5 : Nat) (Option.some (Jvm.ClassFile.FieldType.object "java/lang/String")), Jvm.Cond.code ({ cls := "java/lang/String", name := "<init>", desc := "([C)V" } : Jvm.MethodName) jdk_42_method_3_code (2 : Nat) (Option.none : Option Jvm.ClassFile.FieldType), Jvm.Cond.code ({ cls := "java/lang/String", name := "<init>", desc := "([CIILjava/lang/Void;)V" } : Jvm.MethodName) jdk_42_method_149_code (6 : Nat) (Option.none : Option Jvm.ClassFile.FieldType), Jvm.Cond.code ({ cls := "java/lang/Object", name := "<init>", desc := "()V" } : Jvm.MethodName) object_method_1_code (1 : Nat) (Option.none : Option Jvm.ClassFile.FieldType), Jvm.Cond.code ({ cls := "com/example/epithet/epithet/store/MappedTable", name := "isAscii", desc := "(Ljava/lang/String;)Z" } : Jvm.MethodName) prog_59_method_39_code (2 : Nat) (Option.some Jvm.ClassFile.FieldType.boolean), Jvm.Cond.code ({ cls := "java/lang/String", name := "length", desc := "()I" } : Jvm.MethodName) jdk_42_method_54_code (1 : Nat) (Option.some Jvm.ClassFile.FieldType.int), Jvm.Cond.code ({ cls := "java/lang/String", name := "coder", desc := "()B" } : Jvm.MethodName) jdk_42_method_152_code (1 : Nat) (Option.some Jvm.ClassFile.FieldType.byte), Jvm.Cond.code ({ cls := "java/lang/StringUTF16", name := "compress", desc := "([CII)[B" } : Jvm.MethodName) jdk_52_method_16_code (6 : Nat) (Option.some (Jvm.ClassFile.FieldType.array Jvm.ClassFile.FieldType.byte)), Jvm.Cond.code ({ cls := "java/lang/StringUTF16", name := "compress", desc := "([CI[BII)I" } : Jvm.MethodName) jdk_52_method_21_code (7 : Nat) (Option.some Jvm.ClassFile.FieldType.int), Jvm.Cond.code ({ cls := "java/lang/StringUTF16", name := "coderFromArrayLen", desc := "([BI)B" } : Jvm.MethodName) jdk_52_method_15_code (2 : Nat) (Option.some Jvm.ClassFile.FieldType.byte), Jvm.Cond.code ({ cls := "java/lang/String", name := "charAt", desc := "(I)C" } : Jvm.MethodName) jdk_42_method_56_code (2 : Nat) (Option.some Jvm.ClassFile.FieldType.char), Jvm.Cond.code ({ cls := "java/lang/String", name := "isLatin1", desc := "()Z" } : Jvm.MethodName) jdk_42_method_154_code (1 : Nat) (Option.some Jvm.ClassFile.FieldType.boolean), Jvm.Cond.code ({ cls := "java/lang/StringLatin1", name := "charAt", desc := "([BI)C" } : Jvm.MethodName) jdk_43_method_2_code (2 : Nat) (Option.some Jvm.ClassFile.FieldType.char), Jvm.Cond.code ({ cls := "java/lang/String", name := "checkIndex", desc := "(II)V" } : Jvm.MethodName) jdk_42_method_155_code (2 : Nat) (Option.none : Option Jvm.ClassFile.FieldType), Jvm.Cond.code ({ cls := "jdk/internal/util/Preconditions", name := "checkIndex", desc := "(IILjava/util/function/BiFunction;)I" } : Jvm.MethodName) jdk_41_method_11_code (3 : Nat) (Option.some Jvm.ClassFile.FieldType.int), Jvm.Cond.code ({ cls := "java/lang/StringUTF16", name := "toBytes", desc := "([CII)[B" } : Jvm.MethodName) jdk_52_method_14_code (5 : Nat) (Option.some (Jvm.ClassFile.FieldType.array Jvm.ClassFile.FieldType.byte)), Jvm.Cond.code ({ cls := "java/lang/StringUTF16", name := "newBytesFor", desc := "(I)[B" } : Jvm.MethodName) jdk_52_method_2_code (1 : Nat) (Option.some (Jvm.ClassFile.FieldType.array Jvm.ClassFile.FieldType.byte)), Jvm.Cond.code ({ cls := "java/lang/StringUTF16", name := "newBytesLength", desc := "(I)I" } : Jvm.MethodName) jdk_52_method_3_code (1 : Nat) (Option.some Jvm.ClassFile.FieldType.int), Jvm.Cond.code ({ cls := "java/lang/StringUTF16", name := "putChar", desc := "([BII)V" } : Jvm.MethodName) jdk_52_method_4_code (3 : Nat) (Option.none : Option Jvm.ClassFile.FieldType), Jvm.Cond.code ({ cls := "java/lang/StringUTF16", name := "getChar", desc := "([BI)C" } : Jvm.MethodName) jdk_52_method_5_code (2 : Nat) (Option.some Jvm.ClassFile.FieldType.char), Jvm.Cond.code ({ cls := "java/lang/StringUTF16", name := "charAt", desc := "([BI)C" } : Jvm.MethodName) jdk_52_method_83_code (2 : Nat) (Option.some Jvm.ClassFile.FieldType.char), Jvm.Cond.code ({ cls := "java/lang/StringUTF16", name := "checkIndex", desc := "(I[B)V" } : Jvm.MethodName) jdk_52_method_91_code (2 : Nat) (Option.none : Option Jvm.ClassFile.FieldType), Jvm.Cond.code ({ cls := "java/lang/StringUTF16", name := "length", desc := "([B)I" } : Jvm.MethodName) jdk_52_method_6_code (1 : Nat) (Option.some Jvm.ClassFile.FieldType.int)]
set_option maxRecDepth 65536 in
theorem codes_eq : words1.filter isCode = codes1 := rfl
theorem w_codes : ∀ c ∈ words1.filter isCode, c.before args0 about1 = true := by
  rw [codes_eq]
  intro c hc
  simp only [codes1, List.mem_cons, List.not_mem_nil, or_false] at hc
  rcases hc with rfl | rfl | rfl | rfl | rfl | rfl | rfl | rfl | rfl | rfl | rfl | rfl | rfl | rfl | rfl | rfl | rfl | rfl | rfl | rfl | rfl | rfl | rfl | rfl
  · exact w_c0
  · exact w_c1
  · exact w_c2
  · exact w_c3
  · exact w_c4
  · exact w_c5
  · exact w_c6
  · exact w_c7
  · exact w_c8
  · exact w_c9
  · exact w_c10
  · exact w_c11
  · exact w_c12
  · exact w_c13
  · exact w_c14
  · exact w_c15
  · exact w_c16
  · exact w_c17
  · exact w_c18
  · exact w_c19
  · exact w_c20
  · exact w_c21
  · exact w_c22
  · exact w_c23
set_option maxRecDepth 65536 in
theorem w_t1 : (words1.take 24).all (fun c => isCode c || c.before args0 about1) = true := by decide +kernel
set_option maxRecDepth 65536 in
theorem w_t2 : ((words1.drop 24).take 24).all (fun c => isCode c || c.before args0 about1) = true := by decide +kernel
set_option maxRecDepth 65536 in
theorem w_t3 : (((words1.drop 24).drop 24).take 24).all (fun c => isCode c || c.before args0 about1) = true := by decide +kernel
set_option maxRecDepth 65536 in
theorem w_t4 : ((((words1.drop 24).drop 24).drop 24).take 24).all (fun c => isCode c || c.before args0 about1) = true := by decide +kernel
set_option maxRecDepth 65536 in
theorem w_t5 : ((((words1.drop 24).drop 24).drop 24).drop 24).all (fun c => isCode c || c.before args0 about1) = true := by decide +kernel
theorem w_tables : (allAtoms (Jvm.Cond.code x code maxLocals ret :: tables_1)).before args0 about1 = true := by
  rw [allAtoms_all]
  show words1.all (fun c => c.before args0 about1) = true
  refine all_split ?_ w_codes
  rw [← List.take_append_drop 24 words1, List.all_append, w_t1, ← List.take_append_drop 24 (words1.drop 24), List.all_append, w_t2, ← List.take_append_drop 24 ((words1.drop 24).drop 24), List.all_append, w_t3, ← List.take_append_drop 24 (((words1.drop 24).drop 24).drop 24), List.all_append, w_t4, w_t5]
  rfl
set_option maxRecDepth 65536 in
theorem w_rest : rest_1_c.before args0 about1 = true := by decide +kernel
set_option maxRecDepth 65536 in
theorem w_case : (Jvm.Cond.and given_1 narrow_1).before args0 about1 = true := by decide +kernel
set_option maxRecDepth 65536 in
theorem w_consts : constsHeld consts_1 about1 := Jvm.Lit.constsHeldB_iff.mp (by decide +kernel)
theorem w_applies : (headSpec (Jvm.Cond.code x code maxLocals ret :: tables_1) room_1).applies x e0.platform about1 = true :=
  (Spec.applies_iff w_frames).mpr ⟨w_running, w_runnable, w_alone, w_named, w_hears, w_ripe, w_room, w_tables⟩
theorem atStart : AtStart classFile x code maxLocals ret World_1 tables_1 room_1 Calls_1 rest_1 Pre_1 launch0 p0 e0 about1 theMethod args0 below0 :=
  ⟨lists_1, trivial, launch0.admits_env _ _ _, launch0.least_env, fairChoices_fair.cas, fairChoices_fair.clock, w_frames, w_args, w_heap, w_applies, ⟨w_consts, trivial⟩, w_rest, w_case⟩
end start1
theorem witness_1 : WitnessClaimed_1 := ⟨start1.p0, start1.e0, start1.about1, start1.theMethod, start1.args0, start1.below0, start1.atStart⟩
end Jvm.Pilot.@@N@@
