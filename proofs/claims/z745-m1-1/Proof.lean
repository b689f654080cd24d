import JvmDerived
import JvmDerived.Pilot.@@N@@Statement
import JvmDerived.Pilot.@@N@@Code
set_option linter.unusedVariables false
set_option linter.unusedSimpArgs false
namespace Jvm.OwnKit
section Special
open Jvm Jvm.ClassFile Sem Op
variable {Q : Unit → Pre} {E : CtlPost} {e : Env} {d : Bool} {acts : List Action} {s : State} {f : JFrame}
/-- invokespecial of the direct superclass's own method, the entry of either kind -/
theorem wp_super {index a : Nat} {m : MethodId} {k ck : Class} {meth : Method} {args rest : List Value} {cell : Cell} {kcell : Class}
    (hs : s.topJava?.isSome) (hnamed : namesResolved s.vm f.method.cls index m.cls) (hr : s.vm.methodReady f.method.cls index m) (hck : s.vm.classes[f.method.cls]? = some ck) (hni : ck.isInterface = false) (hsup : ck.super = some m.cls)
    (hk : s.vm.classes[m.cls]? = some k) (hm : s.vm.method? m = some meth) (hname : meth.name ≠ "<init>") (hstatic : meth.isStatic = false) (habs : meth.isAbstract = false) (hfound : lookupSpecial s.vm m.cls meth.name meth.desc = .method m)
    (hlen : args.length = meth.sig.parameters.length) (hstack : f.stack = args.reverse ++ .ref a :: rest) (hcell : s.heap[a]? = some cell) (hobj : ∀ c, cell.vm ≠ .statics c) (hkcell : s.vm.classes[cell.cls]? = some kcell) :
    wp (invokespecial.sem index) Q E e d acts (s.setTop f) ↔ E (.invoke m (.ref a :: args).toArray) acts (s.setTop { f with stack := rest }) := by
  obtain ⟨kc, cf, ci, n, h1, h2, h3, h4⟩ := hnamed
  cases h1.symm.trans hck
  have hpre : ∀ {Q' : ClassId → Pre} {d' : Bool} {acts' : List Action}, wp (Jvm.refClassAt index) Q' E e d' acts' (s.setTop f) ↔ Q' m.cls d' acts' (s.setTop f) := by
    intro Q' d' acts'
    rcases h3 with h3 | h3 <;>
      simp [Jvm.refClassAt, Jvm.constantAt, State.method?_setTop f hs, h1, h2, h3, W.resolveClassAt_ready (State.method?_setTop f hs) h4]
  simp only [invokespecial.sem, wp_bind', W.resolveMethodAt_ready (State.method?_setTop f hs) hr]
  simp only [W.theMethod, State.vm_setTop, hm, Option.some.injEq, exists_eq_left', wp_bind', hpre]
  simp [hs, hname, hstatic, habs, h1, hk, hm, hsup, hni, hfound, State.method?_setTop f hs, Jvm.popArgs, ← hlen, popN_top hs hstack, hcell, hobj, hkcell]
end Special
section Super
open Jvm Jvm.ClassFile Sem Op Lib Bundle Jvm.Stand Jvm.Free Jvm.LawKit Jvm.RoadKit
variable {p : Program} {l : Launch} {e : Env} {R : Room} {s : State} {m : MethodId} {args : Array Value} {below : List Frame} {meth : Method} {c : Code} {T : State} {locs : List Loc} {cells slots : Nat} {Z : State} {a0 : Array Value} {h : Heap}
theorem superS (X : Stand p l e R s m args below meth c T locs cells slots) (hx : p.tables.exec = Jvm.exec) (hZ : Z.Warmed39 s.vm) {own K : String} {index : Nat} {y : MethodName} (hown : s.vm.findClass own = some m.cls) (w1 : (Jvm.Cond.methodLink own index y).before a0 Z = true)
    (w3 : (Jvm.Cond.instanceMethod y).before a0 Z = true) (w4 : (Jvm.Cond.superclass own y.cls).before a0 Z = true) (hn : y.name ≠ "<init>") (hy : y.cls ≠ "java/lang/invoke/MethodHandle" ∧ y.cls ≠ "java/lang/invoke/VarHandle") {W : Nat} {Pre : Pt → Array Value → Prop} {Post : Pt → Array Value → Option Value → Pt → Prop} (hK : BackS l R p e below s args y 3 W Pre Post)
    (eT : T.heap = h) {a : Addr} (F : Exa Z h a K) {g : JFrame} (hg : g.method = m) (hsize : g.locals.size = c.maxLocals) {bytes : ByteArray} {maxL : Nat} {ret : Option FieldType} (wc : (Jvm.Cond.code y bytes maxL ret).before a0 Z = true) {argsL rest : List Value}
    (hlen : ∀ sig, parseMethodDescriptor y.desc = some sig → argsL.length = sig.parameters.length) (hstack : g.stack = argsL.reverse ++ .ref a :: rest) (hW : 2 * g.monitorRoom + (rest.map fun v => v.category).sum ≤ W)
    (hdg : decode c.code g.pc = .ok (.invokespecial index, 3)) (hpre : ∀ vm₁, s.WarmedH vm₁ → Pre ⟨T.setVm vm₁, locs, cells, slots⟩ (.ref a :: argsL).toArray) :
    ∃ (v : Option Value) (vm₁ : Vm) (B : Pt), s.WarmedH vm₁ ∧ Stand p l e R (s.setVm B.U.vm) m args below meth c B.U B.locs B.cells B.slots ∧ s.Since B.U.vm B.U.heap.size ∧ T.heap.size ≤ B.U.heap.size ∧ Post ⟨T.setVm vm₁, locs, cells, slots⟩ (.ref a :: argsL).toArray v B ∧
      Steps p.tables e below (T.setTop g) (B.U.setTop { g with pc := g.pc + 3, stack := v.toList ++ rest }) := by
  have hpl : e.platform.magicAccessors = ({} : Platform).magicAccessors := by rw [X.admits.platform]
  obtain ⟨r0, methM, hnamed, hmethM, hstM, habM⟩ := Cond.instanceMethod_spec (mv (args := args) hZ w3)
  obtain ⟨m2, cM, q1, -, -, -, -, -, -, hsig⟩ := Cond.code_spec hnamed (mv (args := args) hZ wc)
  cases hmethM.symm.trans q1
  obtain ⟨ci, hl, hright⟩ := Cond.methodLink_spec hown hnamed (mv (args := args) hZ w1) e.platform hpl
  obtain ⟨kx, hkx, hnx⟩ := className_of_methodNamed hnamed
  obtain ⟨hnm, hds⟩ := name_of_methodNamed hnamed hmethM
  have hE : s.MethodEntry e T.vm m.cls index r0 ci := State.methodEntry X.warmed hl hright fun k hk => by
    cases hkx.symm.trans hk
    rw [hnx]; exact hy
  obtain ⟨dk, cfile, nt, _, _, via, ck, _, hd, hcf, hcp, -⟩ := hl.here
  have hcp' : cfile.constantPool[index]? = some (.methodref ci nt) ∨ cfile.constantPool[index]? = some (.interfaceMethodref ci nt) := by
    cases via
    · exact Or.inl (by simpa using hcp)
    · exact Or.inr (by simpa using hcp)
  have hcn := findClass_of_methodNamed hnamed
  have ws := mv (args := args) hZ w4
  simp only [Cond.before, Cond.holds, Cond.value, hown, hcn, hd, hkx, Option.bind_some, Option.map_some] at ws
  have ws' : ((dk.super = some r0.cls ∧ dk.kind = .ordinary) ∧ kx.kind = .ordinary) ∧ dk.isInterface = false := by simpa using ws
  have alike := hE.warmed.alike
  obtain ⟨dk₂, hdk₂, hres⟩ := hE.classReady
  obtain ⟨dk₃, hdk₃, hed⟩ := alike.2.2 _ _ hd
  cases hdk₂.symm.trans hdk₃
  obtain ⟨kx₂, hkx₂, -⟩ := alike.2.2 _ _ hkx
  obtain ⟨cell, kc, f1, -, f3, f4, -⟩ := F
  obtain ⟨kc', hkc', -⟩ := (State.Warmed39.alike (wtrans (U := T.setVm (T.vm.called m.cls ci index r0)) hZ hE.warmed)).2.2 _ _ f3
  have hfound := lookupSpecial_of_named hnamed hmethM hstM
  have X₁ := X.noted hE.warmed
  subst hg
  obtain ⟨v, B, X', hS, hgr, hpost, hsteps⟩ := hK g.method meth c ⟨T.setVm (T.vm.called g.method.cls ci index r0), locs, cells, slots⟩ { g with stack := rest } (.invokespecial index) r0 (.ref a :: argsL).toArray X₁ rfl hsize hdg hW (X₁.named hnamed) (hpre _ hE.warmed)
  refine ⟨v, _, B, hE.warmed, X', hS, hgr, hpost, ?_⟩
  jvm_step X.here [hx, hdg, invokespecial.wp_cold (e := e) (s := T) (s₀ := s) (f := g) X.here.top hE hd hcf hcp' hmethM,
    wp_super (e := e) (s := T.setVm (T.vm.called g.method.cls ci index r0)) (f := g) (m := r0) (k := kx₂) (ck := dk₂) (meth := methM) (a := a) (args := argsL) (rest := rest) (cell := cell) (kcell := kc')
      X.here.top ⟨dk₂, cfile, ci, nt, hdk₂, by rw [hed]; exact hcf, hcp', dk₂, hdk₂, hres⟩ hE.ready hdk₂ (by rw [hed]; exact ws'.2) (by rw [hed]; exact ws'.1.1.1) hkx₂
      (by show (T.vm.called g.method.cls ci index r0).method? r0 = some methM; rw [alike.method?]; exact hmethM) (by rw [hnm]; exact hn) hstM habM
      (by show lookupSpecial (T.vm.called g.method.cls ci index r0) r0.cls methM.name methM.desc = .method r0; rw [alike.lookupSpecial, hnm, hds]; exact hfound) (hlen _ hsig) hstack (by show T.heap[a]? = some cell; rw [eT]; exact f1)
      (fun z hz => by rw [hz] at f4; cases f4) hkc']
  intro acts1
  rw [doInvoke_state]
  exact hsteps
end Super
end Jvm.OwnKit
namespace Jvm.OwnKit
open Jvm Jvm.ClassFile Sem Op Lib Bundle Jvm.Stand Jvm.Free Jvm.LawKit Jvm.RoadKit
/-- a predicate on where the run stands that goes backwards along steps -/
def Bw (p : Program) (e : Env) (below : List Frame) (F : State → JFrame → Prop) : Prop :=
  ∀ {T T' : State} {g g' : JFrame}, (∀ t, Steps p.tables e below (T'.setTop g') t → Steps p.tables e below (T.setTop g) t) → F T' g' → F T g
/-- where the walk stands: sf: new cells that no booked literal owns; lq: entries whose String is known -/
def Sp (p : Program) (l : Launch) (e : Env) (R : Room) (s : State) (m : MethodId) (args : Array Value) (below : List Frame) (meth : Method) (c : Code) (Z : State) (a0 : Array Value) (EL : List (String × Nat)) (own : String)
    (T : State) (h : Heap) (sf : List Addr) (lq : List (String × Nat × Addr)) (k n : Nat) : Prop :=
  ∃ (vm0 : Vm) (k0 : Nat) (locs : List Loc), Stand p l e R (s.setVm vm0) m args below meth c T locs k n ∧ T.heap = h ∧ s.Since vm0 k0 ∧ k0 ≤ h.size ∧ Z.Warmed39 vm0 ∧ vm0.findClass own = some m.cls ∧
    CHr Z EL s.vm s.heap vm0 h ∧ Fr Z.heap.size locs ∧ Ext Z.heap h ∧ (∀ x ∈ sf, Safe Z EL vm0 h x ∧ Z.heap.size ≤ x ∧ x < h.size) ∧ (∀ q ∈ lq, Lit (s.setVm vm0) q.1 q.2.1 q.2.2) ∧ p.tables.exec = Jvm.exec ∧ EW Z a0 EL
/-- the end of a body's walk -/
def Fin (p : Program) (e : Env) (below : List Frame) (s Z : State) (EL : List (String × Nat)) (Q : Option Value → Heap → List Addr → Prop) (k n : Nat) (T : State) (g : JFrame) : Prop :=
  ∃ (s₂ : State) (o : Outcome), Steps p.tables e below (T.setTop g) s₂ ∧ s₂.status = .running ∧ Ended s₂ below o ∧
    ∃ (v : Option Value) (L : List Loc) (nw : List Addr), o = .returned v ∧ Q v s₂.heap nw ∧ (∀ x ∈ nw, Safe Z EL s₂.vm s₂.heap x ∧ Z.heap.size ≤ x ∧ x < s₂.heap.size) ∧ Fr Z.heap.size L ∧ Ext Z.heap s₂.heap ∧ CHr Z EL s.vm s.heap s₂.vm s₂.heap ∧ ReturnedEndW s o s₂ L k n
/-- a callee's contract -/
def Con (l : Launch) (Z : State) (EL : List (String × Nat)) (y : MethodName) (bytes : ByteArray) (maxL : Nat) (ret : Option FieldType) (rm : Room) (as' : Array Value) (h : Heap) (sf : List Addr) (Q : Option Value → Heap → List Addr → Prop) : Prop :=
  MetFree l y (head1 [Jvm.Cond.code y bytes maxL ret] rm) (fun a U => a = as' ∧ Z.Warmed39 U.vm ∧ U.heap = h ∧ CHv Z EL U.vm h ∧ Ext Z.heap h ∧ ∀ x ∈ sf, Safe Z EL U.vm h x ∧ Z.heap.size ≤ x ∧ x < h.size) (fun _ _ _ _ _ => True)
    (fun _ U o U' => ∃ (v : Option Value) (L : List Loc) (nw : List Addr), o = .returned v ∧ Q v U'.heap nw ∧ (∀ x ∈ nw, Safe Z EL U'.vm U'.heap x ∧ Z.heap.size ≤ x ∧ x < U'.heap.size) ∧ Fr Z.heap.size L ∧ Ext Z.heap U'.heap ∧ CHr Z EL U.vm U.heap U'.vm U'.heap ∧ ReturnedEndW U o U' L rm.cells rm.slots)
/-- a call that comes back -/
def Call (l : Launch) (R : Room) (p : Program) (e : Env) (below : List Frame) (s : State) (args : Array Value) (Z : State) (a0 : Array Value) (EL : List (String × Nat)) (y : MethodName) (len W : Nat) (as' : Array Value) (h : Heap) (sf : List Addr) (kc ks : Nat) (Q : Option Value → Heap → List Addr → Prop) : Prop :=
  ∀ vm0 : Vm, Z.Warmed39 vm0 → CHv Z EL vm0 h → EW Z a0 EL → Ext Z.heap h → (∀ x ∈ sf, Safe Z EL vm0 h x ∧ Z.heap.size ≤ x ∧ x < h.size) →
    BackS l R p e below (s.setVm vm0) args y len W (fun A a => a = as' ∧ A.U.heap = h ∧ A.cells + kc ≤ R.cells ∧ A.slots + ks ≤ R.slots)
      (fun A _ v B => ∃ (L : List Loc) (nw : List Addr), Q v B.U.heap nw ∧ (∀ x ∈ nw, Safe Z EL B.U.vm B.U.heap x ∧ Z.heap.size ≤ x ∧ x < B.U.heap.size) ∧ Fr Z.heap.size L ∧ Ext Z.heap B.U.heap ∧ B.locs = A.locs ++ L ∧ B.cells = A.cells + kc ∧ B.slots = A.slots + ks ∧ CHr Z EL vm0 h B.U.vm B.U.heap)
theorem nin1 {x y : Nat} (h : x ≠ y) : x ∉ ([y] : List Addr) := fun q => h (List.mem_singleton.mp q)
theorem nin2 {x y z : Nat} (h : x ≠ y) (h2 : x ≠ z) : x ∉ ([y, z] : List Addr) := fun q => (List.mem_cons.mp q).elim h fun q => h2 (List.mem_singleton.mp q)
theorem qk1 {a k : Nat} {ws : List Addr} (h : (a : Addr) ∈ ws ∨ k ≤ a) : ∀ x ∈ ([a] : List Addr), x ∈ ws ∨ k ≤ x := fun x hx => by cases List.mem_singleton.mp hx; exact h
theorem natlt {a b : Nat} (h : a < b) : a < b := h
theorem natne {a b : Nat} (h : a ≠ b) : a ≠ b := h
theorem acmp_same {x : Value} : Jvm.Free.XT.acmp .ne x x = false := by simp [Jvm.Free.XT.acmp]
section Kit
variable {p : Program} {l : Launch} {e : Env} {R : Room} {s : State} {m : MethodId} {args : Array Value} {below : List Frame} {meth : Method} {c : Code} {Z : State} {a0 : Array Value} {EL : List (String × Nat)} {own : String}
  {T : State} {h h' : Heap} {sf : List Addr} {lq : List (String × Nat × Addr)} {k n : Nat} {F : State → JFrame → Prop} {Q : Option Value → Heap → List Addr → Prop}
theorem Fin.bw {kc ks : Nat} : Bw p e below (Fin p e below s Z EL Q kc ks) := fun st ⟨s₂, o, h1, r⟩ => ⟨s₂, o, st _ h1, r⟩
theorem Sp.here (S : Sp p l e R s m args below meth c Z a0 EL own T h sf lq k n) : At T m c below := by obtain ⟨_, _, _, X, -⟩ := S; exact X.here
theorem Sp.hx (S : Sp p l e R s m args below meth c Z a0 EL own T h sf lq k n) : p.tables.exec = Jvm.exec := by obtain ⟨_, _, _, -, -, -, -, -, -, -, -, -, -, -, q, -⟩ := S; exact q
theorem Sp.old (S : Sp p l e R s m args below meth c Z a0 EL own T h sf lq k n) : Ext Z.heap h := by obtain ⟨_, _, _, -, -, -, -, -, -, -, -, q, -⟩ := S; exact q
theorem Sp.isnew (S : Sp p l e R s m args below meth c Z a0 EL own T h sf lq k n) {x : Addr} (hx : x ∈ sf) : Z.heap.size ≤ x := by obtain ⟨_, _, _, -, -, -, -, -, -, -, -, -, q, -⟩ := S; exact (q x hx).2.1
theorem Sp.mono (S : Sp p l e R s m args below meth c Z a0 EL own T h sf lq k n) {k' n' : Nat} (hk : k ≤ k') (hn : n ≤ n') : Sp p l e R s m args below meth c Z a0 EL own T h sf lq k' n' := by
  obtain ⟨vm0, k0, locs, X, r⟩ := S
  exact ⟨vm0, k0, locs, X.mono hk hn, r⟩
theorem Sp.sub (S : Sp p l e R s m args below meth c Z a0 EL own T h sf lq k n) {sf' : List Addr} (hs : ∀ x ∈ sf', x ∈ sf) : Sp p l e R s m args below meth c Z a0 EL own T h sf' lq k n := by
  obtain ⟨vm0, k0, locs, X, h1, h2, h3, h4, h5, h6, h7, h8, h9, r⟩ := S
  exact ⟨vm0, k0, locs, X, h1, h2, h3, h4, h5, h6, h7, h8, fun x hx => h9 x (hs x hx), r⟩
theorem Sp.noLit (S : Sp p l e R s m args below meth c Z a0 EL own T h sf lq k n) : Sp p l e R s m args below meth c Z a0 EL own T h sf [] k n := by
  obtain ⟨vm0, k0, locs, X, h1, h2, h3, h4, h5, h6, h7, h8, h9, h10, r⟩ := S
  exact ⟨vm0, k0, locs, X, h1, h2, h3, h4, h5, h6, h7, h8, h9, (fun _ q => nomatch q), r⟩
/-- a body, entered -/
theorem Con.of {y : MethodName} {bytes : ByteArray} {maxL : Nat} {ret : Option FieldType} {rm : Room} {as' : Array Value} (hpl : plainFor y = true) (hEW : EW Z a0 EL)
    (body : ∀ (p : Program) (e : Env) (s : State) (m : MethodId) (below : List Frame) (meth : Method) (c : Code) (T : State) (F : State → JFrame → Prop), Bw p e below F → (∀ {T : State} {g : JFrame}, Fin p e below s Z EL Q rm.cells rm.slots T g → F T g) →
      c.code = bytes → c.maxLocals = maxL → meth.sig.returnType = ret → meth.locks = false → meth.name = y.name → Sp p l e rm s m as' below meth c Z a0 EL y.cls T h sf [] 0 0 → F T (entryFrame m as' maxL)) :
    Con l Z EL y bytes maxL ret rm as' h sf Q := by
  refine MetFree.of_bodySF hpl (hisR (ws := [])) ?_
  intro p e s m args below meth c s₁ Bd hml0 hP hK
  obtain ⟨rfl, hZ, hh, hC, hE, hsf⟩ := hP
  have hX : Stand p l e rm (s.setVm s.vm) m args below meth c s₁ [] 0 0 := Stand.of_body Bd
  have e0 : s₁.heap = h := by rw [← hh, Bd.state]; rfl
  refine body p e s m below meth c s₁ (Fin p e below s Z EL Q rm.cells rm.slots) Fin.bw (fun q => q) Bd.bytes hml0 Bd.returns Bd.notSynchronized (name_of_methodNamed Bd.named Bd.method).1 ⟨s.vm, 0, [], hX, e0, (State.WarmedH.refl s).since 0, Nat.zero_le _, hZ, findClass_of_methodNamed Bd.named, ?_, Fr.nil _, hE, hsf, (fun _ q => nomatch q), Bd.exec, hEW⟩
  rw [← hh] at hC ⊢
  exact CHr.refl hC
theorem Call.con {y : MethodName} {bytes : ByteArray} {maxL : Nat} {ret : Option FieldType} {rm : Room} {as' : Array Value} {len W : Nat} (hM : Con l Z EL y bytes maxL ret rm as' h sf Q)
    (wc : (Jvm.Cond.code y bytes maxL ret).before a0 Z = true) (wz : (Jvm.Cond.initialized y.cls).before a0 Z = true) (hf : rm.frames + 1 ≤ R.frames) (hl : W + (maxL + 11) + rm.locals ≤ R.locals) :
    Call l R p e below s args Z a0 EL y len W as' h sf rm.cells rm.slots Q := fun vm0 hZ hC hEL hE hsf =>
  BackS.of_freeW (bytes := bytes) (maxL := maxL) (ret := ret) (E := fun _ first o t L k n => k = rm.cells ∧ n = rm.slots ∧ ∃ (v : Option Value) (nw : List Addr), o = .returned v ∧ Q v t.heap nw ∧ (∀ x ∈ nw, Safe Z EL t.vm t.heap x ∧ Z.heap.size ≤ x ∧ x < t.heap.size) ∧ Fr Z.heap.size L ∧ Ext Z.heap t.heap ∧ CHr Z EL first.vm first.heap t.vm t.heap) hM hf hl
    (fun m meth c A a Y hp => have hU : Z.Warmed39 A.U.vm := wtrans (s := s.setVm vm0) hZ Y.warmed
      ⟨by show (Jvm.Cond.and _ .tt).before a A.U = true; rw [Cond.before_and, mv hU wc]; rfl, mv hU wc, mv hU wz, hp.2.2.1, hp.2.2.2⟩)
    (fun m meth c A a g mk Y hp => ⟨hp.1, wtrans (s := s.setVm vm0) hZ Y.warmed, hp.2.1, (CHv.at Y hZ hEL hC).1, hE, fun x hx => ⟨(CHv.at Y hZ hEL hC).safe (hsf x hx).2.2 (hsf x hx).1, (hsf x hx).2⟩⟩) (fun _ _ _ _ _ _ _ _ _ => trivial)
    (fun _ _ _ _ ⟨v, L, nw, h1, h2, h3, h4, h5, h6, h7⟩ => ⟨L, _, _, h7, rfl, rfl, v, nw, h1, h2, h3, h4, h5, h6⟩)
    (fun m meth c A a g mk v t L k n Y hp _ _ ⟨e1, e2, v', nw, e3, e4, e5, e6, e7, e8⟩ => by
      cases e3; subst e1 e2
      refine ⟨L, nw, e4, e5, e6, e7, rfl, rfl, rfl, (CHv.at Y hZ hEL hC).trans ?_⟩
      rw [← hp.2.1]; exact e8)
/-- a law of the other form: its callee interns nothing -/
theorem Call.back {y : MethodName} {as' : Array Value} {len W kc ks : Nat} {ws : List Addr} {Qb : Option Value → Heap → List Loc → Prop} (hws : ∀ x ∈ ws, x ∈ sf)
    (hK : ∀ s' : State, Z.Warmed39 s'.vm → Back l R p e below s' args y len W (fun A a => a = as' ∧ A.U.heap = h ∧ A.cells + kc ≤ R.cells ∧ A.slots + ks ≤ R.slots) (fun A _ v B => ∃ L, Qb v B.U.heap L ∧ B.locs = A.locs ++ L ∧ B.cells = A.cells + kc ∧ B.slots = A.slots + ks))
    (hq : ∀ v h' L, Qb v h' L → Fr Z.heap.size L ∧ Keep h h' ws ∧ ∃ nw, Q v h' nw ∧ ∀ x ∈ nw, h.size ≤ x ∧ x < h'.size) :
    Call l R p e below s args Z a0 EL y len W as' h sf kc ks Q := fun vm0 hZ hC hEL hE hsf => by
  intro m meth c A g ig mk a X hg hsize hdg hW hn hp
  obtain ⟨v, B, X', ⟨L, hQ, hl, hc, hs⟩, st⟩ := hK (s.setVm vm0) hZ m meth c A g ig mk a X hg hsize hdg hW hn hp
  obtain ⟨hFr, K, nw, q1, q2⟩ := hq _ _ _ hQ
  have R1 : CHr Z EL vm0 h B.U.vm h := CHv.at (h := h) X' hZ hEL hC
  have hsafe : ∀ x ∈ ws, Safe Z EL B.U.vm h x := fun x hx => R1.safe (hsf x (hws x hx)).2.2 (hsf x (hws x hx)).1
  have R2 : CHr Z EL B.U.vm h B.U.vm B.U.heap := CHr.keep K hsafe R1.1
  have hE' : Ext Z.heap B.U.heap := ⟨Nat.le_trans hE.1 K.1, fun x cl q => K.2.1 x cl (hE.2 x cl q) fun z => absurd (Array.getElem?_eq_some_iff.mp q).1 (Nat.not_lt.mpr (hsf x (hws x z)).2.1)⟩
  refine ⟨v, B, X'.retabled X'.warmed.wide, X'.warmed.since _, by rw [hp.2.1]; exact K.1, ⟨L, nw, q1, fun x hx => ⟨fun Bq => ?_, Nat.le_trans hE.1 (q2 x hx).1, (q2 x hx).2⟩, hFr, hE', hl, hc, hs, R1.trans R2⟩, st⟩
  have Bq' : Bk Z EL B.U.vm h x := (CHv.keepStep K hsafe R1.1).2 x Bq
  exact Safe.new (q2 x hx).1 Bq'
/-- the same, where the heap is as it was -/
theorem Call.pure {y : MethodName} {as' : Array Value} {len W : Nat} {Qv : Option Value → Prop} 
    (hK : ∀ s' : State, Z.Warmed39 s'.vm → Back l R p e below s' args y len W (fun A a => a = as' ∧ A.U.heap = h ∧ A.cells + 0 ≤ R.cells ∧ A.slots + 0 ≤ R.slots) (fun A _ v B => ∃ L, (Qv v ∧ L = [] ∧ B.U.heap = h) ∧ B.locs = A.locs ++ L ∧ B.cells = A.cells + 0 ∧ B.slots = A.slots + 0)) :
    Call l R p e below s args Z a0 EL y len W as' h sf 0 0 (fun v h' nw => Qv v ∧ nw = [] ∧ h = h') :=
  Call.back (ws := []) (Qb := fun v h' L => Qv v ∧ L = [] ∧ h' = h) (fun _ q => nomatch q) hK fun v h' L ⟨h1, h2, h3⟩ => by
    subst h2 h3
    exact ⟨Fr.nil _, Keep.refl _ _, [], ⟨h1, rfl, rfl⟩, fun _ q => nomatch q⟩
/-- behind a call -/
theorem Sp.after {vm0 : Vm} {k0 : Nat} {locs : List Loc} {kc ks : Nat} {B : Pt}
    (hS : s.Since vm0 k0) (hk : k0 ≤ h.size) (hZ : Z.Warmed39 vm0) (ho : vm0.findClass own = some m.cls) (hC : CHr Z EL s.vm s.heap vm0 h) (hN : Fr Z.heap.size locs) (hsf : ∀ x ∈ sf, Safe Z EL vm0 h x ∧ Z.heap.size ≤ x ∧ x < h.size) (hlt : ∀ q ∈ lq, Lit (s.setVm vm0) q.1 q.2.1 q.2.2) (hx : p.tables.exec = Jvm.exec) (hW : EW Z a0 EL)
    (X : Stand p l e R ((s.setVm vm0).setVm B.U.vm) m args below meth c B.U B.locs B.cells B.slots) (h2 : (s.setVm vm0).Since B.U.vm B.U.heap.size)
    {L : List Loc} {nw : List Addr} (q2 : ∀ x ∈ nw, Safe Z EL B.U.vm B.U.heap x ∧ Z.heap.size ≤ x ∧ x < B.U.heap.size) (q3 : Fr Z.heap.size L) (q4 : Ext Z.heap B.U.heap) (q5 : B.locs = locs ++ L) (q6 : B.cells = k + kc) (q7 : B.slots = n + ks) (q8 : CHr Z EL vm0 h B.U.vm B.U.heap) :
    Sp p l e R s m args below meth c Z a0 EL own B.U B.U.heap (nw ++ sf) lq (k + kc) (n + ks) := by
  rw [← q6, ← q7]
  refine ⟨B.U.vm, B.U.heap.size, B.locs, X, rfl, hS.trans h2 (Nat.le_trans hk q8.2.1), Nat.le_refl _, State.Warmed39.trans (t := s.setVm vm0) hZ h2.1, (h2.1.alike.findClass _ _).trans ho, hC.trans q8, by rw [q5]; exact hN.app q3, q4, fun x hx' => ?_, fun q hq => Lit.stays (hlt q hq) h2.1, hx, hW⟩
  rcases List.mem_append.mp hx' with z | z
  · exact q2 x z
  · exact ⟨q8.safe (hsf x z).2.2 (hsf x z).1, (hsf x z).2.1, Nat.lt_of_lt_of_le (hsf x z).2.2 q8.2.1⟩
theorem Sp.special (B : Bw p e below F) (S : Sp p l e R s m args below meth c Z a0 EL own T h sf lq k n) {ix : Nat} {y : MethodName} {bytes : ByteArray} {maxL : Nat} {a : Addr} {argsL rest st : List Value} {sfc : List Addr} {kc ks W pc : Nat} {Ls : Array Slot} (hy1 : y.name = "<init>")
    (w1 : (Jvm.Cond.methodLink own ix y).before a0 Z = true) (w2 : (Jvm.Cond.instanceMethod y).before a0 Z = true) (w3 : (Jvm.Cond.code y bytes maxL none).before a0 Z = true) (hy : y.cls ≠ "java/lang/invoke/MethodHandle" ∧ y.cls ≠ "java/lang/invoke/VarHandle")
    (C : Call l R p e below s args Z a0 EL y 3 W (.ref a :: argsL).toArray h sfc kc ks Q) (hsub : ∀ x ∈ sfc, x ∈ sf) (hkc : k + kc ≤ R.cells) (hks : n + ks ≤ R.slots) (hml : Ls.size = c.maxLocals)
    (hlen : ∀ sig, parseMethodDescriptor y.desc = some sig → argsL.length = sig.parameters.length) (hst : st = argsL.reverse ++ .ref a :: rest) (hW : (rest.map fun v => v.category).sum ≤ W) (hd : decode c.code pc = .ok (.invokespecial ix, 3))
    (K : ∀ (v : Option Value) (T' : State) (h' : Heap) (nw : List Addr), Sp p l e R s m args below meth c Z a0 EL own T' h' (nw ++ sf) lq (k + kc) (n + ks) → Q v h' nw → F T' (mkF m (pc + 3) Ls (v.toList ++ rest))) : F T (mkF m pc Ls st) := by
  obtain ⟨vm0, k0, locs, X, eT, hS, hk, hZ, ho, hC, hN, hE, hsf, hlt, hx, hEW⟩ := S
  obtain ⟨v, vm₁, B', hw, X', h2, hgr, ⟨L, nw, q1, q2, q3, q4, q5, q6, q7, q8⟩, st'⟩ := X.specialBackS hx hy1 ho (mvT (s := s.setVm vm0) hZ w1) (mvT (s := s.setVm vm0) hZ w2) (mvT (s := s.setVm vm0) hZ w3) hy (C vm0 hZ hC.1 hEW hE fun x hx => hsf x (hsub x hx)) (g := mkF m pc Ls st) rfl hml (Steps.refl _) hlen hst (by show 2 * 0 + _ ≤ _; omega) hd (fun vm₁ _ => ⟨rfl, eT, hkc, hks⟩)
  exact B (fun t kt => st'.trans kt) (K v B'.U B'.U.heap nw (Sp.after hS hk hZ ho hC hN hsf hlt hx hEW X' h2 q2 q3 q4 q5 q6 q7 q8) q1)
theorem Sp.static (B : Bw p e below F) (S : Sp p l e R s m args below meth c Z a0 EL own T h sf lq k n) {ix : Nat} {y : MethodName} {bytes : ByteArray} {maxL : Nat} {ret : Option FieldType} {argsL rest st : List Value} {sfc : List Addr} {kc ks W pc : Nat} {Ls : Array Slot}
    (w1 : (Jvm.Cond.methodLink own ix y).before a0 Z = true) (w2 : (Jvm.Cond.static y).before a0 Z = true) (wz : (Jvm.Cond.initialized y.cls).before a0 Z = true) (w3 : (Jvm.Cond.code y bytes maxL ret).before a0 Z = true) (hy : y.cls ≠ "java/lang/invoke/MethodHandle" ∧ y.cls ≠ "java/lang/invoke/VarHandle")
    (C : Call l R p e below s args Z a0 EL y 3 W argsL.toArray h sfc kc ks Q) (hsub : ∀ x ∈ sfc, x ∈ sf) (hkc : k + kc ≤ R.cells) (hks : n + ks ≤ R.slots) (hml : Ls.size = c.maxLocals)
    (hlen : ∀ sig, parseMethodDescriptor y.desc = some sig → argsL.length = sig.parameters.length) (hst : st = argsL.reverse ++ rest) (hW : (rest.map fun v => v.category).sum ≤ W) (hd : decode c.code pc = .ok (.invokestatic ix, 3))
    (K : ∀ (v : Option Value) (T' : State) (h' : Heap) (nw : List Addr), Sp p l e R s m args below meth c Z a0 EL own T' h' (nw ++ sf) lq (k + kc) (n + ks) → Q v h' nw → F T' (mkF m (pc + 3) Ls (v.toList ++ rest))) : F T (mkF m pc Ls st) := by
  obtain ⟨vm0, k0, locs, X, eT, hS, hk, hZ, ho, hC, hN, hE, hsf, hlt, hx, hEW⟩ := S
  obtain ⟨v, vm₁, B', hw, X', h2, hgr, ⟨L, nw, q1, q2, q3, q4, q5, q6, q7, q8⟩, st'⟩ := callSS X hx ho (mvT (s := s.setVm vm0) hZ w1) (mvT (s := s.setVm vm0) hZ w2) (mvT (s := s.setVm vm0) hZ wz) (mvT (s := s.setVm vm0) hZ w3) hy (C vm0 hZ hC.1 hEW hE fun x hx => hsf x (hsub x hx)) (g := mkF m pc Ls st) rfl hml hlen hst (by show 2 * 0 + _ ≤ _; omega) hd (fun vm₁ _ => ⟨rfl, eT, hkc, hks⟩)
  exact B (fun t kt => st'.trans kt) (K v B'.U B'.U.heap nw (Sp.after hS hk hZ ho hC hN hsf hlt hx hEW X' h2 q2 q3 q4 q5 q6 q7 q8) q1)
theorem Sp.virt (B : Bw p e below F) (S : Sp p l e R s m args below meth c Z a0 EL own T h sf lq k n) {ix : Nat} {y z : MethodName} {C : String} {a : Addr} {argsL rest st : List Value} {sfc : List Addr} {kc ks W pc : Nat} {Ls : Array Slot}
    (w1 : (Jvm.Cond.methodLink own ix y).before a0 Z = true) (w2 : (Jvm.Cond.declares y).before a0 Z = true) (wf : (Jvm.Cond.selects y.cls y y).before a0 Z = true) (w3 : (Jvm.Cond.selects C y z).before a0 Z = true) (w4 : (Jvm.Cond.instanceMethod z).before a0 Z = true) (hy : y.cls ≠ "java/lang/invoke/MethodHandle" ∧ y.cls ≠ "java/lang/invoke/VarHandle")
    (CC : Call l R p e below s args Z a0 EL z 3 W (.ref a :: argsL).toArray h sfc kc ks Q) (E : Exa Z h a C) (hsub : ∀ x ∈ sfc, x ∈ sf) (hkc : k + kc ≤ R.cells) (hks : n + ks ≤ R.slots) (hml : Ls.size = c.maxLocals)
    (hlen : ∀ sig, parseMethodDescriptor y.desc = some sig → argsL.length = sig.parameters.length) (hst : st = argsL.reverse ++ .ref a :: rest) (hW : (rest.map fun v => v.category).sum ≤ W) (hd : decode c.code pc = .ok (.invokevirtual ix, 3))
    (K : ∀ (v : Option Value) (T' : State) (h' : Heap) (nw : List Addr), Sp p l e R s m args below meth c Z a0 EL own T' h' (nw ++ sf) lq (k + kc) (n + ks) → Q v h' nw → F T' (mkF m (pc + 3) Ls (v.toList ++ rest))) : F T (mkF m pc Ls st) := by
  obtain ⟨vm0, k0, locs, X, eT, hS, hk, hZ, ho, hC, hN, hE, hsf, hlt, hx, hEW⟩ := S
  obtain ⟨cB, kB, r1, r2, r3⟩ := isOf (s := s.setVm vm0) hZ eT E
  obtain ⟨v, vm₁, B', hw, X', h2, hgr, ⟨L, nw, q1, q2, q3, q4, q5, q6, q7, q8⟩, st'⟩ := X.virtualBackS hx ho (mvT (s := s.setVm vm0) hZ w1) (mvT (s := s.setVm vm0) hZ w2) (notFace_of_selects (args := #[]) (mvT (s := s.setVm vm0) hZ wf)) (mvT (s := s.setVm vm0) hZ w3) (mvT (s := s.setVm vm0) hZ w4) hy (CC vm0 hZ hC.1 hEW hE fun x hx => hsf x (hsub x hx)) r1 r3 (g := mkF m pc Ls st) rfl hml (Steps.refl _) hlen hst (by show 2 * 0 + _ ≤ _; omega) hd (fun vm₁ _ => ⟨rfl, eT, hkc, hks⟩)
  exact B (fun t kt => st'.trans kt) (K v B'.U B'.U.heap nw (Sp.after hS hk hZ ho hC hN hsf hlt hx hEW X' h2 q2 q3 q4 q5 q6 q7 q8) q1)
theorem Sp.super (B : Bw p e below F) (S : Sp p l e R s m args below meth c Z a0 EL own T h sf lq k n) {ix : Nat} {y : MethodName} {bytes : ByteArray} {maxL : Nat} {ret : Option FieldType} {K0 : String} {a : Addr} {argsL rest st : List Value} {sfc : List Addr} {kc ks W pc : Nat} {Ls : Array Slot} (hn : y.name ≠ "<init>")
    (w1 : (Jvm.Cond.methodLink own ix y).before a0 Z = true) (w2 : (Jvm.Cond.instanceMethod y).before a0 Z = true) (w4 : (Jvm.Cond.superclass own y.cls).before a0 Z = true) (w3 : (Jvm.Cond.code y bytes maxL ret).before a0 Z = true) (hy : y.cls ≠ "java/lang/invoke/MethodHandle" ∧ y.cls ≠ "java/lang/invoke/VarHandle")
    (C : Call l R p e below s args Z a0 EL y 3 W (.ref a :: argsL).toArray h sfc kc ks Q) (E : Exa Z h a K0) (hsub : ∀ x ∈ sfc, x ∈ sf) (hkc : k + kc ≤ R.cells) (hks : n + ks ≤ R.slots) (hml : Ls.size = c.maxLocals)
    (hlen : ∀ sig, parseMethodDescriptor y.desc = some sig → argsL.length = sig.parameters.length) (hst : st = argsL.reverse ++ .ref a :: rest) (hW : (rest.map fun v => v.category).sum ≤ W) (hd : decode c.code pc = .ok (.invokespecial ix, 3))
    (K : ∀ (v : Option Value) (T' : State) (h' : Heap) (nw : List Addr), Sp p l e R s m args below meth c Z a0 EL own T' h' (nw ++ sf) lq (k + kc) (n + ks) → Q v h' nw → F T' (mkF m (pc + 3) Ls (v.toList ++ rest))) : F T (mkF m pc Ls st) := by
  obtain ⟨vm0, k0, locs, X, eT, hS, hk, hZ, ho, hC, hN, hE, hsf, hlt, hx, hEW⟩ := S
  obtain ⟨v, vm₁, B', hw, X', h2, hgr, ⟨L, nw, q1, q2, q3, q4, q5, q6, q7, q8⟩, st'⟩ := superS (s := s.setVm vm0) X hx hZ ho w1 w2 w4 hn hy (C vm0 hZ hC.1 hEW hE fun x hx => hsf x (hsub x hx)) eT E (g := mkF m pc Ls st) rfl hml w3 hlen hst (by show 2 * 0 + _ ≤ _; omega) hd (fun vm₁ _ => ⟨rfl, eT, hkc, hks⟩)
  exact B (fun t kt => st'.trans kt) (K v B'.U B'.U.heap nw (Sp.after hS hk hZ ho hC hN hsf hlt hx hEW X' h2 q2 q3 q4 q5 q6 q7 q8) q1)
/-- the heap as it was: what a law that makes no change hands on -/
theorem Sp.same (S : Sp p l e R s m args below meth c Z a0 EL own T h sf lq k n) {P : State → Prop} (st : ∀ (vm0 : Vm) (locs : List Loc), Stand p l e R (s.setVm vm0) m args below meth c T locs k n → Z.Warmed39 vm0 → vm0.findClass own = some m.cls → T.heap = h → ∃ T', Stand p l e R (s.setVm vm0) m args below meth c T' locs k n ∧ T'.heap = h ∧ P T') :
    ∃ T', Sp p l e R s m args below meth c Z a0 EL own T' h sf lq k n ∧ P T' := by
  obtain ⟨vm0, k0, locs, X, eT, r1, r2, hZ, ho, r⟩ := S
  obtain ⟨T', X', e', st'⟩ := st vm0 locs X hZ ho eT
  exact ⟨T', ⟨vm0, k0, locs, X', e', r1, r2, hZ, ho, r⟩, st'⟩
theorem Sp.get (B : Bw p e below F) (S : Sp p l e R s m args below meth c Z a0 EL own T h sf lq k n) {R0 O nm d : String} {ix pc : Nat} {Ls : Array Slot} {a : Addr} {v : Value} {rest : List Value} (w : (Jvm.Cond.fieldLink own ix R0 nm d).before a0 Z = true) (via : Via Z R0 O nm d) (Fl : Fld Z h a O nm d v) (hd : decode c.code pc = .ok (.getfield ix, 3))
    (K : ∀ T', Sp p l e R s m args below meth c Z a0 EL own T' h sf lq k n → F T' (mkF m (pc + 3) Ls (v :: rest))) : F T (mkF m pc Ls (.ref a :: rest)) := by
  obtain ⟨T', S', st⟩ := S.same fun vm0 locs X hZ ho eT => getF X S.hx hZ ho (host := "") (Or.inl w) via eT Fl (g := mkF m pc Ls (.ref a :: rest)) rfl rfl hd
  exact B st (K T' S')
theorem Sp.getS (B : Bw p e below F) (S : Sp p l e R s m args below meth c Z a0 EL own T h sf lq k n) {R0 O nm d : String} {ix pc : Nat} {Ls : Array Slot} {v : Value} {st : List Value} (w : (Jvm.Cond.fieldLink own ix R0 nm d).before a0 Z = true) (via : Via Z R0 O nm d) (Fs : Sta Z Z.heap O nm d v) (hd : decode c.code pc = .ok (.getstatic ix, 3))
    (K : ∀ T', Sp p l e R s m args below meth c Z a0 EL own T' h sf lq k n → F T' (mkF m (pc + 3) Ls (v :: st))) : F T (mkF m pc Ls st) := by
  obtain ⟨T', S', st'⟩ := S.same fun vm0 locs X hZ ho eT => RoadKit.getS X S.hx hZ (host := "") ho w via eT (Fs.ext S.old) (g := mkF m pc Ls st) rfl hd
  exact B st' (K T' S')
theorem Sp.cast (B : Bw p e below F) (S : Sp p l e R s m args below meth c Z a0 EL own T h sf lq k n) {C : String} {ix pc : Nat} {Ls : Array Slot} {a : Addr} {rest : List Value} (w : (Jvm.Cond.classLink own ix C).before a0 Z = true) (I : Ins Z h a C true) (hd : decode c.code pc = .ok (.checkcast ix, 3))
    (K : ∀ T', Sp p l e R s m args below meth c Z a0 EL own T' h sf lq k n → F T' (mkF m (pc + 3) Ls (.ref a :: rest))) : F T (mkF m pc Ls (.ref a :: rest)) := by
  obtain ⟨T', S', st'⟩ := S.same fun vm0 locs X hZ ho eT => castY X S.hx hZ ho w eT I (g := mkF m pc Ls (.ref a :: rest)) rfl rfl hd
  exact B st' (K T' S')
theorem Sp.instY (B : Bw p e below F) (S : Sp p l e R s m args below meth c Z a0 EL own T h sf lq k n) {C : String} {ix pc : Nat} {Ls : Array Slot} {a : Addr} {rest : List Value} (w : (Jvm.Cond.classLink own ix C).before a0 Z = true) (I : Ins Z h a C true) (hd : decode c.code pc = .ok (.instanceof ix, 3))
    (K : ∀ T', Sp p l e R s m args below meth c Z a0 EL own T' h sf lq k n → F T' (mkF m (pc + 3) Ls (.int 1 :: rest))) : F T (mkF m pc Ls (.ref a :: rest)) := by
  obtain ⟨T', S', st'⟩ := S.same fun vm0 locs X hZ ho eT => RoadKit.instY X S.hx hZ ho w eT I (g := mkF m pc Ls (.ref a :: rest)) rfl rfl hd
  exact B st' (K T' S')
theorem Sp.initO (B : Bw p e below F) (S : Sp p l e R s m args below meth c Z a0 EL own T h sf lq k n) {ix pc W : Nat} {Ls : Array Slot} {a : Addr} {rest : List Value} (w1 : (Jvm.Cond.methodLink own ix Lib.objectInit).before a0 Z = true) (w2 : (Jvm.Cond.instanceMethod Lib.objectInit).before a0 Z = true) (w3 : (Jvm.Cond.code Lib.objectInit ⟨#[0xb1]⟩ 1 none).before a0 Z = true)
    (hml : Ls.size = c.maxLocals) (hd : decode c.code pc = .ok (.invokespecial ix, 3)) (hf : 1 ≤ R.frames) (hW : (rest.map fun v => v.category).sum ≤ W) (hl : W + 12 ≤ R.locals)
    (K : ∀ T', Sp p l e R s m args below meth c Z a0 EL own T' h sf lq k n → F T' (mkF m (pc + 3) Ls rest)) : F T (mkF m pc Ls (.ref a :: rest)) := by
  obtain ⟨T', S', st'⟩ := S.same fun vm0 locs X hZ ho eT => RoadKit.initO X S.hx hZ ho w1 w2 w3 eT (g := mkF m pc Ls (.ref a :: rest)) rfl hml rfl hd hf (W := W) (by show 2 * 0 + _ ≤ _; omega) hl
  exact B st' (K T' S')
/-- one place of a new cell written -/
theorem Sp.wr {T' : State} {vm0 : Vm} {k0 : Nat} {locs : List Loc} {a : Addr} {sl : Nat} {v : Value} (X : Stand p l e R (s.setVm vm0) m args below meth c T' (locs ++ [⟨a, sl⟩]) k n) (eT : T'.heap = h') (hS : s.Since vm0 k0) (hk : k0 ≤ h.size) (hZ : Z.Warmed39 vm0) (ho : vm0.findClass own = some m.cls) (hC : CHr Z EL s.vm s.heap vm0 h) (hN : Fr Z.heap.size locs) (hE : Ext Z.heap h)
    (hsf : ∀ x ∈ sf, Safe Z EL vm0 h x ∧ Z.heap.size ≤ x ∧ x < h.size) (hlt : ∀ q ∈ lq, Lit (s.setVm vm0) q.1 q.2.1 q.2.2) (hx : p.tables.exec = Jvm.exec) (hEW : EW Z a0 EL) (W : Wr h h' a sl v) (ha : a ∈ sf) : Sp p l e R s m args below meth c Z a0 EL own T' h' sf lq k n := by
  have hs := W.size
  refine ⟨vm0, k0, _, X, eT, hS, by rw [hs]; exact hk, hZ, ho, hC.trans (CHr.wr W (hsf a ha).1 hC.1), Fr.snoc X hN (hsf a ha).2.1, ⟨by rw [hs]; exact hE.1, fun x cl q => ?_⟩, fun x hx' => ⟨Safe.wr W (hsf a ha).1 hC.1 (hsf x hx').1, (hsf x hx').2.1, by rw [hs]; exact (hsf x hx').2.2⟩, hlt, hx, hEW⟩
  exact (Keep.of_wr W).2.1 x cl (hE.2 x cl q) (ninS (Nat.ne_of_lt (Nat.lt_of_lt_of_le (Array.getElem?_eq_some_iff.mp q).1 (hsf a ha).2.1)) nin0)
theorem Sp.put (B : Bw p e below F) (S : Sp p l e R s m args below meth c Z a0 EL own T h sf lq k n) {R0 O nm d C : String} {ix kk pc : Nat} {ty : FieldType} {Ls : Array Slot} {a : Addr} {v v' old : Value} {rest : List Value} (w : (Jvm.Cond.fieldLink own ix R0 nm d).before a0 Z = true) (via : Via Z R0 O nm d) (Fl : Fld Z h a O nm d old) (E : Exa Z h a C)
    (L : (Jvm.Cond.lays C O nm d).before a0 Z = true ∨ ((Jvm.Cond.laysFinal C O nm d).before a0 Z = true ∧ own = O ∧ meth.name = "<init>")) (wi : (Jvm.Cond.instantiable C kk).before a0 Z = true) (hty : parseFieldDescriptor d = some ty) (hn : narrow ty v = v') (hf : fits ty v' = true) (ha : a ∈ sf) (hd : decode c.code pc = .ok (.putfield ix, 3))
    (K : ∀ T' h', Sp p l e R s m args below meth c Z a0 EL own T' h' sf lq k n → Wr h h' a (RoadKit.slotOf Z O nm d) v' → F T' (mkF m (pc + 3) Ls rest)) : F T (mkF m pc Ls (v :: .ref a :: rest)) := by
  obtain ⟨vm0, k0, locs, X, eT, hS, hk, hZ, ho, hC, hN, hE, hsf, hlt, hx, hEW⟩ := S
  obtain ⟨T', h', X', e', W, st⟩ := putFN X hx hZ ho w via eT Fl E L wi hty hn hf (g := mkF m pc Ls (v :: .ref a :: rest)) rfl rfl hd
  exact B st (K T' h' (Sp.wr X' e' hS hk hZ ho hC hN hE hsf hlt hx hEW W ha) W)
/-- a cell made -/
theorem Sp.grow {T' : State} {vm0 : Vm} {k0 k' n' : Nat} {locs : List Loc} (X : Stand p l e R (s.setVm vm0) m args below meth c T' locs k' n') (eT : T'.heap = h') (hS : s.Since vm0 k0) (hk : k0 ≤ h.size) (hZ : Z.Warmed39 vm0) (ho : vm0.findClass own = some m.cls) (hC : CHr Z EL s.vm s.heap vm0 h) (hN : Fr Z.heap.size locs) (hE : Ext Z.heap h)
    (hsf : ∀ x ∈ sf, Safe Z EL vm0 h x ∧ Z.heap.size ≤ x ∧ x < h.size) (hlt : ∀ q ∈ lq, Lit (s.setVm vm0) q.1 q.2.1 q.2.2) (hx : p.tables.exec = Jvm.exec) (hEW : EW Z a0 EL) (E : Ext h h') (hlt' : h.size < h'.size) : Sp p l e R s m args below meth c Z a0 EL own T' h' (h.size :: sf) lq k' n' := by
  refine ⟨vm0, k0, _, X, eT, hS, Nat.le_trans hk E.1, hZ, ho, hC.trans (CHr.ext E hC.1), hN, ⟨Nat.le_trans hE.1 E.1, fun x cl q => E.2 _ _ (hE.2 x cl q)⟩, fun x hx' => ?_, hlt, hx, hEW⟩
  rcases List.mem_cons.mp hx' with rfl | q
  · exact ⟨Safe.ext E hC.1 (Safe.new (Nat.le_refl _)), hE.1, hlt'⟩
  · exact ⟨Safe.ext E hC.1 (hsf x q).1, (hsf x q).2.1, Nat.lt_of_lt_of_le (hsf x q).2.2 E.1⟩
theorem Sp.newO (B : Bw p e below F) (S : Sp p l e R s m args below meth c Z a0 EL own T h sf lq k n) {C : String} {ix kk pc : Nat} {Ls : Array Slot} {st : List Value} (w : (Jvm.Cond.classLink own ix C).before a0 Z = true) (wi : (Jvm.Cond.instantiable C kk).before a0 Z = true) (wz : (Jvm.Cond.initialized C).before a0 Z = true) (hd : decode c.code pc = .ok (.new ix, 3)) (hc : k + 1 ≤ R.cells) (hl : n + kk ≤ R.slots)
    (K : ∀ T' h' a, Sp p l e R s m args below meth c Z a0 EL own T' h' (a :: sf) lq (k + 1) (n + kk) → Ext h h' → h.size ≤ a → Exa Z h' a C → (∀ {O nm d : String} {ty : FieldType}, Laid Z a0 C O nm d → parseFieldDescriptor d = some ty → Fld Z h' a O nm d (defaultValue ty)) → F T' (mkF m (pc + 3) Ls (.ref a :: st))) : F T (mkF m pc Ls st) := by
  obtain ⟨vm0, k0, locs, X, eT, hS, hk, hZ, ho, hC, hN, hE, hsf, hlt, hx, hEW⟩ := S
  obtain ⟨T', h', X', e', E, A, D, -, st'⟩ := RoadKit.newO X hx hZ ho w wi wz eT (g := mkF m pc Ls st) rfl hd hc hl
  exact B st' (K T' h' h.size (Sp.grow X' e' hS hk hZ ho hC hN hE hsf hlt hx hEW E A.lt) E (Nat.le_refl _) A fun a b => D a b)
theorem Sp.newP (B : Bw p e below F) (S : Sp p l e R s m args below meth c Z a0 EL own T h sf lq k n) {aty : ArrayType} {cap pc : Nat} {Ls : Array Slot} {z : Int32} {rest : List Value} {ad : String} (w : (Jvm.Cond.arrayClass (newarray.typeOf aty)).before a0 Z = true) (hd : decode c.code pc = .ok (.newarray aty, 2)) (hn : ¬ z < 0) (hcap : z.toNatClampNeg ≤ cap) (hb : cap * 8 ≤ 536870912) (hc : k + 1 ≤ R.cells) (hl : n + cap ≤ R.slots) (had : "[" ++ (newarray.typeOf aty).toString = ad)
    (K : ∀ T' h' a kA, Sp p l e R s m args below meth c Z a0 EL own T' h' (a :: sf) lq (k + 1) (n + cap) → Ext h h' → h.size ≤ a → Exa Z h' a ad → Arv Z h' a kA (newarray.typeOf aty) z [] (defaultValue (newarray.typeOf aty)) → F T' (mkF m (pc + 2) Ls (.ref a :: rest))) : F T (mkF m pc Ls (.int z :: rest)) := by
  obtain ⟨vm0, k0, locs, X, eT, hS, hk, hZ, ho, hC, hN, hE, hsf, hlt, hx, hEW⟩ := S
  obtain ⟨T', h', cA, X', e', E, A, Ex, st'⟩ := newPE X hx hZ w eT (g := mkF m pc Ls (.int z :: rest)) rfl hd rfl hn hcap hb hc hl had
  exact B st' (K T' h' h.size cA (Sp.grow X' e' hS hk hZ ho hC hN hE hsf hlt hx hEW E A.lt) E (Nat.le_refl _) Ex (Arv.new A hn))
theorem Sp.stC (B : Bw p e below F) (S : Sp p l e R s m args below meth c Z a0 EL own T h sf lq k n) {a : Addr} {kA : ClassId} {z j x x' : Int32} {vs : List Value} {dv : Value} {i pc : Nat} {Ls : Array Slot} {rest : List Value} (V : Arv Z h a kA .char z vs dv) (hj : ¬ j < 0 ∧ j < z) (hi : j.toNatClampNeg = i) (hil : i < vs.length) (hx' : nar .char x = x') (ha : a ∈ sf) (hd : decode c.code pc = .ok (.castore, 1))
    (K : ∀ T' h', Sp p l e R s m args below meth c Z a0 EL own T' h' sf lq k n → Wr h h' a j.toNatClampNeg (.int x') → Arv Z h' a kA .char z (vs.set i (.int x')) dv → F T' (mkF m (pc + 1) Ls rest)) : F T (mkF m pc Ls (.int x :: .int j :: .ref a :: rest)) := by
  obtain ⟨vm0, k0, locs, X, eT, hS, hk, hZ, ho, hC, hN, hE, hsf, hlt, hx, hEW⟩ := S
  obtain ⟨cl, A, q1, q2, q3, H, G⟩ := V
  obtain ⟨T', h', X', e', W, st⟩ := RoadKit.stC X hx hZ eT A (inb_of q2 hj) (g := mkF m pc Ls (.int x :: .int j :: .ref a :: rest)) rfl rfl hd
  have hf : fits .char (.int x') = true := hx' ▸ fits_nar_char x
  rw [hx'] at W
  exact B st (K T' h' (Sp.wr X' e' hS hk hZ ho hC hN hE hsf hlt hx hEW W ha) W (Arv.set A q1 q2 q3 H G hf W i hi hil))
theorem Sp.stB (B : Bw p e below F) (S : Sp p l e R s m args below meth c Z a0 EL own T h sf lq k n) {a : Addr} {kA : ClassId} {z j x x' : Int32} {vs : List Value} {dv : Value} {i pc : Nat} {Ls : Array Slot} {rest : List Value} (V : Arv Z h a kA .byte z vs dv) (hj : ¬ j < 0 ∧ j < z) (hi : j.toNatClampNeg = i) (hil : i < vs.length) (hx' : nar .byte x = x') (ha : a ∈ sf) (hd : decode c.code pc = .ok (.bastore, 1))
    (K : ∀ T' h', Sp p l e R s m args below meth c Z a0 EL own T' h' sf lq k n → Wr h h' a j.toNatClampNeg (.int x') → Arv Z h' a kA .byte z (vs.set i (.int x')) dv → F T' (mkF m (pc + 1) Ls rest)) : F T (mkF m pc Ls (.int x :: .int j :: .ref a :: rest)) := by
  obtain ⟨vm0, k0, locs, X, eT, hS, hk, hZ, ho, hC, hN, hE, hsf, hlt, hx, hEW⟩ := S
  obtain ⟨cl, A, q1, q2, q3, H, G⟩ := V
  obtain ⟨T', h', X', e', W, st⟩ := RoadKit.stB X hx hZ eT A (inb_of q2 hj) (g := mkF m pc Ls (.int x :: .int j :: .ref a :: rest)) rfl rfl hd
  have hf : fits .byte (.int x') = true := hx' ▸ fits_nar_byte x
  rw [hx'] at W
  exact B st (K T' h' (Sp.wr X' e' hS hk hZ ho hC hN hE hsf hlt hx hEW W ha) W (Arv.set A q1 q2 q3 H G hf W i hi hil))
theorem Sp.alen (B : Bw p e below F) (S : Sp p l e R s m args below meth c Z a0 EL own T h sf lq k n) {a : Addr} {kA : ClassId} {ty : FieldType} {z : Int32} {vs : List Value} {dv : Value} {pc : Nat} {Ls : Array Slot} {rest : List Value} (V : Arv Z h a kA ty z vs dv) (hd : decode c.code pc = .ok (.arraylength, 1))
    (K : F T (mkF m (pc + 1) Ls (.int z :: rest))) : F T (mkF m pc Ls (.ref a :: rest)) := by
  obtain ⟨vm0, k0, locs, X, eT, hS, hk, hZ, ho, hC, hN, hE, hsf, hlt, hx, hEW⟩ := S
  obtain ⟨cl, A, q1, q2, q3, H, G⟩ := V
  refine B (fun t kt => ?_) K
  refine X.arraylength hx (by rw [eT]; exact A.1) (State.isArrayOf_alike hZ.alike A.2.1) (g := mkF m pc Ls (.ref a :: rest)) rfl rfl hd _ ?_
  rw [len_of q2 q3]
  exact kt
theorem Sp.cald (B : Bw p e below F) (S : Sp p l e R s m args below meth c Z a0 EL own T h sf lq k n) {a : Addr} {kA : ClassId} {z j x : Int32} {vs : List Value} {dv : Value} {pc : Nat} {Ls : Array Slot} {rest : List Value} (V : Arv Z h a kA .char z vs dv) (hj : ¬ j < 0 ∧ j < z) (hv : vs.getD j.toNatClampNeg dv = .int x) (hd : decode c.code pc = .ok (.caload, 1))
    (K : F T (mkF m (pc + 1) Ls (.int x :: rest))) : F T (mkF m pc Ls (.int j :: .ref a :: rest)) := by
  obtain ⟨vm0, k0, locs, X, eT, hS, hk, hZ, ho, hC, hN, hE, hsf, hlt, hx, hEW⟩ := S
  obtain ⟨cl, A, q1, q2, q3, H, G⟩ := V
  refine B (fun t kt => ?_) K
  exact X.caload hx (j := j) (v := .int x) (by rw [eT]; exact A.1) (State.isArrayOf_alike hZ.alike A.2.1) A.2.2 (inb_of q2 hj) (H.at (inb_of q2 hj) hv) (g := mkF m pc Ls (.int j :: .ref a :: rest)) rfl rfl hd _ kt
theorem Sp.bald (B : Bw p e below F) (S : Sp p l e R s m args below meth c Z a0 EL own T h sf lq k n) {a : Addr} {kA : ClassId} {z j x : Int32} {vs : List Value} {dv : Value} {pc : Nat} {Ls : Array Slot} {rest : List Value} (V : Arv Z h a kA .byte z vs dv) (hj : ¬ j < 0 ∧ j < z) (hv : vs.getD j.toNatClampNeg dv = .int x) (hd : decode c.code pc = .ok (.baload, 1))
    (K : F T (mkF m (pc + 1) Ls (.int x :: rest))) : F T (mkF m pc Ls (.int j :: .ref a :: rest)) := by
  obtain ⟨vm0, k0, locs, X, eT, hS, hk, hZ, ho, hC, hN, hE, hsf, hlt, hx, hEW⟩ := S
  obtain ⟨cl, A, q1, q2, q3, H, G⟩ := V
  refine B (fun t kt => ?_) K
  exact X.baloadBytes hx (j := j) (v := .int x) (by rw [eT]; exact A.1) (State.isArrayOf_alike hZ.alike A.2.1) A.2.2 (inb_of q2 hj) (H.at (inb_of q2 hj) hv) (g := mkF m pc Ls (.int j :: .ref a :: rest)) rfl rfl hd _ kt
theorem Sp.irem (B : Bw p e below F) (S : Sp p l e R s m args below meth c Z a0 EL own T h sf lq k n) {x y : Int32} {pc : Nat} {Ls : Array Slot} {rest : List Value} (hy : y ≠ 0) (hd : decode c.code pc = .ok (.irem, 1))
    (K : F T (mkF m (pc + 1) Ls (.int (x % y) :: rest))) : F T (mkF m pc Ls (.int y :: .int x :: rest)) := by
  obtain ⟨vm0, k0, locs, X, eT, hS, hk, hZ, ho, hC, hN, hE, hsf, hlt, hx, hEW⟩ := S
  exact B (fun t kt => iremM X hx (g := mkF m pc Ls (.int y :: .int x :: rest)) rfl hd rfl hy kt) K
theorem Sp.ldcI (B : Bw p e below F) (S : Sp p l e R s m args below meth c Z a0 EL own T h sf lq k n) {v : Int32} {ix pc : Nat} {Ls : Array Slot} {st : List Value} (w : (Jvm.Cond.constant own ix v).before a0 Z = true) (hd : decode c.code pc = .ok (.ldc ix, 2))
    (K : F T (mkF m (pc + 2) Ls (.int v :: st))) : F T (mkF m pc Ls st) := by
  obtain ⟨vm0, k0, locs, X, eT, hS, hk, hZ, ho, hC, hN, hE, hsf, hlt, hx, hEW⟩ := S
  exact B (fun t kt => X.ldcI hx ho (mvT (s := s.setVm vm0) hZ w) (g := mkF m pc Ls st) rfl hd kt) K
/-- more room than is asked -/
theorem Call.mono {y : MethodName} {as' : Array Value} {len W kc ks kc' ks' : Nat} (C : Call l R p e below s args Z a0 EL y len W as' h sf kc ks Q) (hk : kc ≤ kc') (hs : ks ≤ ks') : Call l R p e below s args Z a0 EL y len W as' h sf kc' ks' Q := fun vm0 hZ hC hEL hE hsf => by
  intro m meth c A g ig mk a X hg hsize hdg hW hn hp
  obtain ⟨v, B, X', h2, hgr, ⟨L, nw, q1, q2, q3, q4, q5, q6, q7, q8⟩, st⟩ := C vm0 hZ hC hEL hE hsf m meth c A g ig mk a X hg hsize hdg hW hn ⟨hp.1, hp.2.1, Nat.le_trans (Nat.add_le_add_left hk _) hp.2.2.1, Nat.le_trans (Nat.add_le_add_left hs _) hp.2.2.2⟩
  exact ⟨v, ⟨B.U, B.locs, A.cells + kc', A.slots + ks'⟩, X'.mono (by rw [q6]; exact Nat.add_le_add_left hk _) (by rw [q7]; exact Nat.add_le_add_left hs _), h2, hgr, ⟨L, nw, q1, q2, q3, q4, q5, rfl, rfl, q8⟩, st⟩
theorem Call.imp {y : MethodName} {as' : Array Value} {len W kc ks : Nat} {Q' : Option Value → Heap → List Addr → Prop} (C : Call l R p e below s args Z a0 EL y len W as' h sf kc ks Q) (hq : ∀ v h' nw, Q v h' nw → Q' v h' nw) : Call l R p e below s args Z a0 EL y len W as' h sf kc ks Q' := fun vm0 hZ hC hEL hE hsf => by
  intro m meth c A g ig mk a X hg hsize hdg hW hn hp
  obtain ⟨v, B, X', h2, hgr, ⟨L, nw, q1, q2⟩, st⟩ := C vm0 hZ hC hEL hE hsf m meth c A g ig mk a X hg hsize hdg hW hn hp
  exact ⟨v, B, X', h2, hgr, ⟨L, nw, hq _ _ _ q1, q2⟩, st⟩
/-- a String constant of EL loaded, its text read -/
theorem Sp.ldc (B : Bw p e below F) (S : Sp p l e R s m args below meth c Z a0 EL own T h sf lq k n) {text : String} {ix nn pc : Nat} {Ls : Array Slot} {st : List Value} (w : (Jvm.Cond.stringLink own ix text).before a0 Z = true) (wS : ∀ a ∈ Bundle.stringAtoms, a.before a0 Z = true) (hmem : (own, ix) ∈ EL)
    {vs : List Value} {z : Int32} (ht : (∀ c ∈ text.toList, c.toNat < 256) ∧ text.toList.map (fun c => Value.int (Jvm.Lit.byteI c.toNat.toUInt16)) = vs) (hz : ¬ z < 0) (hl : z.toNatClampNeg = vs.length) (hd : decode c.code pc = .ok (.ldc ix, 2)) (hn : 4 * text.toList.length ≤ nn) (hbig : nn ≤ 536870912) (hc : k + 2 ≤ R.cells) (hl' : n + (nn + 4) ≤ R.slots)
    (K : ∀ T' h' a b kb, Sp p l e R s m args below meth c Z a0 EL own T' h' sf [(own, ix, a)] (k + 2) (n + (nn + 4)) → Ext h h' → Exa Z h' a "java/lang/String" → Fld Z h' a "java/lang/String" "coder" "B" (.int 0) → Fld Z h' a "java/lang/String" "value" "[B" (.ref b) → Arv Z h' b kb .byte z vs (.int 0) → (∀ x ∈ sf, x ≠ a ∧ x ≠ b) → F T' (mkF m (pc + 2) Ls (.ref a :: st))) : F T (mkF m pc Ls st) := by
  obtain ⟨vm0, k0, locs, X, eT, hS, hk, hZ, ho, hC, hN, hE, hsf, hlt, hx, hEW⟩ := S
  obtain ⟨a, T', h', k1, b, kb, X', e', E, hS', hk', hZ', ho', e1, e2, e3, e4, e5, e6, hCr, hL, hne, st'⟩ := ldcCH X hx hZ ho w wS eT hS hk hEW hmem hC.1 ht hz hl (g := mkF m pc Ls st) rfl hd hn hbig hc hl'
  refine B st' (K T' h' a b kb ⟨T'.vm, k1, locs, X', e', hS', hk', hZ', ho', hC.trans hCr, hN, ⟨Nat.le_trans hE.1 E.1, fun x cl q => E.2 _ _ (hE.2 x cl q)⟩, fun x hx' => ⟨hCr.safe (hsf x hx').2.2 (hsf x hx').1, (hsf x hx').2.1, Nat.lt_of_lt_of_le (hsf x hx').2.2 E.1⟩, fun q hq => ?_, hx, hEW⟩ E e1 e2 e3 e4 fun x hx' => hne x (hCr.safe (hsf x hx').2.2 (hsf x hx').1))
  cases List.mem_singleton.mp hq
  exact hL
/-- the same entry again -/
theorem Sp.ldcA (B : Bw p e below F) (S : Sp p l e R s m args below meth c Z a0 EL own T h sf lq k n) {text : String} {ix pc : Nat} {a : Addr} {Ls : Array Slot} {st : List Value} (w : (Jvm.Cond.stringLink own ix text).before a0 Z = true) (hq : (own, ix, a) ∈ lq) (hd : decode c.code pc = .ok (.ldc ix, 2))
    (K : F T (mkF m (pc + 2) Ls (.ref a :: st))) : F T (mkF m pc Ls st) := by
  obtain ⟨vm0, k0, locs, X, eT, hS, hk, hZ, ho, hC, hN, hE, hsf, hlt, hx, hEW⟩ := S
  exact B (ldcAgain X hx hZ ho w (hlt _ hq) (g := mkF m pc Ls st) rfl hd) K
/-- returns -/
theorem Sp.leave {kc ks : Nat} (S : Sp p l e R s m args below meth c Z a0 EL own T h sf lq kc ks) {v : Option Value} (hv : meth.sig.returnType = none → v = none) (hlk : meth.locks = false) {nw : List Addr} (hq : Q v h nw) (hnw : ∀ x ∈ nw, x ∈ sf) {g : JFrame}
    (go : ∀ (vm0 : Vm) (locs : List Loc) (fs : List Frame), Stand p l e R (s.setVm vm0) m args below meth c T locs kc ks → (∀ (f : JFrame) (acts : List Action), f.method = m → f.locked = none → f.entered = [] → (doReturn e (T.setTop f) acts v).1 = T.setFrames fs) → Steps p.tables e below (T.setTop g) (T.setFrames fs)) :
    Fin p e below s Z EL Q kc ks T g := by
  obtain ⟨vm0, k0, locs, X, eT, hS, hk, hZ, ho, hC, hN, hE, hsf, hlt, hx, hEW⟩ := S
  obtain ⟨fs, h1, h2, h3, h4⟩ := X.leaveW hS (by rw [eT]; exact hk) hv hlk
  have R1 : CHr Z EL vm0 h T.vm h := CHv.at X hZ hEW hC.1
  refine ⟨_, _, go vm0 locs fs X h1, h2, h3, v, locs, nw, rfl, by show Q v T.heap nw; rw [eT]; exact hq, fun x hx' => ?_, hN, by show Ext Z.heap T.heap; rw [eT]; exact hE, by show CHr Z EL s.vm s.heap T.vm T.heap; rw [eT]; exact hC.trans R1, h4⟩
  have q := hsf x (hnw x hx')
  show Safe Z EL T.vm T.heap x ∧ Z.heap.size ≤ x ∧ x < T.heap.size
  rw [eT]; exact ⟨R1.safe q.2.2 q.1, q.2⟩
theorem Sp.ret {kc ks pc : Nat} {Ls : Array Slot} (S : Sp p l e R s m args below meth c Z a0 EL own T h sf lq kc ks) (hr : meth.sig.returnType = none) (hlk : meth.locks = false) (hd : decode c.code pc = .ok (.return_, 1)) {nw : List Addr} (hq : Q none h nw) (hnw : ∀ x ∈ nw, x ∈ sf) : Fin p e below s Z EL Q kc ks T (mkF m pc Ls []) :=
  S.leave (fun _ => rfl) hlk hq hnw fun vm0 locs fs X hl => X.returnOut S.hx hr hd hl
theorem Sp.retV {kc ks pc : Nat} {Ls : Array Slot} {t : FieldType} {w : Value} {i : Instr} {rest : List Value} (S : Sp p l e R s m args below meth c Z a0 EL own T h sf lq kc ks) (hr : meth.sig.returnType = some t) (hlk : meth.locks = false) (hn : narrow t w = w)
    (hi : (i = .ireturn ∧ (t = .int ∨ t = .boolean ∨ t = .byte ∨ t = .char ∨ t = .short) ∧ ∃ z, w = .int z) ∨ (i = .lreturn ∧ t = .long ∧ ∃ z, w = .long z) ∨ (i = .dreturn ∧ t = .double ∧ ∃ z, w = .double z) ∨ (i = .freturn ∧ t = .float ∧ ∃ z, w = .float z) ∨ (i = .areturn ∧ t.isReference = true ∧ w.isRef = true))
    (hd : decode c.code pc = .ok (i, 1)) {nw : List Addr} (hq : Q (some w) h nw) (hnw : ∀ x ∈ nw, x ∈ sf) : Fin p e below s Z EL Q kc ks T (mkF m pc Ls (w :: rest)) :=
  S.leave (fun q => by rw [hr] at q; cases q) hlk hq hnw fun vm0 locs fs X hl => retOut X S.hx hr hn hi hd hl
theorem Sp.retA {kc ks pc : Nat} {Ls : Array Slot} {t : FieldType} {w : Value} {rest : List Value} (S : Sp p l e R s m args below meth c Z a0 EL own T h sf lq kc ks) (hr : meth.sig.returnType = some t) (hlk : meth.locks = false) (ht : t.isReference = true) (hw : w.isRef = true)
    (hd : decode c.code pc = .ok (.areturn, 1)) {nw : List Addr} (hq : Q (some w) h nw) (hnw : ∀ x ∈ nw, x ∈ sf) : Fin p e below s Z EL Q kc ks T (mkF m pc Ls (w :: rest)) :=
  S.retV hr hlk (by cases w <;> first | (cases hw; done) | (cases t <;> rfl)) (Or.inr (Or.inr (Or.inr (Or.inr ⟨rfl, ht, hw⟩)))) hd hq hnw
theorem Sp.retI {kc ks pc : Nat} {Ls : Array Slot} {t : FieldType} {z : Int32} {rest : List Value} (S : Sp p l e R s m args below meth c Z a0 EL own T h sf lq kc ks) (hr : meth.sig.returnType = some t) (hlk : meth.locks = false) (ht : t = .int ∨ t = .boolean ∨ t = .byte ∨ t = .char ∨ t = .short) (hn : narrow t (.int z) = .int z)
    (hd : decode c.code pc = .ok (.ireturn, 1)) {nw : List Addr} (hq : Q (some (.int z)) h nw) (hnw : ∀ x ∈ nw, x ∈ sf) : Fin p e below s Z EL Q kc ks T (mkF m pc Ls (.int z :: rest)) :=
  S.retV hr hlk hn (Or.inl ⟨rfl, ht, z, rfl⟩) hd hq hnw
/-- an object by its class and some of its fields -/
def Ob (Z : State) (a0 : Array Value) (h : Heap) (a : Addr) (C : String) (fs : List (String × String × String × Value)) : Prop :=
  Exa Z h a C ∧ ∀ f ∈ fs, Laid Z a0 C f.1 f.2.1 f.2.2.1 ∧ (∃ t, parseFieldDescriptor f.2.2.1 = some t) ∧ Fld Z h a f.1 f.2.1 f.2.2.1 f.2.2.2
theorem all_nil {α : Type} {P : α → Prop} : ∀ x ∈ ([] : List α), P x := fun _ q => nomatch q
theorem all_cons {α : Type} {P : α → Prop} {y : α} {L : List α} (q : P y) (r : ∀ x ∈ L, P x) : ∀ x ∈ y :: L, P x := fun x z => (List.mem_cons.mp z).elim (fun u => u ▸ q) (r x)
section Obj
variable {a b : Addr} {C : String} {fs : List (String × String × String × Value)}
theorem Ob.lt (O : Ob Z a0 h a C fs) : @LT.lt Nat _ a h.size := O.1.lt
theorem Ob.ext (O : Ob Z a0 h a C fs) (E : Ext h h') : Ob Z a0 h' a C fs := ⟨O.1.ext E, fun f hf => ⟨(O.2 f hf).1, (O.2 f hf).2.1, (O.2 f hf).2.2.ext E⟩⟩
theorem Ob.keep {ws : List Addr} (O : Ob Z a0 h a C fs) (K : Keep h h' ws) (q : a ∉ ws) : Ob Z a0 h' a C fs := ⟨O.1.keep K, fun f hf => ⟨(O.2 f hf).1, (O.2 f hf).2.1, (O.2 f hf).2.2.keep K q⟩⟩
theorem Ob.other {sl : Nat} {v : Value} (O : Ob Z a0 h a C fs) (W : Wr h h' b sl v) (q : a ≠ b) : Ob Z a0 h' a C fs := O.keep (Keep.of_wr W) (ninS q nin0)
theorem Ob.f (O : Ob Z a0 h a C fs) {i : Nat} {x : String × String × String × Value} (hi : fs[i]? = some x) : Fld Z h a x.1 x.2.1 x.2.2.1 x.2.2.2 := (O.2 x (List.mem_of_getElem? hi)).2.2
theorem Ob.laid (O : Ob Z a0 h a C fs) {i : Nat} {x : String × String × String × Value} (hi : fs[i]? = some x) : Laid Z a0 C x.1 x.2.1 x.2.2.1 := (O.2 x (List.mem_of_getElem? hi)).1
theorem Ob.put (O : Ob Z a0 h a C fs) {i : Nat} {O' nm d : String} {old v : Value} {ns : List String} (hi : fs[i]? = some (O', nm, d, old)) (hns : fs.map (·.2.1) = ns) (hnd : ns.Nodup) (W : Wr h h' a (RoadKit.slotOf Z O' nm d) v) : Ob Z a0 h' a C (fs.set i (O', nm, d, v)) := by
  subst hns
  have hil : i < fs.length := (List.getElem?_eq_some_iff.mp hi).1
  refine ⟨O.1.wr W, fun f hf => ?_⟩
  obtain ⟨j, hj⟩ := List.getElem?_of_mem hf
  rw [List.getElem?_set] at hj
  by_cases hij : i = j
  · subst hij
    simp only [if_true, hil] at hj
    cases hj
    have q1 := O.laid hi
    have q2 := (O.2 _ (List.mem_of_getElem? hi)).2.1
    have q3 := (O.f hi).same W
    exact ⟨q1, q2, q3⟩
  · simp only [hij, if_false] at hj
    obtain ⟨t, ht⟩ := (O.2 _ (List.mem_of_getElem? hi)).2.1
    obtain ⟨t', ht'⟩ := (O.2 _ (List.mem_of_getElem? hj)).2.1
    have hne : f.2.1 ≠ nm := fun q => by
      have e1 : (fs.map (·.2.1))[i]? = some nm := by rw [List.getElem?_map, hi]; rfl
      have e2 : (fs.map (·.2.1))[j]? = some nm := by rw [List.getElem?_map, hj, ← q]; rfl
      have hil' : i < (fs.map (·.2.1)).length := by rw [List.length_map]; exact hil
      exact hij ((List.getElem?_inj hil' hnd).mp (e1.trans e2.symm))
    have q1 := O.laid hj
    have q2 := O.laid hi
    have q3 := O.f hj
    exact ⟨q1, ⟨t', ht'⟩, q3.other W (Or.inr (slot_ne q1 q2 hne ht' ht))⟩
theorem Ob.new (A : Exa Z h a C) (D : ∀ {O nm d : String} {ty : FieldType}, Laid Z a0 C O nm d → parseFieldDescriptor d = some ty → Fld Z h a O nm d (defaultValue ty)) (ls : List (String × String × String × FieldType)) (hl : ∀ q ∈ ls, Laid Z a0 C q.1 q.2.1 q.2.2.1 ∧ parseFieldDescriptor q.2.2.1 = some q.2.2.2) :
    Ob Z a0 h a C (ls.map fun q => (q.1, q.2.1, q.2.2.1, defaultValue q.2.2.2)) := ⟨A, fun f hf => by
  obtain ⟨q, hq, rfl⟩ := List.mem_map.mp hf
  exact ⟨(hl q hq).1, ⟨_, (hl q hq).2⟩, D (hl q hq).1 (hl q hq).2⟩⟩
theorem Sp.getO (B : Bw p e below F) (S : Sp p l e R s m args below meth c Z a0 EL own T h sf lq k n) {O' nm d : String} {ix pc i : Nat} {Ls : Array Slot} {v : Value} {rest : List Value} (w : (Jvm.Cond.fieldLink own ix O' nm d).before a0 Z = true) (O : Ob Z a0 h a C fs) (hi : fs[i]? = some (O', nm, d, v)) (hd : decode c.code pc = .ok (.getfield ix, 3))
    (K : ∀ T', Sp p l e R s m args below meth c Z a0 EL own T' h sf lq k n → F T' (mkF m (pc + 3) Ls (v :: rest))) : F T (mkF m pc Ls (.ref a :: rest)) :=
  Sp.get B S w Via.refl (O.f hi) hd K
theorem Sp.putO (B : Bw p e below F) (S : Sp p l e R s m args below meth c Z a0 EL own T h sf lq k n) {O' nm d : String} {ix kk pc i : Nat} {ty : FieldType} {Ls : Array Slot} {v v' old : Value} {rest : List Value} {ns : List String} (w : (Jvm.Cond.fieldLink own ix O' nm d).before a0 Z = true) (O : Ob Z a0 h a C fs) (hi : fs[i]? = some (O', nm, d, old)) (hns : fs.map (·.2.1) = ns) (hnd : ns.Nodup)
    (L : (Jvm.Cond.lays C O' nm d).before a0 Z = true ∨ ((Jvm.Cond.laysFinal C O' nm d).before a0 Z = true ∧ own = O' ∧ meth.name = "<init>")) (wi : (Jvm.Cond.instantiable C kk).before a0 Z = true) (hty : parseFieldDescriptor d = some ty) (hn : narrow ty v = v') (hf : fits ty v' = true) (ha : a ∈ sf) (hd : decode c.code pc = .ok (.putfield ix, 3))
    (K : ∀ T' h', Sp p l e R s m args below meth c Z a0 EL own T' h' sf lq k n → Keep h h' [a] → Ob Z a0 h' a C (fs.set i (O', nm, d, v')) → F T' (mkF m (pc + 3) Ls rest)) : F T (mkF m pc Ls (v :: .ref a :: rest)) :=
  Sp.put B S w Via.refl (O.f hi) O.1 L wi hty hn hf ha hd fun T' h' S' W => K T' h' S' (Keep.of_wr W) (O.put hi hns hnd W)
end Obj
end Kit
end Jvm.OwnKit
/- laws to paste: Road.backArv, Road.lenW, Road.empW, Road.wide_lo, Road.wide_hi, Road.low_at, StrChars.narrow_ch, StrChars.chr8_lo8 (cut by pick.py; bodies as the Statement names them) -/
namespace Jvm.Pilot.@@N@@
namespace StrChars
open Jvm Sem ClassFile Op Lib Jvm.Stand Jvm.Free.XT Jvm.Free.ALB Jvm.Free.JM Jvm.Free
open Jvm.Lib.Cold (StaticIs)
/-- a char array whose places are chars -/
def Ch (a : Addr) (A : Cell) (U : State) : Prop := Arr .char a A U ∧ Typed .char A
theorem Ch.mv {a : Addr} {A : Cell} {U U' : State} (h : Ch a A U) (hal : U.vm.Alike U'.vm) (hh : U'.heap = U.heap) : Ch a A U' := ⟨h.1.mv hal hh, h.2⟩
theorem Ch.keep {a : Addr} {A : Cell} {U U' : State} (h : Ch a A U) (hal : U.vm.Alike U'.vm) (hk : U'.heap[a]? = some A) : Ch a A U' := ⟨h.1.keep hal hk, h.2⟩
/-- what place i of a char[]'s cell holds -/
def cv (A : Cell) (i : Nat) : Int32 := match A.slots[i]? with | some (.int x) => x | _ => 0
theorem Ch.get {a : Addr} {A : Cell} {U : State} (h : Ch a A U) {i : Nat} (hi : i < A.slots.size) : A.slots[i]? = some (.int (cv A i)) := by
  have e := Array.getElem?_eq_getElem hi
  have f := h.2 i _ e
  unfold cv; rw [e]
  generalize A.slots[i] = v at f
  cases v <;> simp [fits] at f ⊢
/-- the byte that i2b leaves of a char -/
def lo8 (x : Int32) : Int32 := x.toInt8.toInt32
theorem fits_lo8 (y : Int32) : fits .byte (.int (lo8 y)) = true := by
  have h1 := y.toInt8.le_toInt
  have h2 := y.toInt8.toInt_lt
  simp only [lo8, fits, Bool.and_eq_true, decide_eq_true_eq, Int32.le_iff_toInt_le, Int8.toInt_toInt32, show (-128 : Int32).toInt = -128 from by decide, show (127 : Int32).toInt = 127 from by decide]
  omega
/-- A' is A but that each place j of lo .. hi - 1 holds f j -/
def Laid (A A' : Cell) (lo hi : Nat) (f : Nat → Value) : Prop := A'.cls = A.cls ∧ A'.vm = A.vm ∧ A'.slots.size = A.slots.size ∧ ∀ i, A'.slots[i]? = if lo ≤ i ∧ i < hi then some (f i) else A.slots[i]?
theorem Laid.zero (A : Cell) (lo : Nat) (f : Nat → Value) : Laid A A lo (lo + 0) f := ⟨rfl, rfl, rfl, fun i => by rw [if_neg (by omega)]⟩
theorem Laid.step {A Ak : Cell} {lo k : Nat} {f : Nat → Value} {v : Value} (h : Laid A Ak lo k f) (hlo : lo ≤ k) (hk : k < Ak.slots.size) (hv : v = f k) : Laid A (Ak.setSlot k v) lo (k + 1) f := by
  refine ⟨h.1, h.2.1, by simpa [Cell.setSlot] using h.2.2.1, fun i => ?_⟩
  by_cases e : k = i
  · subst e; rw [Cell.slots_setSlot_self v hk, if_pos (by omega), hv]
  · rw [Cell.slots_setSlot_ne v e, h.2.2.2 i]
    by_cases q : lo ≤ i ∧ i < k
    · rw [if_pos q, if_pos (by omega)]
    · rw [if_neg q, if_neg (by omega)]
def U16 : String := "java/lang/StringUTF16"
namespace Cmp5
def yN : MethodName := ⟨"java/lang/StringUTF16", "compress", "([CI[BII)I"⟩
abbrev yB : ByteArray := jdk_52_method_21_code
theorem d0 : decode yB 0 = .ok (.iconst 0, 1) := by decide +kernel
theorem d1 : decode yB 1 = .ok (.istore 5, 2) := by decide +kernel
theorem d3 : decode yB 3 = .ok (.iload 5, 2) := by decide +kernel
theorem d5 : decode yB 5 = .ok (.iload 4, 2) := by decide +kernel
theorem d7 : decode yB 7 = .ok (.if_icmp (.ge) 37, 3) := by decide +kernel
theorem d10 : decode yB 10 = .ok (.aload_n 0, 1) := by decide +kernel
theorem d11 : decode yB 11 = .ok (.iload_n 1, 1) := by decide +kernel
theorem d12 : decode yB 12 = .ok (.caload, 1) := by decide +kernel
theorem d13 : decode yB 13 = .ok (.istore 6, 2) := by decide +kernel
theorem d15 : decode yB 15 = .ok (.iload 6, 2) := by decide +kernel
theorem d17 : decode yB 17 = .ok (.sipush 255, 3) := by decide +kernel
theorem d20 : decode yB 20 = .ok (.if_icmp (.le) 6, 3) := by decide +kernel
theorem d26 : decode yB 26 = .ok (.aload_n 2, 1) := by decide +kernel
theorem d27 : decode yB 27 = .ok (.iload_n 3, 1) := by decide +kernel
theorem d28 : decode yB 28 = .ok (.iload 6, 2) := by decide +kernel
theorem d30 : decode yB 30 = .ok (.i2b, 1) := by decide +kernel
theorem d31 : decode yB 31 = .ok (.bastore, 1) := by decide +kernel
theorem d32 : decode yB 32 = .ok (.iinc 1 1, 3) := by decide +kernel
theorem d35 : decode yB 35 = .ok (.iinc 3 1, 3) := by decide +kernel
theorem d38 : decode yB 38 = .ok (.iinc 5 1, 3) := by decide +kernel
theorem d41 : decode yB 41 = .ok (.goto (-38), 3) := by decide +kernel
theorem d44 : decode yB 44 = .ok (.iload 4, 2) := by decide +kernel
theorem d46 : decode yB 46 = .ok (.ireturn, 1) := by decide +kernel
def site : List Cond := []
def tab : Cond := tabOf yN yB 7 (some .int) site
def P (b : Addr) (A : Cell) (d : Addr) (B : Cell) (o q len : Nat) (args : Array Value) (s : State) : Prop := args = #[.ref b, .int (Int32.ofNat o), .ref d, .int (Int32.ofNat q), .int (Int32.ofNat len)] ∧ Ch b A s ∧ Arr .byte d B s ∧ b ≠ d ∧ o + len ≤ A.slots.size ∧ q + len ≤ B.slots.size ∧ ∀ i, i < len → ¬ 255 < cv A (o + i)
def E (b : Addr) (A : Cell) (d : Addr) (B : Cell) (o q len : Nat) (r : Option Value) (s u : State) : Prop := r = some (.int (Int32.ofNat len)) ∧ ∃ B', Put d B' s u ∧ Laid B B' q (q + len) (fun j => Value.int (lo8 (cv A (o + (j - q)))))
/-- no char of the range above 255: len; the places written hold each char's low byte -/
theorem law (l : Launch) (b : Addr) (A : Cell) (d : Addr) (B : Cell) (o q len : Nat) : Law l yN 5 5 0 0 yB 7 (some .int) site (P b A d B o q len) (E b A d B o q len) (copyLocs d q len) 0 0 := by
  refine Law.of_walk (plainFor_of_name (by decide +kernel)) (by decide +kernel) (by decide +kernel) (by decide) (fun _ _ h => by rw [h.1]; rfl) (fun _ U U' hal hh h => ⟨h.1, h.2.1.mv hal hh, h.2.2.1.mv hal hh, h.2.2.2⟩) (fun r U U' V V' h1 hal h2 h => ⟨h.1, h.2.elim fun B' q => ⟨B', q.1.mv h1 h2, q.2⟩⟩) ?_
  intro p e s m args below meth c s₁ X0 hexec hbytes hml hret hlk hnm hown hh0 W hP
  obtain ⟨rfl, hA, hB, hne, l1, l2, hp⟩ := hP
  have c1 : Steps p.tables e below (s₁.setTop (entryFrame m #[.ref b, .int (Int32.ofNat o), .ref d, .int (Int32.ofNat q), .int (Int32.ofNat len)] 7)) (s₁.setTop (mkF m 0 #[.val (.ref b), .val (.int (Int32.ofNat o)), .val (.ref d), .val (.int (Int32.ofNat q)), .val (.int (Int32.ofNat len)), .unset, .unset] [])) := entry rfl
  have hA0 := hA.1.mv X0.warmed.alike hh0
  have hB0 := hB.mv X0.warmed.alike hh0
  have a31 := hA.1.2.2.2
  have c2 : Steps p.tables e below (s₁.setTop (entryFrame m #[.ref b, .int (Int32.ofNat o), .ref d, .int (Int32.ofNat q), .int (Int32.ofNat len)] 7)) (s₁.setTop (mkF m 3 #[.val (.ref b), .val (.int (Int32.ofNat o)), .val (.ref d), .val (.int (Int32.ofNat q)), .val (.int (Int32.ofNat len)), .val (.int 0), .unset] [])) := c1.trans (by
    refine iconstV X0.here hexec rfl 0 (hb hbytes d0) (by decide) ?_
    refine XS.istore X0.here hexec rfl (hb hbytes d1) rfl rfl ?_
    exact Steps.refl _)
  have loop : ∀ (r i : Nat), i + r = len → ∀ (z : Slot), (z = .unset ∨ ∃ w, z = .val w ∧ w.category = 1) → ∀ (Tl : State) (Bk : Cell), Stand p l e { frames := 0, locals := 0, cells := 0, slots := 0 } s m #[.ref b, .int (Int32.ofNat o), .ref d, .int (Int32.ofNat q), .int (Int32.ofNat len)] below meth c Tl ([] ++ copyLocs d q i) 0 0 → Put d Bk s₁ Tl → Laid B Bk q (q + i) (fun j => Value.int (lo8 (cv A (o + (j - q))))) →
      Steps p.tables e below (s₁.setTop (entryFrame m #[.ref b, .int (Int32.ofNat o), .ref d, .int (Int32.ofNat q), .int (Int32.ofNat len)] 7)) (Tl.setTop (mkF m 3 #[.val (.ref b), .val (.int (Int32.ofNat (o + i))), .val (.ref d), .val (.int (Int32.ofNat (q + i))), .val (.int (Int32.ofNat len)), .val (.int (Int32.ofNat i)), z] [])) → ∃ (T' : State) (B' : Cell) (z' : Slot), Stand p l e { frames := 0, locals := 0, cells := 0, slots := 0 } s m #[.ref b, .int (Int32.ofNat o), .ref d, .int (Int32.ofNat q), .int (Int32.ofNat len)] below meth c T' ([] ++ copyLocs d q len) 0 0 ∧ Put d B' s₁ T' ∧ Laid B B' q (q + len) (fun j => Value.int (lo8 (cv A (o + (j - q))))) ∧
      Steps p.tables e below (s₁.setTop (entryFrame m #[.ref b, .int (Int32.ofNat o), .ref d, .int (Int32.ofNat q), .int (Int32.ofNat len)] 7)) (T'.setTop (mkF m 3 #[.val (.ref b), .val (.int (Int32.ofNat (o + len))), .val (.ref d), .val (.int (Int32.ofNat (q + len))), .val (.int (Int32.ofNat len)), .val (.int (Int32.ofNat len)), z'] [])) := by
    intro r
    induction r with
    | zero =>
      intro i hi z hz Tl Bk Xl pl fl cl
      have hil : i = len := by omega
      rw [hil] at Xl fl cl
      exact ⟨Tl, Bk, z, Xl, pl, fl, cl⟩
    | succ r ih =>
      intro i hi z hz Tl Bk Xl pl fl cl
      have all := X0.warmed.alike.symm.trans Xl.warmed.alike
      have hAl := hA0.keep all (pl.other hne hA0.1)
      have hBk := hB0.like all pl.1 fl.1 fl.2.1 fl.2.2.1
      have hlt : q + i < Bk.slots.size := by rw [fl.2.2.1]; omega
      have c3 : Steps p.tables e below (s₁.setTop (entryFrame m #[.ref b, .int (Int32.ofNat o), .ref d, .int (Int32.ofNat q), .int (Int32.ofNat len)] 7)) (Tl.setTop (mkF m 12 #[.val (.ref b), .val (.int (Int32.ofNat (o + i))), .val (.ref d), .val (.int (Int32.ofNat (q + i))), .val (.int (Int32.ofNat len)), .val (.int (Int32.ofNat i)), z] [.int (Int32.ofNat (o + i)), .ref b])) := cl.trans (by
        refine XS.iload Xl.here hexec rfl (hb hbytes d3) rfl ?_
        refine XS.iload Xl.here hexec rfl (hb hbytes d5) rfl ?_
        refine XS.icmpNo Xl.here hexec rfl (hb hbytes d7) rfl (ii_ge_f (lt32 (by omega) (by omega))) ?_
        refine XS.aloadN Xl.here hexec rfl (hb hbytes d10) rfl rfl ?_
        refine XS.iloadN Xl.here hexec rfl (hb hbytes d11) rfl ?_
        exact Steps.refl _)
      have c4 : Steps p.tables e below (s₁.setTop (entryFrame m #[.ref b, .int (Int32.ofNat o), .ref d, .int (Int32.ofNat q), .int (Int32.ofNat len)] 7)) (Tl.setTop (mkF m 13 #[.val (.ref b), .val (.int (Int32.ofNat (o + i))), .val (.ref d), .val (.int (Int32.ofNat (q + i))), .val (.int (Int32.ofNat len)), .val (.int (Int32.ofNat i)), z] [.int (cv A (o + i))])) := c3.trans (by
        refine Xl.aget hexec hAl rfl (hA.get (i := o + i) (by omega)) rfl rfl (hb hbytes d12) ?_
        exact Steps.refl _)
      have c5 : Steps p.tables e below (s₁.setTop (entryFrame m #[.ref b, .int (Int32.ofNat o), .ref d, .int (Int32.ofNat q), .int (Int32.ofNat len)] 7)) (Tl.setTop (mkF m 15 #[.val (.ref b), .val (.int (Int32.ofNat (o + i))), .val (.ref d), .val (.int (Int32.ofNat (q + i))), .val (.int (Int32.ofNat len)), .val (.int (Int32.ofNat i)), .val (.int (cv A (o + i)))] [])) := c4.trans (by
        refine XS.istoreS Xl.here hexec rfl (hb hbytes d13) rfl rfl hz ?_
        exact Steps.refl _)
      have c6 : Steps p.tables e below (s₁.setTop (entryFrame m #[.ref b, .int (Int32.ofNat o), .ref d, .int (Int32.ofNat q), .int (Int32.ofNat len)] 7)) (Tl.setTop (mkF m 31 #[.val (.ref b), .val (.int (Int32.ofNat (o + i))), .val (.ref d), .val (.int (Int32.ofNat (q + i))), .val (.int (Int32.ofNat len)), .val (.int (Int32.ofNat i)), .val (.int (cv A (o + i)))] [.int (lo8 (cv A (o + i))), .int (Int32.ofNat (q + i)), .ref d])) := c5.trans (by
        refine XS.iload Xl.here hexec rfl (hb hbytes d15) rfl ?_
        refine sipushV Xl.here hexec rfl 255 (hb hbytes d17) (by decide) ?_
        refine XS.icmpYes Xl.here hexec rfl (pc0 := 20) rfl (hb hbytes d20) rfl (ii_le_t (hp i (by omega))) (by decide) rfl ?_
        refine XS.aloadN Xl.here hexec rfl (hb hbytes d26) rfl rfl ?_
        refine XS.iloadN Xl.here hexec rfl (hb hbytes d27) rfl ?_
        refine XS.iload Xl.here hexec rfl (hb hbytes d28) rfl ?_
        refine i2b Xl.here hexec rfl (hb hbytes d30) rfl ?_
        exact Steps.refl _)
      obtain ⟨T7, X7, p7, st7⟩ := Xl.aput hexec hBk rfl hlt rfl (fits_lo8 (cv A (o + i))) (g := (mkF m 31 #[.val (.ref b), .val (.int (Int32.ofNat (o + i))), .val (.ref d), .val (.int (Int32.ofNat (q + i))), .val (.int (Int32.ofNat len)), .val (.int (Int32.ofNat i)), .val (.int (cv A (o + i)))] [.int (lo8 (cv A (o + i))), .int (Int32.ofNat (q + i)), .ref d])) rfl (rest := []) rfl (hb hbytes d31)
      have c8 : Steps p.tables e below (s₁.setTop (entryFrame m #[.ref b, .int (Int32.ofNat o), .ref d, .int (Int32.ofNat q), .int (Int32.ofNat len)] 7)) (T7.setTop (mkF m 32 #[.val (.ref b), .val (.int (Int32.ofNat (o + i))), .val (.ref d), .val (.int (Int32.ofNat (q + i))), .val (.int (Int32.ofNat len)), .val (.int (Int32.ofNat i)), .val (.int (cv A (o + i)))] [])) := c6.trans (st7 _ (Steps.refl _))
      have c9 : Steps p.tables e below (s₁.setTop (entryFrame m #[.ref b, .int (Int32.ofNat o), .ref d, .int (Int32.ofNat q), .int (Int32.ofNat len)] 7)) (T7.setTop (mkF m 3 #[.val (.ref b), .val (.int (Int32.ofNat (o + i) + 1)), .val (.ref d), .val (.int (Int32.ofNat (q + i) + 1)), .val (.int (Int32.ofNat len)), .val (.int (Int32.ofNat i + 1)), .val (.int (cv A (o + i)))] [])) := c8.trans (by
        refine iincV X7.here hexec rfl 1 (hb hbytes d32) (by decide) rfl rfl ?_
        refine iincV X7.here hexec rfl 1 (hb hbytes d35) (by decide) rfl rfl ?_
        refine iincV X7.here hexec rfl 1 (hb hbytes d38) (by decide) rfl rfl ?_
        refine XS.goto X7.here hexec rfl (pc0 := 41) rfl (hb hbytes d41) (by decide) rfl ?_
        exact Steps.refl _)
      have c10 : Steps p.tables e below (s₁.setTop (entryFrame m #[.ref b, .int (Int32.ofNat o), .ref d, .int (Int32.ofNat q), .int (Int32.ofNat len)] 7)) (T7.setTop (mkF m 3 #[.val (.ref b), .val (.int (Int32.ofNat (o + (i + 1)))), .val (.ref d), .val (.int (Int32.ofNat (q + (i + 1)))), .val (.int (Int32.ofNat len)), .val (.int (Int32.ofNat (i + 1))), .val (.int (cv A (o + i)))] [])) := by
        have := c9
        rw [succ32, succ32, succ32] at this
        exact this
      exact ih (i + 1) (by omega) _ (Or.inr ⟨_, rfl, rfl⟩) T7 _ (by rw [copyLocs_step, ← List.append_assoc]; exact X7) (pl.trans p7) (fl.step (by omega) hlt (by simp)) c10
  obtain ⟨T9, B9, z9, X9, p9, f9, g9⟩ := loop len 0 (by omega) .unset (Or.inl rfl) s₁ B (by simpa [copyLocs] using X0) ⟨hB0.1, fun _ _ => rfl, rfl⟩ (Laid.zero _ _ _) c2
  have c11 : Steps p.tables e below (s₁.setTop (entryFrame m #[.ref b, .int (Int32.ofNat o), .ref d, .int (Int32.ofNat q), .int (Int32.ofNat len)] 7)) (T9.setTop (mkF m 46 #[.val (.ref b), .val (.int (Int32.ofNat (o + len))), .val (.ref d), .val (.int (Int32.ofNat (q + len))), .val (.int (Int32.ofNat len)), .val (.int (Int32.ofNat len)), z9] [.int (Int32.ofNat len)])) := g9.trans (by
    refine XS.iload X9.here hexec rfl (hb hbytes d3) rfl ?_
    refine XS.iload X9.here hexec rfl (hb hbytes d5) rfl ?_
    refine XS.icmpYes X9.here hexec rfl (pc0 := 7) rfl (hb hbytes d7) rfl (ii_ge_t (nlt32 (by omega) (Nat.le_refl _))) (by decide) rfl ?_
    refine XS.iload X9.here hexec rfl (hb hbytes d44) rfl ?_
    exact Steps.refl _)
  exact ⟨T9, some (.int (Int32.ofNat len)), _, _, _, X9, by simp, rfl, rfl, (fun h => by cases h), ⟨rfl, B9, p9.from hh0, f9⟩, fun fs hl => c11.trans (X9.ireturnOut hexec hret rfl (Or.inl rfl) (hb hbytes d46) hl)⟩
end Cmp5
namespace Cmp3
def yN : MethodName := ⟨"java/lang/StringUTF16", "compress", "([CII)[B"⟩
abbrev yB : ByteArray := jdk_52_method_16_code
theorem d0 : decode yB 0 = .ok (.iload_n 2, 1) := by decide +kernel
theorem d1 : decode yB 1 = .ok (.newarray .byte, 2) := by decide +kernel
theorem d3 : decode yB 3 = .ok (.astore_n 3, 1) := by decide +kernel
theorem d4 : decode yB 4 = .ok (.aload_n 0, 1) := by decide +kernel
theorem d5 : decode yB 5 = .ok (.iload_n 1, 1) := by decide +kernel
theorem d6 : decode yB 6 = .ok (.aload_n 3, 1) := by decide +kernel
theorem d7 : decode yB 7 = .ok (.iconst 0, 1) := by decide +kernel
theorem d8 : decode yB 8 = .ok (.iload_n 2, 1) := by decide +kernel
theorem d9 : decode yB 9 = .ok (.invokestatic 115, 3) := by decide +kernel
theorem d12 : decode yB 12 = .ok (.istore 4, 2) := by decide +kernel
theorem d14 : decode yB 14 = .ok (.iload 4, 2) := by decide +kernel
theorem d16 : decode yB 16 = .ok (.iload_n 2, 1) := by decide +kernel
theorem d17 : decode yB 17 = .ok (.if_icmp (.eq) 40, 3) := by decide +kernel
theorem d57 : decode yB 57 = .ok (.aload_n 3, 1) := by decide +kernel
theorem d58 : decode yB 58 = .ok (.areturn, 1) := by decide +kernel
def site : List Cond := [.arrayClass .byte, Cmp5.tab] ++ staticW U16 115 Cmp5.yN
def tab : Cond := tabOf yN yB 6 (some (.array .byte)) site
def P (b : Addr) (A : Cell) (o len : Nat) (args : Array Value) (s : State) : Prop := args = #[.ref b, .int (Int32.ofNat o), .int (Int32.ofNat len)] ∧ Ch b A s ∧ o + len ≤ A.slots.size ∧ len ≤ 536870912 ∧ ∀ i, i < len → ¬ 255 < cv A (o + i)
def E (b : Addr) (A : Cell) (o len : Nat) (r : Option Value) (s u : State) : Prop := NewArr .byte "[B" len (fun j => .int (lo8 (cv A (o + j)))) r s u ∧ u.heap.size = s.heap.size + 1
/-- no char of the range above 255: a new byte[] of their low bytes -/
theorem law (l : Launch) (b : Addr) (A : Cell) (o len : Nat) : Law l yN 3 3 1 18 yB 6 (some (.array .byte)) site (P b A o len) (E b A o len) [] 1 len := by
  refine Law.of_walk (plainFor_of_name (by decide +kernel)) (by decide +kernel) (by decide +kernel) (by decide) (fun _ _ h => by rw [h.1]; rfl) (fun _ U U' hal hh h => ⟨h.1, h.2.1.mv hal hh, h.2.2⟩) (fun r U U' V V' h1 hal h2 h => ⟨NewArr.mv r U U' V V' h1 hal h2 h.1, by rw [h1, h2]; exact h.2⟩) ?_
  intro p e s m args below meth c s₁ X0 hexec hbytes hml hret hlk hnm hown hh0 W hP
  obtain ⟨rfl, hA, l1, l2, hp⟩ := hP
  have a31 := hA.1.2.2.2
  have c1 : Steps p.tables e below (s₁.setTop (entryFrame m #[.ref b, .int (Int32.ofNat o), .int (Int32.ofNat len)] 6)) (s₁.setTop (mkF m 0 #[.val (.ref b), .val (.int (Int32.ofNat o)), .val (.int (Int32.ofNat len)), .unset, .unset, .unset] [])) := entry rfl
  have c2 : Steps p.tables e below (s₁.setTop (entryFrame m #[.ref b, .int (Int32.ofNat o), .int (Int32.ofNat len)] 6)) (s₁.setTop (mkF m 1 #[.val (.ref b), .val (.int (Int32.ofNat o)), .val (.int (Int32.ofNat len)), .unset, .unset, .unset] [.int (Int32.ofNat len)])) := c1.trans (by
    refine XS.iloadN X0.here hexec rfl (hb hbytes d0) rfl ?_
    exact Steps.refl _)
  obtain ⟨T3, B3, X3, ba3, bs3, bv3, bh3, bf3, st3⟩ := X0.anew hexec (atype := .byte) (wk W (.arrayClass .byte)) rfl (by show len * 1 ≤ _; omega) (by omega) (g := (mkF m 1 #[.val (.ref b), .val (.int (Int32.ofNat o)), .val (.int (Int32.ofNat len)), .unset, .unset, .unset] [.int (Int32.ofNat len)])) rfl (hb hbytes d1) (rest := []) rfl (Nat.le_refl _) (by show 0 + len ≤ len; omega)
  rw [hh0] at ba3 st3
  have kp3 : XT.Kept s T3 := (XT.Kept.of_eq hh0).push bh3
  have hA3 := hA.keep X3.warmed.alike (kp3 _ _ hA.1.1)
  have hne : b ≠ s.heap.size := hA.1.ne
  have c4 : Steps p.tables e below (s₁.setTop (entryFrame m #[.ref b, .int (Int32.ofNat o), .int (Int32.ofNat len)] 6)) (T3.setTop (mkF m 3 #[.val (.ref b), .val (.int (Int32.ofNat o)), .val (.int (Int32.ofNat len)), .unset, .unset, .unset] [.ref s.heap.size])) := c2.trans (st3 _ (Steps.refl _))
  have c5 : Steps p.tables e below (s₁.setTop (entryFrame m #[.ref b, .int (Int32.ofNat o), .int (Int32.ofNat len)] 6)) (T3.setTop (mkF m 9 #[.val (.ref b), .val (.int (Int32.ofNat o)), .val (.int (Int32.ofNat len)), .val (.ref s.heap.size), .unset, .unset] [.int (Int32.ofNat len), .int 0, .ref s.heap.size, .int (Int32.ofNat o), .ref b])) := c4.trans (by
    refine XS.astoreN X3.here hexec rfl (hb hbytes d3) rfl rfl rfl ?_
    refine XS.aloadN X3.here hexec rfl (hb hbytes d4) rfl rfl ?_
    refine XS.iloadN X3.here hexec rfl (hb hbytes d5) rfl ?_
    refine XS.aloadN X3.here hexec rfl (hb hbytes d6) rfl rfl ?_
    refine iconstV X3.here hexec rfl 0 (hb hbytes d7) (by decide) ?_
    refine XS.iloadN X3.here hexec rfl (hb hbytes d8) rfl ?_
    exact Steps.refl _)
  obtain ⟨v6, T6, X6, E6, g6⟩ := X3.callS hexec (Cmp5.law l b A s.heap.size B3 o 0 len) hown (wks W (staticW U16 115 Cmp5.yN)) (wk W Cmp5.tab) (W := 0) (Nat.le_of_ble_eq_true rfl) (Nat.le_of_ble_eq_true rfl) (Nat.le_refl _) (by show 0 + len + 0 ≤ len; omega) (g := (mkF m 9 #[.val (.ref b), .val (.int (Int32.ofNat o)), .val (.int (Int32.ofNat len)), .val (.ref s.heap.size), .unset, .unset] [.int (Int32.ofNat len), .int (Int32.ofNat 0), .ref s.heap.size, .int (Int32.ofNat o), .ref b])) rfl (by rw [hml]; rfl) c5 (argsL := [.ref b, .int (Int32.ofNat o), .ref s.heap.size, .int (Int32.ofNat 0), .int (Int32.ofNat len)]) (rest := []) rfl rfl (by show 2 * 0 + 0 ≤ _; decide) (hb hbytes d9) (⟨rfl, hA3, ba3, hne, l1, by rw [bs3]; simp, hp⟩)
  obtain ⟨rfl, B6, p6, f6⟩ := E6
  have c7 : Steps p.tables e below (s₁.setTop (entryFrame m #[.ref b, .int (Int32.ofNat o), .int (Int32.ofNat len)] 6)) (T6.setTop (mkF m 12 #[.val (.ref b), .val (.int (Int32.ofNat o)), .val (.int (Int32.ofNat len)), .val (.ref s.heap.size), .unset, .unset] [.int (Int32.ofNat len)])) := g6
  have c8 : Steps p.tables e below (s₁.setTop (entryFrame m #[.ref b, .int (Int32.ofNat o), .int (Int32.ofNat len)] 6)) (T6.setTop (mkF m 58 #[.val (.ref b), .val (.int (Int32.ofNat o)), .val (.int (Int32.ofNat len)), .val (.ref s.heap.size), .val (.int (Int32.ofNat len)), .unset] [.ref s.heap.size])) := c7.trans (by
    refine XS.istore X6.here hexec rfl (hb hbytes d12) rfl rfl ?_
    refine XS.iload X6.here hexec rfl (hb hbytes d14) rfl ?_
    refine XS.iloadN X6.here hexec rfl (hb hbytes d16) rfl ?_
    refine XS.icmpYes X6.here hexec rfl (pc0 := 17) rfl (hb hbytes d17) rfl (ii_eq_t rfl) (by decide) rfl ?_
    refine XS.aloadN X6.here hexec rfl (hb hbytes d57) rfl rfl ?_
    exact Steps.refl _)
  have X8 := X6.wide (L' := []) (cells' := 1) (slots' := len) (fun x hx hlt => by
    simp only [List.nil_append, copyLocs, List.mem_map, List.mem_range] at hx
    obtain ⟨i, -, rfl⟩ := hx
    exact absurd hlt (Nat.lt_irrefl _)) (Nat.le_refl _) (by omega)
  exact ⟨T6, some (.ref s.heap.size), _, _, _, X8, rfl, rfl, rfl, (fun h => by cases h), ⟨⟨rfl, B6, ba3.like (X3.warmed.alike.symm.trans X6.warmed.alike) p6.1 f6.1 f6.2.1 f6.2.2.1, f6.2.1.trans bv3, by rw [X6.warmed.alike.findClass, f6.1]; exact bf3, by rw [f6.2.2.1, bs3]; simp, fun j hj => by rw [f6.2.2.2 j, if_pos (by omega)]; rfl, kp3.put p6 (Nat.le_refl _)⟩, by rw [p6.2.2, bh3, hh0]; simp⟩, fun fs hl => c8.trans (X8.areturnOut hexec rfl hret rfl (hb hbytes d58) hl)⟩
end Cmp3
namespace CodL
def yN : MethodName := ⟨"java/lang/StringUTF16", "coderFromArrayLen", "([BI)B"⟩
abbrev yB : ByteArray := jdk_52_method_15_code
theorem d0 : decode yB 0 = .ok (.iload_n 1, 1) := by decide +kernel
theorem d1 : decode yB 1 = .ok (.aload_n 0, 1) := by decide +kernel
theorem d2 : decode yB 2 = .ok (.arraylength, 1) := by decide +kernel
theorem d3 : decode yB 3 = .ok (.isub, 1) := by decide +kernel
theorem d4 : decode yB 4 = .ok (.bipush 31, 2) := by decide +kernel
theorem d6 : decode yB 6 = .ok (.iushr, 1) := by decide +kernel
theorem d7 : decode yB 7 = .ok (.i2b, 1) := by decide +kernel
theorem d8 : decode yB 8 = .ok (.ireturn, 1) := by decide +kernel
def site : List Cond := []
def tab : Cond := tabOf yN yB 2 (some .byte) site
def P (d : Addr) (B : Cell) (args : Array Value) (s : State) : Prop := args = #[.ref d, .int (Int32.ofNat B.slots.size)] ∧ Arr .byte d B s
def E (r : Option Value) (s u : State) : Prop := XT.PureE (some (.int 0)) r s u
/-- an array as long as the number of chars: LATIN1 -/
theorem law (l : Launch) (d : Addr) (B : Cell) : Law l yN 2 2 0 0 yB 2 (some .byte) site (P d B) E [] 0 0 := by
  refine Law.of_walk (plainFor_of_name (by decide +kernel)) (by decide +kernel) (by decide +kernel) (by decide) (fun _ _ h => by rw [h.1]; rfl) (fun _ U U' hal hh h => ⟨h.1, h.2.mv hal hh⟩) (fun r U U' V V' h1 hal h2 h => XT.PureE.mv r U U' V V' h1 hal h2 h) ?_
  intro p e s m args below meth c s₁ X0 hexec hbytes hml hret hlk hnm hown hh0 W hP
  obtain ⟨rfl, hB⟩ := hP
  have hB0 := hB.mv X0.warmed.alike hh0
  have c1 : Steps p.tables e below (s₁.setTop (entryFrame m #[.ref d, .int (Int32.ofNat B.slots.size)] 2)) (s₁.setTop (mkF m 0 #[.val (.ref d), .val (.int (Int32.ofNat B.slots.size))] [])) := entry rfl
  have c2 : Steps p.tables e below (s₁.setTop (entryFrame m #[.ref d, .int (Int32.ofNat B.slots.size)] 2)) (s₁.setTop (mkF m 2 #[.val (.ref d), .val (.int (Int32.ofNat B.slots.size))] [.ref d, .int (Int32.ofNat B.slots.size)])) := c1.trans (by
    refine XS.iloadN X0.here hexec rfl (hb hbytes d0) rfl ?_
    refine XS.aloadN X0.here hexec rfl (hb hbytes d1) rfl rfl ?_
    exact Steps.refl _)
  have c3 : Steps p.tables e below (s₁.setTop (entryFrame m #[.ref d, .int (Int32.ofNat B.slots.size)] 2)) (s₁.setTop (mkF m 8 #[.val (.ref d), .val (.int (Int32.ofNat B.slots.size))] [.int (lo8 (ushr (Int32.ofNat B.slots.size - Int32.ofNat B.slots.size) 31))])) := c2.trans (by
    refine X0.alen hexec hB0 rfl rfl (hb hbytes d2) ?_
    refine XS.isub X0.here hexec rfl (hb hbytes d3) rfl ?_
    refine bipushV X0.here hexec rfl 31 (hb hbytes d4) (by decide) ?_
    refine iushr X0.here hexec rfl (hb hbytes d6) rfl ?_
    refine i2b X0.here hexec rfl (hb hbytes d7) rfl ?_
    exact Steps.refl _)
  have e0 : lo8 (ushr (Int32.ofNat B.slots.size - Int32.ofNat B.slots.size) 31) = 0 := by rw [Int32.sub_self]; decide
  rw [e0] at c3
  exact ⟨s₁, some (.int 0), _, _, _, X0, rfl, rfl, rfl, (fun h => by cases h), ⟨rfl, hh0⟩, fun fs hl => c3.trans (X0.ireturnOut hexec hret rfl (Or.inr (Or.inr (Or.inl rfl))) (hb hbytes d8) hl)⟩
end CodL
/-- the String at a is Latin-1 over a new byte[] (the heap's one new cell): the low bytes of the len chars of A from o on; every cell but a is kept -/
def Got (a : Addr) (D : Cell) (fV fC : Field) (A : Cell) (o len : Nat) (r : Option Value) (s u : State) : Prop := r = none ∧ ∃ D' V : Cell, Blank "java/lang/String" a D' u ∧ Same D D' [fV.slot, fC.slot] ∧ D'.slots[fV.slot]? = some (.ref s.heap.size) ∧ D'.slots[fC.slot]? = some (.int 0) ∧ Arr .byte s.heap.size V u ∧ V.vm = .none ∧ u.vm.findClass "[B" = some V.cls ∧ V.slots.size = len ∧ (∀ j, j < len → V.slots[j]? = some (.int (lo8 (cv A (o + j))))) ∧ (∀ (y : Addr) (c : Cell), y ≠ a → s.heap[y]? = some c → u.heap[y]? = some c) ∧ u.heap.size = s.heap.size + 1
theorem Got.mv {a : Addr} {D A : Cell} {fV fC : Field} {o len : Nat} : ∀ r (U U' V V' : State), U'.heap = U.heap → V.vm.Alike V'.vm → V'.heap = V.heap → Got a D fV fC A o len r U V → Got a D fV fC A o len r U' V' :=
  fun r U U' V V' h1 hal h2 ⟨e0, D', X, a1, a2, a3, a4, a5, a6, a7, a8, a9, a10, a11⟩ => ⟨e0, D', X, a1.mv hal h2, a2, by rw [h1]; exact a3, a4, by rw [h1]; exact a5.mv hal h2, a6, by rw [hal.findClass]; exact a7, a8, a9, by rw [h1, h2]; exact a10, by rw [h1, h2]; exact a11⟩
namespace New4
def yN : MethodName := ⟨"java/lang/String", "<init>", "([CIILjava/lang/Void;)V"⟩
abbrev yB : ByteArray := jdk_42_method_149_code
theorem d0 : decode yB 0 = .ok (.aload_n 0, 1) := by decide +kernel
theorem d1 : decode yB 1 = .ok (.invokespecial 1, 3) := by decide +kernel
theorem d4 : decode yB 4 = .ok (.iload_n 3, 1) := by decide +kernel
theorem d5 : decode yB 5 = .ok (.ifCond (.ne) 22, 3) := by decide +kernel
theorem d27 : decode yB 27 = .ok (.getstatic 38, 3) := by decide +kernel
theorem d30 : decode yB 30 = .ok (.ifCond (.eq) 28, 3) := by decide +kernel
theorem d33 : decode yB 33 = .ok (.aload_n 1, 1) := by decide +kernel
theorem d34 : decode yB 34 = .ok (.iload_n 2, 1) := by decide +kernel
theorem d35 : decode yB 35 = .ok (.iload_n 3, 1) := by decide +kernel
theorem d36 : decode yB 36 = .ok (.invokestatic 177, 3) := by decide +kernel
theorem d39 : decode yB 39 = .ok (.astore 5, 2) := by decide +kernel
theorem d41 : decode yB 41 = .ok (.aload_n 0, 1) := by decide +kernel
theorem d42 : decode yB 42 = .ok (.aload 5, 2) := by decide +kernel
theorem d44 : decode yB 44 = .ok (.iload_n 3, 1) := by decide +kernel
theorem d45 : decode yB 45 = .ok (.invokestatic 47, 3) := by decide +kernel
theorem d48 : decode yB 48 = .ok (.putfield 15, 3) := by decide +kernel
theorem d51 : decode yB 51 = .ok (.aload_n 0, 1) := by decide +kernel
theorem d52 : decode yB 52 = .ok (.aload 5, 2) := by decide +kernel
theorem d54 : decode yB 54 = .ok (.putfield 9, 3) := by decide +kernel
theorem d57 : decode yB 57 = .ok (.return_, 1) := by decide +kernel
def site : List Cond := [.fieldLink "java/lang/String" 38 "java/lang/String" "COMPACT_STRINGS" "Z", Cmp3.tab, CodL.tab, .laysFinal "java/lang/String" "java/lang/String" "value" "[B", .fieldLink "java/lang/String" 9 "java/lang/String" "value" "[B", .laysFinal "java/lang/String" "java/lang/String" "coder" "B", .fieldLink "java/lang/String" 15 "java/lang/String" "coder" "B"] ++ objW "java/lang/String" 1 ++ staticW "java/lang/String" 177 Cmp3.yN ++ staticW "java/lang/String" 47 CodL.yN
def tab : Cond := tabOf yN yB 6 none site
def P (a : Addr) (D : Cell) (fV fC : Field) (b : Addr) (A : Cell) (z : Int32) (o len : Nat) (args : Array Value) (s : State) : Prop := args = #[.ref a, .ref b, .int (Int32.ofNat o), .int (Int32.ofNat len), .null] ∧ Blank "java/lang/String" a D s ∧ Found "java/lang/String" "value" "[B" fV s ∧ Found "java/lang/String" "coder" "B" fC s ∧ Ch b A s ∧ StaticIs s "java/lang/String" "COMPACT_STRINGS" "Z" (.int z) ∧ ¬ z = 0 ∧ 0 < len ∧ o + len ≤ A.slots.size ∧ len ≤ 536870912 ∧ ∀ i, i < len → ¬ 255 < cv A (o + i)
def E (a : Addr) (D : Cell) (fV fC : Field) (A : Cell) (o len : Nat) (r : Option Value) (s u : State) : Prop := Got a D fV fC A o len r s u
/-- len > 0, no char of the range above 255: a Latin-1 String of their low bytes -/
theorem law (l : Launch) (a : Addr) (D : Cell) (fV fC : Field) (b : Addr) (A : Cell) (z : Int32) (o len : Nat) : Law l yN 5 4 2 35 yB 6 none site (P a D fV fC b A z o len) (E a D fV fC A o len) [⟨a, fC.slot⟩, ⟨a, fV.slot⟩] 1 len := by
  refine Law.of_walk (plainFor_of_name (by decide +kernel)) (by decide +kernel) (by decide +kernel) (by decide) (fun _ _ h => by rw [h.1]; rfl) (fun _ U U' hal hh h => ⟨h.1, h.2.1.mv hal hh, h.2.2.1.al hal, h.2.2.2.1.al hal, h.2.2.2.2.1.mv hal hh, h.2.2.2.2.2.1.there hal hh, h.2.2.2.2.2.2⟩) (fun r U U' V V' h1 hal h2 h => Got.mv r U U' V V' h1 hal h2 h) ?_
  intro p e s m args below meth c s₁ X0 hexec hbytes hml hret hlk hnm hown hh0 W hP
  obtain ⟨rfl, hB, f1, f2, hA, s1, hz, l0, l1, l2, hp⟩ := hP
  have a31 := hA.1.2.2.2
  have c1 : Steps p.tables e below (s₁.setTop (entryFrame m #[.ref a, .ref b, .int (Int32.ofNat o), .int (Int32.ofNat len), .null] 6)) (s₁.setTop (mkF m 0 #[.val (.ref a), .val (.ref b), .val (.int (Int32.ofNat o)), .val (.int (Int32.ofNat len)), .val .null, .unset] [])) := entry rfl
  have c2 : Steps p.tables e below (s₁.setTop (entryFrame m #[.ref a, .ref b, .int (Int32.ofNat o), .int (Int32.ofNat len), .null] 6)) (s₁.setTop (mkF m 1 #[.val (.ref a), .val (.ref b), .val (.int (Int32.ofNat o)), .val (.int (Int32.ofNat len)), .val .null, .unset] [.ref a])) := c1.trans (by
    refine XS.aloadN X0.here hexec rfl (hb hbytes d0) rfl rfl ?_
    exact Steps.refl _)
  obtain ⟨T3, X3, q3, st3⟩ := X0.oinit hexec hown (wks W (objW "java/lang/String" 1)) (g := (mkF m 1 #[.val (.ref a), .val (.ref b), .val (.int (Int32.ofNat o)), .val (.int (Int32.ofNat len)), .val .null, .unset] [.ref a])) rfl (by rw [hml]; rfl) (rest := []) rfl (hb hbytes d1) (W := 0) (by show 2 * 0 + 0 ≤ _; decide) (Nat.le_of_ble_eq_true rfl) (Nat.le_of_ble_eq_true rfl)
  have hh3 := q3.trans hh0
  have c4 : Steps p.tables e below (s₁.setTop (entryFrame m #[.ref a, .ref b, .int (Int32.ofNat o), .int (Int32.ofNat len), .null] 6)) (T3.setTop (mkF m 27 #[.val (.ref a), .val (.ref b), .val (.int (Int32.ofNat o)), .val (.int (Int32.ofNat len)), .val .null, .unset] [])) := (c2.trans (st3 _ (Steps.refl _))).trans (by
    refine XS.iloadN X3.here hexec rfl (hb hbytes d4) rfl ?_
    refine XS.ifYes X3.here hexec rfl (pc0 := 5) rfl (hb hbytes d5) rfl (i0_ne_t (nz32 (by omega) l0)) (by decide) rfl ?_
    exact Steps.refl _)
  obtain ⟨T5, X5, q5, st5⟩ := X3.sget hexec hown (wk W (.fieldLink "java/lang/String" 38 "java/lang/String" "COMPACT_STRINGS" "Z")) s1 (fun _ _ h => by rw [hh3]; exact h) (g := (mkF m 27 #[.val (.ref a), .val (.ref b), .val (.int (Int32.ofNat o)), .val (.int (Int32.ofNat len)), .val .null, .unset] [])) rfl (hb hbytes d27)
  have hh5 := q5.trans hh3
  have c6 : Steps p.tables e below (s₁.setTop (entryFrame m #[.ref a, .ref b, .int (Int32.ofNat o), .int (Int32.ofNat len), .null] 6)) (T5.setTop (mkF m 30 #[.val (.ref a), .val (.ref b), .val (.int (Int32.ofNat o)), .val (.int (Int32.ofNat len)), .val .null, .unset] [.int z])) := c4.trans (st5 _ (Steps.refl _))
  have c7 : Steps p.tables e below (s₁.setTop (entryFrame m #[.ref a, .ref b, .int (Int32.ofNat o), .int (Int32.ofNat len), .null] 6)) (T5.setTop (mkF m 36 #[.val (.ref a), .val (.ref b), .val (.int (Int32.ofNat o)), .val (.int (Int32.ofNat len)), .val .null, .unset] [.int (Int32.ofNat len), .int (Int32.ofNat o), .ref b])) := c6.trans (by
    refine XS.ifNo X5.here hexec rfl (hb hbytes d30) rfl (i0_eq_f hz) ?_
    refine XS.aloadN X5.here hexec rfl (hb hbytes d33) rfl rfl ?_
    refine XS.iloadN X5.here hexec rfl (hb hbytes d34) rfl ?_
    refine XS.iloadN X5.here hexec rfl (hb hbytes d35) rfl ?_
    exact Steps.refl _)
  obtain ⟨v8, T8, X8, E8, g8⟩ := X5.callS hexec (Cmp3.law l b A o len) hown (wks W (staticW "java/lang/String" 177 Cmp3.yN)) (wk W Cmp3.tab) (W := 0) (Nat.le_of_ble_eq_true rfl) (Nat.le_of_ble_eq_true rfl) (Nat.le_refl _) (by show 0 + len ≤ len; omega) (g := (mkF m 36 #[.val (.ref a), .val (.ref b), .val (.int (Int32.ofNat o)), .val (.int (Int32.ofNat len)), .val .null, .unset] [.int (Int32.ofNat len), .int (Int32.ofNat o), .ref b])) rfl (by rw [hml]; rfl) c7 (argsL := [.ref b, .int (Int32.ofNat o), .int (Int32.ofNat len)]) (rest := []) rfl rfl (by show 2 * 0 + 0 ≤ _; decide) (hb hbytes d36) (⟨rfl, hA.mv X5.warmed.alike hh5, l1, l2, hp⟩)
  obtain ⟨e8, z8⟩ := E8
  obtain ⟨rfl, N, n1, n2, n3, n4, n5, n6⟩ := NewArr.mv _ T5 s _ _ hh5.symm (Vm.Alike.refl _) rfl e8
  rw [hh5] at z8
  have hB1 := hB.keep X8.warmed.alike (n6 _ _ hB.1)
  have hne : s.heap.size ≠ a := (Nat.ne_of_lt (Array.getElem?_eq_some_iff.mp hB.1).1).symm
  have c9 : Steps p.tables e below (s₁.setTop (entryFrame m #[.ref a, .ref b, .int (Int32.ofNat o), .int (Int32.ofNat len), .null] 6)) (T8.setTop (mkF m 39 #[.val (.ref a), .val (.ref b), .val (.int (Int32.ofNat o)), .val (.int (Int32.ofNat len)), .val .null, .unset] [.ref s.heap.size])) := g8
  have c10 : Steps p.tables e below (s₁.setTop (entryFrame m #[.ref a, .ref b, .int (Int32.ofNat o), .int (Int32.ofNat len), .null] 6)) (T8.setTop (mkF m 45 #[.val (.ref a), .val (.ref b), .val (.int (Int32.ofNat o)), .val (.int (Int32.ofNat len)), .val .null, .val (.ref s.heap.size)] [.int (Int32.ofNat N.slots.size), .ref s.heap.size, .ref a])) := by
    have hc : Steps p.tables e below (s₁.setTop (entryFrame m #[.ref a, .ref b, .int (Int32.ofNat o), .int (Int32.ofNat len), .null] 6)) (T8.setTop (mkF m 45 #[.val (.ref a), .val (.ref b), .val (.int (Int32.ofNat o)), .val (.int (Int32.ofNat len)), .val .null, .val (.ref s.heap.size)] [.int (Int32.ofNat len), .ref s.heap.size, .ref a])) := c9.trans (by
      refine XS.astore X8.here hexec rfl (hb hbytes d39) rfl rfl rfl ?_
      refine XS.aloadN X8.here hexec rfl (hb hbytes d41) rfl rfl ?_
      refine XS.aload X8.here hexec rfl (hb hbytes d42) rfl rfl ?_
      refine XS.iloadN X8.here hexec rfl (hb hbytes d44) rfl ?_
      exact Steps.refl _)
    rw [n4]; exact hc
  obtain ⟨v11, T11, X11, E11, g11⟩ := X8.callS hexec (CodL.law l s.heap.size N) hown (wks W (staticW "java/lang/String" 47 CodL.yN)) (wk W CodL.tab) (W := 1) (Nat.le_of_ble_eq_true rfl) (Nat.le_of_ble_eq_true rfl) (Nat.le_refl _) (by show 0 + len + 0 ≤ len; omega) (g := (mkF m 45 #[.val (.ref a), .val (.ref b), .val (.int (Int32.ofNat o)), .val (.int (Int32.ofNat len)), .val .null, .val (.ref s.heap.size)] [.int (Int32.ofNat N.slots.size), .ref s.heap.size, .ref a])) rfl (by rw [hml]; rfl) c10 (argsL := [.ref s.heap.size, .int (Int32.ofNat N.slots.size)]) (rest := [.ref a]) rfl rfl (by show 2 * 0 + (1 + 0) ≤ _; decide) (hb hbytes d45) (⟨rfl, n1⟩)
  obtain ⟨rfl, q11⟩ := E11
  have hB11 := hB1.mv (X8.warmed.alike.symm.trans X11.warmed.alike) q11
  have c12 : Steps p.tables e below (s₁.setTop (entryFrame m #[.ref a, .ref b, .int (Int32.ofNat o), .int (Int32.ofNat len), .null] 6)) (T11.setTop (mkF m 48 #[.val (.ref a), .val (.ref b), .val (.int (Int32.ofNat o)), .val (.int (Int32.ofNat len)), .val .null, .val (.ref s.heap.size)] [.int 0, .ref a])) := g11
  obtain ⟨T13, X13, p13, bl13, sl13, st13⟩ := X11.finit hexec hown (wk W (.fieldLink "java/lang/String" 15 "java/lang/String" "coder" "B")) (Or.inr ⟨_, (wk W (.laysFinal "java/lang/String" "java/lang/String" "coder" "B"))⟩) (Or.inl ⟨rfl, hnm⟩) f2 (Or.inl rfl) hB11 (t := .byte) (by decide +kernel) rfl (g := (mkF m 48 #[.val (.ref a), .val (.ref b), .val (.int (Int32.ofNat o)), .val (.int (Int32.ofNat len)), .val .null, .val (.ref s.heap.size)] [.int 0, .ref a])) rfl (rest := []) rfl (hb hbytes d48)
  have c14 : Steps p.tables e below (s₁.setTop (entryFrame m #[.ref a, .ref b, .int (Int32.ofNat o), .int (Int32.ofNat len), .null] 6)) (T13.setTop (mkF m 54 #[.val (.ref a), .val (.ref b), .val (.int (Int32.ofNat o)), .val (.int (Int32.ofNat len)), .val .null, .val (.ref s.heap.size)] [.ref s.heap.size, .ref a])) := (c12.trans (st13 _ (Steps.refl _))).trans (by
    refine XS.aloadN X13.here hexec rfl (hb hbytes d51) rfl rfl ?_
    refine XS.aload X13.here hexec rfl (hb hbytes d52) rfl rfl ?_
    exact Steps.refl _)
  obtain ⟨T15, X15, p15, bl15, sl15, st15⟩ := X13.finit hexec hown (wk W (.fieldLink "java/lang/String" 9 "java/lang/String" "value" "[B")) (Or.inr ⟨_, (wk W (.laysFinal "java/lang/String" "java/lang/String" "value" "[B"))⟩) (Or.inl ⟨rfl, hnm⟩) f1 (Or.inl rfl) bl13 (t := (.array .byte)) (by decide +kernel) rfl (g := (mkF m 54 #[.val (.ref a), .val (.ref b), .val (.int (Int32.ofNat o)), .val (.int (Int32.ofNat len)), .val .null, .val (.ref s.heap.size)] [.ref s.heap.size, .ref a])) rfl (rest := []) rfl (hb hbytes d54)
  have c16 : Steps p.tables e below (s₁.setTop (entryFrame m #[.ref a, .ref b, .int (Int32.ofNat o), .int (Int32.ofNat len), .null] 6)) (T15.setTop (mkF m 57 #[.val (.ref a), .val (.ref b), .val (.int (Int32.ofNat o)), .val (.int (Int32.ofNat len)), .val .null, .val (.ref s.heap.size)] [])) := c14.trans (st15 _ (Steps.refl _))
  have ap := apart (Or.inr ⟨_, (wk W (.laysFinal "java/lang/String" "java/lang/String" "value" "[B"))⟩) (Or.inr ⟨_, (wk W (.laysFinal "java/lang/String" "java/lang/String" "coder" "B"))⟩) f1 f2 (t₁ := .array .byte) (t₂ := .byte) (by decide +kernel) (by decide +kernel) (by decide)
  have al := X8.warmed.alike.symm.trans X15.warmed.alike
  have n7 : T11.heap[s.heap.size]? = some N := by rw [q11]; exact n1.1
  exact ⟨T15, none, _, _, _, X15, by simp, rfl, by omega, (fun _ => rfl), ⟨rfl, _, N, bl15, ((Same.refl D _).set _ (by simp)).set _ (by simp), sl15, (Cell.slots_setSlot_ne _ ap).trans sl13, n1.keep al (p15.other hne (p13.other hne n7)), n2, by rw [al.findClass]; exact n3, n4, n5, fun y c h1 h2 => p15.other h1 (p13.other h1 (by rw [q11]; exact n6 y c h2)), by rw [p15.2.2, p13.2.2, q11]; exact z8⟩, fun fs hl => c16.trans (X15.returnOut hexec hret (hb hbytes d57) hl)⟩
end New4
namespace New1
def yN : MethodName := ⟨"java/lang/String", "<init>", "([C)V"⟩
abbrev yB : ByteArray := jdk_42_method_3_code
theorem d0 : decode yB 0 = .ok (.aload_n 0, 1) := by decide +kernel
theorem d1 : decode yB 1 = .ok (.aload_n 1, 1) := by decide +kernel
theorem d2 : decode yB 2 = .ok (.iconst 0, 1) := by decide +kernel
theorem d3 : decode yB 3 = .ok (.aload_n 1, 1) := by decide +kernel
theorem d4 : decode yB 4 = .ok (.arraylength, 1) := by decide +kernel
theorem d5 : decode yB 5 = .ok (.aconst_null, 1) := by decide +kernel
theorem d6 : decode yB 6 = .ok (.invokespecial 27, 3) := by decide +kernel
theorem d9 : decode yB 9 = .ok (.return_, 1) := by decide +kernel
def site : List Cond := [New4.tab] ++ initW "java/lang/String" 27 New4.yN
def tab : Cond := tabOf yN yB 2 none site
def P (a : Addr) (D : Cell) (fV fC : Field) (b : Addr) (A : Cell) (z : Int32) (args : Array Value) (s : State) : Prop := args = #[.ref a, .ref b] ∧ Blank "java/lang/String" a D s ∧ Found "java/lang/String" "value" "[B" fV s ∧ Found "java/lang/String" "coder" "B" fC s ∧ Ch b A s ∧ StaticIs s "java/lang/String" "COMPACT_STRINGS" "Z" (.int z) ∧ ¬ z = 0 ∧ 0 < A.slots.size ∧ A.slots.size ≤ 536870912 ∧ ∀ i, i < A.slots.size → ¬ 255 < cv A i
def E (a : Addr) (D : Cell) (fV fC : Field) (A : Cell) (r : Option Value) (s u : State) : Prop := Got a D fV fC A 0 A.slots.size r s u
/-- new String(chars), not empty, no char above 255: a Latin-1 String of their low bytes -/
theorem law (l : Launch) (a : Addr) (D : Cell) (fV fC : Field) (b : Addr) (A : Cell) (z : Int32) : Law l yN 2 1 3 52 yB 2 none site (P a D fV fC b A z) (E a D fV fC A) [⟨a, fC.slot⟩, ⟨a, fV.slot⟩] 1 A.slots.size := by
  refine Law.of_walk (plainFor_of_name (by decide +kernel)) (by decide +kernel) (by decide +kernel) (by decide) (fun _ _ h => by rw [h.1]; rfl) (fun _ U U' hal hh h => ⟨h.1, h.2.1.mv hal hh, h.2.2.1.al hal, h.2.2.2.1.al hal, h.2.2.2.2.1.mv hal hh, h.2.2.2.2.2.1.there hal hh, h.2.2.2.2.2.2⟩) (fun r U U' V V' h1 hal h2 h => Got.mv r U U' V V' h1 hal h2 h) ?_
  intro p e s m args below meth c s₁ X0 hexec hbytes hml hret hlk hnm hown hh0 W hP
  obtain ⟨rfl, hB, f1, f2, hA, s1, hz, l0, l2, hp⟩ := hP
  have c1 : Steps p.tables e below (s₁.setTop (entryFrame m #[.ref a, .ref b] 2)) (s₁.setTop (mkF m 0 #[.val (.ref a), .val (.ref b)] [])) := entry rfl
  have c2 : Steps p.tables e below (s₁.setTop (entryFrame m #[.ref a, .ref b] 2)) (s₁.setTop (mkF m 6 #[.val (.ref a), .val (.ref b)] [.null, .int (Int32.ofNat A.slots.size), .int 0, .ref b, .ref a])) := c1.trans (by
    refine XS.aloadN X0.here hexec rfl (hb hbytes d0) rfl rfl ?_
    refine XS.aloadN X0.here hexec rfl (hb hbytes d1) rfl rfl ?_
    refine iconstV X0.here hexec rfl 0 (hb hbytes d2) (by decide) ?_
    refine XS.aloadN X0.here hexec rfl (hb hbytes d3) rfl rfl ?_
    refine X0.alen hexec (hA.1.mv X0.warmed.alike hh0) rfl rfl (hb hbytes d4) ?_
    refine XS.aconstNull X0.here hexec rfl (hb hbytes d5) ?_
    exact Steps.refl _)
  obtain ⟨v3, T3, X3, E3, g3⟩ := X0.callN hexec (New4.law l a D fV fC b A z 0 A.slots.size) rfl hown (wks W (initW "java/lang/String" 27 New4.yN)) (W New4.tab (by simp only [site, List.mem_cons, List.mem_append, true_or, or_true])) (W := 0) (Nat.le_of_ble_eq_true rfl) (Nat.le_of_ble_eq_true rfl) (Nat.le_refl _) (by show 0 + A.slots.size ≤ A.slots.size; omega) (g := (mkF m 6 #[.val (.ref a), .val (.ref b)] [.null, .int (Int32.ofNat A.slots.size), .int (Int32.ofNat 0), .ref b, .ref a])) rfl (by rw [hml]; rfl) c2 (argsL := [.ref b, .int (Int32.ofNat 0), .int (Int32.ofNat A.slots.size), .null]) (rest := []) rfl rfl (by show 2 * 0 + 0 ≤ _; decide) (hb hbytes d6) (⟨rfl, hB.mv X0.warmed.alike hh0, f1.al X0.warmed.alike, f2.al X0.warmed.alike, hA.mv X0.warmed.alike hh0, s1.there X0.warmed.alike hh0, hz, l0, by omega, l2, fun i hi => by rw [Nat.zero_add]; exact hp i hi⟩)
  have e0 := Got.mv _ s₁ s _ _ hh0.symm (Vm.Alike.refl _) rfl E3
  obtain rfl := e0.1
  have c4 : Steps p.tables e below (s₁.setTop (entryFrame m #[.ref a, .ref b] 2)) (T3.setTop (mkF m 9 #[.val (.ref a), .val (.ref b)] [])) := g3
  exact ⟨T3, none, _, _, _, X3, by simp, rfl, by omega, (fun _ => rfl), e0, fun fs hl => c4.trans (X3.returnOut hexec hret (hb hbytes d9) hl)⟩
theorem pays {l : Launch} {R : Room} {p : Program} {e : Env} {below : List Frame} {s : State} {sargs : Array Value} {len W : Nat} (a : Addr) (D : Cell) (fV fC : Field) (b : Addr) (A : Cell) (z : Int32) (htab : tab.before sargs s = true) (hfr : 4 ≤ R.frames) (hlo : W + 65 ≤ R.locals) :
    Back l R p e below s sargs yN len W (fun A₁ a₁ => A₁.cells + 1 ≤ R.cells ∧ A₁.slots + A.slots.size ≤ R.slots ∧ P a D fV fC b A z a₁ A₁.U) (fun A₁ _ v₁ B₁ => E a D fV fC A v₁ A₁.U B₁.U ∧ B₁.locs = A₁.locs ++ [⟨a, fC.slot⟩, ⟨a, fV.slot⟩] ∧ B₁.cells = A₁.cells + 1 ∧ B₁.slots = A₁.slots + A.slots.size) :=
  (law l a D fV fC b A z).pays htab hfr (by omega)
end New1
/-- the byte, read back as charAt reads it, is the char -/
theorem lo8_mask {x : Int32} (h0 : ¬ x < 0) (h1 : ¬ 255 < x) : lo8 x &&& 255 = x := by
  have t : ∀ k : Fin 256, lo8 (Int32.ofNat k.val) &&& 255 = Int32.ofNat k.val := by decide +kernel
  rw [Int32.lt_iff_toInt_lt] at h0 h1
  have e0 : (0 : Int32).toInt = 0 := rfl
  have e1 : (255 : Int32).toInt = 255 := rfl
  obtain ⟨k, hk⟩ : ∃ k : Nat, x.toInt = k := ⟨x.toInt.toNat, by omega⟩
  have hx : x = Int32.ofNat k := Int32.toInt_inj.mp (by rw [hk, Int32.toInt_ofNat_small (by omega)])
  rw [hx]
  exact t ⟨k, by omega⟩
end StrChars
namespace StrChars.Road
open Jvm Sem ClassFile Op Lib Jvm.Stand Jvm.Free Jvm.Free.XT
open Jvm.Lib.Cold (StaticIs)
abbrev ST : String := "java/lang/String"
/-- every table word that New1's law asks, flat -/
abbrev words : List Jvm.Cond := [.code New1.yN New1.yB 2 none, .initialized ST, .methodLink ST 27 New4.yN, .instanceMethod New4.yN,
  .code New4.yN New4.yB 6 none, .fieldLink ST 38 ST "COMPACT_STRINGS" "Z", .laysFinal ST ST "value" "[B", .fieldLink ST 9 ST "value" "[B", .laysFinal ST ST "coder" "B", .fieldLink ST 15 ST "coder" "B",
  .methodLink ST 1 Lib.objectInit, .instanceMethod Lib.objectInit, .code Lib.objectInit ⟨#[0xb1]⟩ 1 none, .methodLink ST 177 Cmp3.yN, .static Cmp3.yN, .methodLink ST 47 CodL.yN, .static CodL.yN,
  .code Cmp3.yN Cmp3.yB 6 (some (.array .byte)), .initialized U16, .arrayClass .byte, .methodLink U16 115 Cmp5.yN, .static Cmp5.yN, .code Cmp5.yN Cmp5.yB 7 (some .int), .code CodL.yN CodL.yB 2 (some .byte)]
theorem tab_of {a : Array Value} {s : State} (h : ∀ w ∈ words, w.before a s = true) : New1.tab.before a s = true := by
  have h5 : Cmp5.tab.before a s = true := unparts (wk h (.code Cmp5.yN Cmp5.yB 7 (some .int))) (wks h (.initialized Cmp5.yN.cls :: Cmp5.site))
  have hc : CodL.tab.before a s = true := unparts (wk h (.code CodL.yN CodL.yB 2 (some .byte))) (wks h (.initialized CodL.yN.cls :: CodL.site))
  have q5 : ∀ w ∈ Cmp5.tab :: words, w.before a s = true := fun w hw => (List.mem_cons.mp hw).elim (fun e => e ▸ h5) (h w)
  have h3 : Cmp3.tab.before a s = true := unparts (wk q5 (.code Cmp3.yN Cmp3.yB 6 (some (.array .byte)))) (wks q5 (.initialized Cmp3.yN.cls :: Cmp3.site))
  have q3 : ∀ w ∈ Cmp3.tab :: CodL.tab :: words, w.before a s = true := fun w hw => (List.mem_cons.mp hw).elim (fun e => e ▸ h3) fun hw => (List.mem_cons.mp hw).elim (fun e => e ▸ hc) (h w)
  have h4 : New4.tab.before a s = true := unparts (wk q3 (.code New4.yN New4.yB 6 none)) (wks q3 (.initialized New4.yN.cls :: New4.site))
  have q4 : ∀ w ∈ New4.tab :: words, w.before a s = true := fun w hw => (List.mem_cons.mp hw).elim (fun e => e ▸ h4) (h w)
  exact unparts (wk q4 (.code New1.yN New1.yB 2 none)) (wks q4 (.initialized New1.yN.cls :: New1.site))
/-- the words ride from the start Z to the walk's own state -/
theorem moved {Z s : State} {a0 args : Array Value} (hZ : Z.Warmed39 s.vm) (hw : ∀ d ∈ words, d.before a0 Z = true) : ∀ d ∈ words, d.before args s = true := fun d hd => by
  have q := hw d hd
  have t : ∀ d ∈ words, d = .arrayClass .byte ∨ (d.onTables && d.keepsFace) = true := by decide +kernel
  rcases t d hd with rfl | t
  · exact RoadKit.mvA hZ q
  · exact RoadKit.mv hZ q t
/-- WHAT COMES BACK, over the tables of the start Z: h the heap at the call, h' behind it -/
def Q (Z : State) (x : Addr) (A : Cell) (h : Heap) (v : Option Value) (h' : Heap) (L : List Loc) : Prop := v = none ∧ (∀ y ∈ L, y.base = x) ∧ RoadKit.Keep h h' [x] ∧ h'.size = h.size + 1 ∧ RoadKit.Exa Z h' x ST ∧ RoadKit.Fld Z h' x ST "value" "[B" (.ref h.size) ∧ RoadKit.Fld Z h' x ST "coder" "B" (.int 0) ∧
  (∃ V : Cell, RoadKit.Arr Z h' h.size V .byte ∧ V.vm = .none ∧ Z.vm.findClass "[B" = some V.cls ∧ V.slots.size = A.slots.size ∧ ∀ j, j < A.slots.size → V.slots[j]? = some (.int (lo8 (cv A j)))) ∧
  ∀ (O n d : String) (w : Value), RoadKit.Fld Z h x O n d w → RoadKit.slotOf Z O n d ≠ RoadKit.slotOf Z ST "value" "[B" → RoadKit.slotOf Z O n d ≠ RoadKit.slotOf Z ST "coder" "B" → RoadKit.Fld Z h' x O n d w
/-- **new String(chars) AT A CALL, IN THE ROAD'S FORM**: for specialBack behind newO: x the fresh String, b the char[] with the cell A -/
theorem back {p : Program} {l : Launch} {e : Env} {R : Room} {s : State} {args : Array Value} {below : List Frame} {len W : Nat} {Z : State} {a0 : Array Value} {h : Heap} (hZ : Z.Warmed39 s.vm) (hw : ∀ d ∈ words, d.before a0 Z = true) {kI : Nat} (wi : (Jvm.Cond.instantiable ST kI).before a0 Z = true)
    {x b : Addr} {A : Cell} {z : Int32} {v0 c0 : Value} (E : RoadKit.Exa Z h x ST) (V : RoadKit.Fld Z h x ST "value" "[B" v0) (C : RoadKit.Fld Z h x ST "coder" "B" c0) (K : RoadKit.Arr Z h b A .char) (hty : Typed .char A) (S : RoadKit.Sta Z h ST "COMPACT_STRINGS" "Z" (.int z)) (hz : ¬ z = 0)
    (l0 : 0 < A.slots.size) (l2 : A.slots.size ≤ 536870912) (hp : ∀ i, i < A.slots.size → ¬ 255 < cv A i) (hfr : 4 ≤ R.frames) (hlo : W + 65 ≤ R.locals) :
    Back l R p e below s args New1.yN len W (fun P a => a = #[.ref x, .ref b] ∧ P.U.heap = h ∧ P.cells + 1 ≤ R.cells ∧ P.slots + A.slots.size ≤ R.slots)
      (fun P _ v B => ∃ L, Q Z x A h v B.U.heap L ∧ B.locs = P.locs ++ L ∧ B.cells = P.cells + 1 ∧ B.slots = P.slots + A.slots.size) := by
  intro m meth c P g ig mk a X hg hsize hdg hW hn hp'
  obtain ⟨rfl, rfl, r1, r2⟩ := hp'
  have al : Z.vm.Alike P.U.vm := hZ.alike.trans X.warmed.alike
  obtain ⟨D, cfV, kV, iV, fV, hD, gV, stV, knV, obV, asV, slV⟩ := id V
  obtain ⟨D', cfC, kC, iC, fC, hD', gC, stC, -, -, asC, slC⟩ := id C
  cases hD.symm.trans hD'
  obtain ⟨D2, kD, e1, e2, e3, e4, e5⟩ := id E
  cases hD.symm.trans e1
  obtain ⟨c2, k2, i1, i2, i3, -⟩ := Cond.instantiable_spec wi
  cases e2.symm.trans i1
  cases e3.symm.trans i2
  obtain ⟨kU, u1, u2⟩ := al.2.2 _ _ e3
  have hB : Blank ST x D P.U := ⟨hD, ⟨knV, fun q hq => by rw [hq] at obV; cases obV⟩, by rw [al.findClass]; exact e2, kU, u1, by rw [u2]; exact i3, by rw [u2]; exact e5 i3⟩
  have F1 : Found ST "value" "[B" fV P.U := ⟨SBG.found_only al ⟨cfV, kV, iV, gV⟩, stV⟩
  have F2 : Found ST "coder" "B" fC P.U := ⟨SBG.found_only al ⟨cfC, kC, iC, gC⟩, stC⟩
  have hA : Ch b A P.U := ⟨⟨K.1, State.isArrayOf_alike al K.2.1, K.2.2, by omega⟩, hty⟩
  have hS : StaticIs P.U ST "COMPACT_STRINGS" "Z" (.int z) := by
    obtain ⟨cfS, iS, kS, fS, st, cS, t1, t2, t3, t4, t5, t6, t7⟩ := S
    exact StaticIs.there (s := { Z with heap := P.U.heap }) ⟨cfS, iS, kS, fS, st, cS, t1, t2, t3, t4, t5, (fun q => by rw [q] at t6; cases t6), t7⟩ al rfl
  obtain ⟨v, B, X', ⟨⟨hv, E', V', q1, q2, q3, q4, q5, q6, q7, q8, q9, q10, q11⟩, hl, hc, hs⟩, st⟩ := New1.pays x D fV fC b A z (tab_of (moved hZ hw)) hfr hlo m meth c P g ig mk _ X hg hsize hdg hW hn ⟨r1, r2, rfl, hB, F1, F2, hA, hS, hz, l0, l2, hp⟩
  have al' : Z.vm.Alike B.U.vm := hZ.alike.trans X'.warmed.alike
  have hsz : E'.slots.size = D.slots.size := by
    obtain ⟨-, -, -, kB, w1, w2, w3⟩ := q1
    obtain ⟨kB', y1, y2⟩ := al'.2.2 _ _ e3
    rw [q2.2.1] at w1
    cases w1.symm.trans y1
    rw [w3, e5 i3, y2]
  refine ⟨v, B, X', ⟨_, ⟨hv, ?_, ⟨by omega, fun y cy hy hn' => q10 y cy (by simpa using hn') hy, fun y cy hy => ?_⟩, q11, ⟨E', _, q1.1, by rw [q2.2.1]; exact e2, by rw [q2.2.1]; exact e3, by rw [q2.1]; exact obV, fun _ => by rw [hsz]; exact e5 i3⟩,
    ⟨E', cfV, kV, iV, fV, q1.1, gV, stV, by rw [q2.1]; exact knV, by rw [q2.1]; exact obV, by rw [q2.2.1]; exact asV, q3⟩, ⟨E', cfC, kC, iC, fC, q1.1, gC, stC, by rw [q2.1]; exact knV, by rw [q2.1]; exact obV, by rw [q2.2.1]; exact asC, q4⟩,
    ⟨V', ⟨q5.1, State.isArrayOf_alike al'.symm q5.2.1, q5.2.2.1⟩, q6, by rw [← al'.findClass]; exact q7, q8, fun j hj => by have := q9 j hj; rwa [Nat.zero_add] at this⟩, fun O n d w F n1 n2 => ?_⟩, hl, hc, hs⟩, st⟩
  · intro y hy
    simp only [List.mem_cons, List.not_mem_nil, or_false] at hy
    rcases hy with rfl | rfl <;> rfl
  · by_cases q : y = x
    · subst q
      cases hD.symm.trans hy
      exact ⟨E', q1.1, q2.2.1, q2.1, hsz⟩
    · exact ⟨cy, q10 y cy q hy, rfl, rfl, rfl⟩
  · obtain ⟨D3, cf, k, i, f, g1, g2, g3, g4, g5, g6, g7⟩ := F
    cases hD.symm.trans g1
    simp only [RoadKit.slotOf, g2, gV, gC, Option.map_some, Option.getD_some] at n1 n2
    exact ⟨E', cf, k, i, f, q1.1, g2, g3, by rw [q2.1]; exact g4, by rw [q2.1]; exact g5, by rw [q2.2.1]; exact g6, by rw [q2.2.2 f.slot (by simp [n1, n2])]; exact g7⟩
end StrChars.Road
namespace StrChars.Road
open Jvm Sem ClassFile Op Lib Jvm.Stand Jvm.Free Jvm.Free.XT
/-- WHAT COMES BACK, the byte[] as a list of values -/
def QA (Z : State) (x : Addr) (zn : Int32) (cs : List Int32) (h : Heap) (v : Option Value) (h' : Heap) (L : List Loc) : Prop := v = none ∧ (∀ y ∈ L, y.base = x) ∧ RoadKit.Keep h h' [x] ∧ h'.size = h.size + 1 ∧ RoadKit.Exa Z h' x ST ∧ RoadKit.Fld Z h' x ST "value" "[B" (.ref h.size) ∧ RoadKit.Fld Z h' x ST "coder" "B" (.int 0) ∧
  (∃ kb, Z.vm.findClass "[B" = some kb ∧ RoadKit.Arv Z h' h.size kb .byte zn (cs.map fun c => .int (lo8 c)) (.int 0)) ∧
  ∀ (O n d : String) (w : Value), RoadKit.Fld Z h x O n d w → RoadKit.slotOf Z O n d ≠ RoadKit.slotOf Z ST "value" "[B" → RoadKit.slotOf Z O n d ≠ RoadKit.slotOf Z ST "coder" "B" → RoadKit.Fld Z h' x O n d w
/-- **new String(chars) AT A CALL, THE ARRAYS AS LISTS**: the char[] at b holds cs, not empty, no char above 255 -/
theorem backArv {p : Program} {l : Launch} {e : Env} {R : Room} {s : State} {args : Array Value} {below : List Frame} {len W : Nat} {Z : State} {a0 : Array Value} {h : Heap} (hZ : Z.Warmed39 s.vm) (hw : ∀ d ∈ words, d.before a0 Z = true) {kI : Nat} (wi : (Jvm.Cond.instantiable ST kI).before a0 Z = true)
    {x b : Addr} {k : ClassId} {zn z : Int32} {cs : List Int32} {dv v0 c0 : Value} (E : RoadKit.Exa Z h x ST) (V : RoadKit.Fld Z h x ST "value" "[B" v0) (C : RoadKit.Fld Z h x ST "coder" "B" c0) (K : RoadKit.Arv Z h b k .char zn (cs.map Value.int) dv) (S : RoadKit.Sta Z h ST "COMPACT_STRINGS" "Z" (.int z)) (hz : ¬ z = 0)
    (hlen : zn.toNatClampNeg = cs.length) (h0 : 0 < cs.length) (hbig : cs.length ≤ 536870912) (hall : ∀ c ∈ cs, ¬ 255 < c) (hfr : 4 ≤ R.frames) (hlo : W + 65 ≤ R.locals) :
    Back l R p e below s args New1.yN len W (fun P a => a = #[.ref x, .ref b] ∧ P.U.heap = h ∧ P.cells + 1 ≤ R.cells ∧ P.slots + cs.length ≤ R.slots)
      (fun P _ v B => ∃ L, QA Z x zn cs h v B.U.heap L ∧ B.locs = P.locs ++ L ∧ B.cells = P.cells + 1 ∧ B.slots = P.slots + cs.length) := by
  obtain ⟨A, K1, K2, K3, K4, K5, K6⟩ := K
  have e : A.slots.size = cs.length := K3.trans hlen
  have hat : ∀ (i : Nat) (hi : i < cs.length), A.slots[i]? = some (.int cs[i]) := fun i hi => by rw [K5 i (by omega)]; simp [List.getD_eq_getElem?_getD, hi]
  have hcv : ∀ (i : Nat) (hi : i < cs.length), cv A i = cs[i] := fun i hi => by unfold cv; rw [hat i hi]
  have hty : Typed .char A := fun i v hv => by
    have hi : i < A.slots.size := (Array.getElem?_eq_some_iff.mp hv).1
    have q := K5 i hi
    rw [hv] at q
    rw [Option.some.inj q]
    exact K6 i hi
  refine Back.mono (back hZ hw wi E V C K1 hty S hz (by omega) (by omega) (fun i hi => by rw [hcv i (by omega)]; exact hall _ (List.getElem_mem _)) hfr hlo) (fun P a hp => ⟨hp.1, hp.2.1, hp.2.2.1, by rw [e]; exact hp.2.2.2⟩) (fun P a v B hp hq => ?_)
  obtain ⟨L, ⟨q1, q2, q3, q4, q5, q6, q7, ⟨V', v1, v2, v3, v4, v5⟩, q9⟩, hl, hc, hs⟩ := hq
  refine ⟨L, ⟨q1, q2, q3, q4, q5, q6, q7, ⟨V'.cls, v3, V', v1, rfl, by rw [v4, e, hlen], K4, fun i hi => ?_, fun i hi => ?_⟩, q9⟩, hl, hc, by rw [hs, e]⟩
  · have hi' : i < cs.length := by omega
    rw [v5 i (by omega), hcv i hi']; simp [List.getD_eq_getElem?_getD, hi']
  · have hi' : i < cs.length := by omega
    simp only [List.getD_eq_getElem?_getD, List.getElem?_map, List.getElem?_eq_getElem hi', Option.map_some, Option.getD_some]
    exact fits_lo8 _
end StrChars.Road
namespace StrChars
open Jvm Sem ClassFile Op Lib Jvm.Stand Jvm.Free.XT Jvm.Free.ALB Jvm.Free.JM Jvm.Free
open Jvm.Lib.Cold (StaticIs)
def hi8 (x : Int32) : Int32 := lo8 (x >>> ((8 : Int32) &&& 31))
/-- what StringUTF16.getChar makes of two bytes -/
def pairCh (u v : Int32) : Int32 := (((u &&& 255) <<< ((0 : Int32) &&& 31)) ||| ((v &&& 255) <<< ((8 : Int32) &&& 31))).toUInt32.toUInt16.toUInt32.toInt32
theorem shr0 (c : Int32) : c >>> ((0 : Int32) &&& 31) = c := by
  have e : ((0 : Int32) &&& 31) = 0 := by decide
  rw [e]
  apply Int32.toBitVec_inj.mp
  rw [Int32.toBitVec_shiftRight]
  have e1 : ((0 : Int32).toBitVec.smod 32) = 0#32 := by decide
  rw [e1, BitVec.sshiftRight_eq']
  exact BitVec.sshiftRight_zero
theorem lo8_and (x : Int32) : (lo8 x &&& 255).toBitVec.toNat = x.toBitVec.toNat % 256 := by
  have h : (lo8 x).toBitVec = (x.toBitVec.signExtend 8).signExtend 32 := by rw [lo8, Int8.toBitVec_toInt32, Int32.toBitVec_toInt8]
  rw [Int32.toBitVec_and, BitVec.toNat_and, h]
  have e : ((x.toBitVec.signExtend 8).signExtend 32).toNat % 256 = x.toBitVec.toNat % 256 := by
    rw [BitVec.toNat_signExtend]
    have hlt := x.toBitVec.isLt
    simp only [BitVec.toNat_setWidth, BitVec.toNat_signExtend]
    split <;> split <;> omega
  rw [← e]
  exact Nat.and_two_pow_sub_one_eq_mod _ 8
theorem pair_says {c : Int32} (h0 : ¬ c < 0) (h1 : ¬ 65535 < c) : pairCh (lo8 c) (hi8 c) = c := by
  rw [Int32.lt_iff_toInt_lt] at h0 h1
  have e0 : (0 : Int32).toInt = 0 := rfl
  have e1 : (65535 : Int32).toInt = 65535 := rfl
  have hc : c.toInt = c.toBitVec.toNat := by
    have := c.toBitVec.isLt
    have e : c.toInt = c.toBitVec.toInt := rfl
    rw [e] at h0 h1
    rw [e]
    rw [BitVec.toInt_eq_toNat_cond] at h0 h1 ⊢
    split at h0 <;> split <;> omega
  have hn : c.toBitVec.toNat < 65536 := by omega
  have a1 := lo8_and c
  have a2 : (hi8 c &&& 255).toBitVec.toNat = c.toBitVec.toNat / 256 := by
    rw [hi8, lo8_and]
    have e : ((8 : Int32) &&& 31) = 8 := by decide
    rw [e, Int32.toBitVec_shiftRight]
    have e2 : ((8 : Int32).toBitVec.smod 32) = 8#32 := by decide
    rw [e2, BitVec.sshiftRight_eq', BitVec.toNat_sshiftRight_of_msb_false (by rw [BitVec.msb_eq_false_iff_two_mul_lt]; omega)]
    show c.toBitVec.toNat >>> 8 % 256 = _
    rw [Nat.shiftRight_eq_div_pow]
    omega
  unfold pairCh
  apply Int32.toBitVec_inj.mp
  apply BitVec.eq_of_toNat_eq
  have f0 : ((0 : Int32) &&& 31) = 0 := by decide
  have f8 : ((8 : Int32) &&& 31) = 8 := by decide
  rw [f0, f8]
  have g : (((lo8 c &&& 255) <<< (0 : Int32)) ||| ((hi8 c &&& 255) <<< (8 : Int32))).toBitVec.toNat = c.toBitVec.toNat := by
    rw [Int32.toBitVec_or, Int32.toBitVec_shiftLeft, Int32.toBitVec_shiftLeft]
    have s0 : ((0 : Int32).toBitVec.smod 32) = 0#32 := by decide
    have s8 : ((8 : Int32).toBitVec.smod 32) = 8#32 := by decide
    rw [s0, s8, BitVec.toNat_or]
    simp only [BitVec.shiftLeft_eq', BitVec.toNat_shiftLeft, a1, a2]
    show (c.toBitVec.toNat % 256) <<< 0 % 2 ^ 32 ||| (c.toBitVec.toNat / 256) <<< 8 % 2 ^ 32 = _
    rw [Nat.shiftLeft_zero, Nat.mod_eq_of_lt (show c.toBitVec.toNat % 256 < 2 ^ 32 by omega), Nat.mod_eq_of_lt (show (c.toBitVec.toNat / 256) <<< 8 < 2 ^ 32 by rw [Nat.shiftLeft_eq]; omega), Nat.or_comm, ← Nat.shiftLeft_add_eq_or_of_lt (by omega), Nat.shiftLeft_eq]
    omega
  show BitVec.toNat (((((lo8 c &&& 255) <<< (0 : Int32)) ||| ((hi8 c &&& 255) <<< (8 : Int32))).toBitVec.setWidth 16).setWidth 32) = _
  rw [BitVec.toNat_setWidth, BitVec.toNat_setWidth, g]
  omega
end StrChars
namespace StrChars
open Jvm Sem ClassFile Op Lib Jvm.Stand Jvm.Free.XT Jvm.Free.ALB Jvm.Free.JM Jvm.Free
open Jvm.Lib.Cold (StaticIs)
theorem shr1 {n : Nat} (h : 2 * n < 2 ^ 31) : Int32.ofNat (2 * n) >>> ((1 : Int32) &&& 31) = Int32.ofNat n := by
  have e : ((1 : Int32) &&& 31) = 1 := by decide
  rw [e]
  apply Int32.toBitVec_inj.mp
  rw [Int32.toBitVec_shiftRight]
  have e1 : ((1 : Int32).toBitVec.smod 32) = 1#32 := by decide
  have hm : (BitVec.ofNat 32 (2 * n)).toNat = 2 * n := by rw [BitVec.toNat_ofNat, Nat.mod_eq_of_lt (by omega)]
  rw [e1, BitVec.sshiftRight_eq']
  apply BitVec.eq_of_toNat_eq
  show ((BitVec.ofNat 32 (2 * n)).sshiftRight 1).toNat = (BitVec.ofNat 32 n).toNat
  rw [BitVec.toNat_sshiftRight_of_msb_false (by rw [BitVec.msb_eq_false_iff_two_mul_lt, hm]; omega), hm, BitVec.toNat_ofNat, Nat.shiftRight_eq_div_pow]
  omega
/-- charAt's cast of a byte read back -/
def chr8 (u : Int32) : Int32 := (u &&& 255).toUInt32.toUInt16.toUInt32.toInt32
theorem chr8_lo8 {c : Int32} (h0 : ¬ c < 0) (h1 : ¬ 255 < c) : chr8 (lo8 c) = c := by
  have t : ∀ k : Fin 256, (Int32.ofNat k.val).toUInt32.toUInt16.toUInt32.toInt32 = Int32.ofNat k.val := by decide +kernel
  unfold chr8
  rw [lo8_mask h0 h1]
  rw [Int32.lt_iff_toInt_lt] at h0 h1
  have e0 : (0 : Int32).toInt = 0 := rfl
  have e1 : (255 : Int32).toInt = 255 := rfl
  obtain ⟨k, hk⟩ : ∃ k : Nat, c.toInt = k := ⟨c.toInt.toNat, by omega⟩
  have hx : c = Int32.ofNat k := Int32.toInt_inj.mp (by rw [hk, Int32.toInt_ofNat_small (by omega)])
  rw [hx]
  exact t ⟨k, by omega⟩
theorem narrow_ch {c : Int32} (h0 : ¬ c < 0) (h1 : ¬ 65535 < c) : narrow .char (.int c) = .int c := by
  have q : narrow .char (.int (pairCh (lo8 c) (hi8 c))) = .int (pairCh (lo8 c) (hi8 c)) := narrow_c _
  rwa [pair_says h0 h1] at q
/-- the array's cell V codes the n chars f 0 .. f (n - 1) by the coder cd, as the JDK does: coder 1 just where some char is above 255 -/
def Cod (cd : Int32) (n : Nat) (f : Nat → Int32) (V : Cell) : Prop := (cd = 0 ∧ V.slots.size = n ∧ ∀ j, j < n → V.slots[j]? = some (.int (lo8 (f j))) ∧ ¬ 255 < f j) ∨ (cd = 1 ∧ V.slots.size = 2 * n ∧ (∀ j, j < n → V.slots[2 * j]? = some (.int (lo8 (f j))) ∧ V.slots[2 * j + 1]? = some (.int (hi8 (f j)))) ∧ ∃ j, j < n ∧ 255 < f j)
theorem Cod.cd {cd : Int32} {n : Nat} {f : Nat → Int32} {V : Cell} (h : Cod cd n f V) : cd = 0 ∨ cd = 1 := h.imp (fun q => q.1) fun q => q.1
theorem Cod.len {cd : Int32} {n : Nat} {f : Nat → Int32} {V : Cell} (h : Cod cd n f V) (hs : V.slots.size < 2 ^ 31) : Int32.ofNat V.slots.size >>> (cd &&& 31) = Int32.ofNat n := by
  rcases h with ⟨rfl, h, -⟩ | ⟨rfl, h, -⟩
  · rw [shr0, h]
  · rw [h, shr1 (by omega)]
/-- **x is a String of the n chars f 0 .. f (n - 1)**, Latin-1 or UTF-16; its array at t has the cell V -/
def Txt (x t : Addr) (V : Cell) (cd : Int32) (n : Nat) (f : Nat → Int32) (U : State) : Prop := Exact "java/lang/String" x U ∧ Has x "java/lang/String" "value" "[B" (.ref t) U ∧ Has x "java/lang/String" "coder" "B" (.int cd) U ∧ XT.Arr .byte t V U ∧ Cod cd n f V ∧ ∀ j, j < n → ¬ f j < 0 ∧ ¬ 65535 < f j
theorem Txt.mv {x t : Addr} {V : Cell} {cd : Int32} {n : Nat} {f : Nat → Int32} {U U' : State} (h : Txt x t V cd n f U) (hal : U.vm.Alike U'.vm) (hh : U'.heap = U.heap) : Txt x t V cd n f U' := ⟨h.1.mv hal hh, h.2.1.mv hal hh, h.2.2.1.mv hal hh, h.2.2.2.1.mv hal hh, h.2.2.2.2⟩
namespace Cdr
def yN : MethodName := ⟨"java/lang/String", "coder", "()B"⟩
abbrev yB : ByteArray := jdk_42_method_152_code
theorem d0 : decode yB 0 = .ok (.getstatic 38, 3) := by decide +kernel
theorem d3 : decode yB 3 = .ok (.ifCond (.eq) 10, 3) := by decide +kernel
theorem d6 : decode yB 6 = .ok (.aload_n 0, 1) := by decide +kernel
theorem d7 : decode yB 7 = .ok (.getfield 15, 3) := by decide +kernel
theorem d10 : decode yB 10 = .ok (.goto 4, 3) := by decide +kernel
theorem d14 : decode yB 14 = .ok (.ireturn, 1) := by decide +kernel
def site : List Cond := [.fieldLink "java/lang/String" 38 "java/lang/String" "COMPACT_STRINGS" "Z", .fieldLink "java/lang/String" 15 "java/lang/String" "coder" "B"]
def tab : Cond := tabOf yN yB 1 (some .byte) site
def P (x : Addr) (cd z : Int32) (args : Array Value) (s : State) : Prop := args = #[.ref x] ∧ Has x "java/lang/String" "coder" "B" (.int cd) s ∧ (cd = 0 ∨ cd = 1) ∧ StaticIs s "java/lang/String" "COMPACT_STRINGS" "Z" (.int z) ∧ ¬ z = 0
def E (cd : Int32) (r : Option Value) (s u : State) : Prop := XT.PureE (some (.int cd)) r s u
theorem law (l : Launch) (x : Addr) (cd z : Int32) : Law l yN 1 0 0 0 yB 1 (some .byte) site (P x cd z) (E cd) [] 0 0 := by
  refine Law.of_walk (plainFor_of_name (by decide +kernel)) (by decide +kernel) (by decide +kernel) (by decide) (fun _ _ h => by rw [h.1]; rfl) (fun _ U U' hal hh h => ⟨h.1, h.2.1.mv hal hh, h.2.2.1, h.2.2.2.1.there hal hh, h.2.2.2.2⟩) (fun r U U' V V' h1 hal h2 h => XT.PureE.mv r U U' V V' h1 hal h2 h) ?_
  intro p e s m args below meth c s₁ X0 hexec hbytes hml hret hlk hnm hown hh0 W hP
  obtain ⟨rfl, hx, hc, s1, hz⟩ := hP
  have c1 : Steps p.tables e below (s₁.setTop (entryFrame m #[.ref x] 1)) (s₁.setTop (mkF m 0 #[.val (.ref x)] [])) := entry rfl
  obtain ⟨T2, X2, q2, st2⟩ := X0.sget hexec hown (wk W (.fieldLink "java/lang/String" 38 "java/lang/String" "COMPACT_STRINGS" "Z")) s1 (fun _ _ h => by rw [hh0]; exact h) (g := (mkF m 0 #[.val (.ref x)] [])) rfl (hb hbytes d0)
  have hh2 := q2.trans hh0
  have c3 : Steps p.tables e below (s₁.setTop (entryFrame m #[.ref x] 1)) (T2.setTop (mkF m 7 #[.val (.ref x)] [.ref x])) := (c1.trans (st2 _ (Steps.refl _))).trans (by
    refine XS.ifNo X2.here hexec rfl (hb hbytes d3) rfl (i0_eq_f hz) ?_
    refine XS.aloadN X2.here hexec rfl (hb hbytes d6) rfl rfl ?_
    exact Steps.refl _)
  obtain ⟨T4, X4, q4, st4⟩ := X2.hget hexec hown (wk W (.fieldLink "java/lang/String" 15 "java/lang/String" "coder" "B")) (hx.mv X2.warmed.alike hh2) (g := (mkF m 7 #[.val (.ref x)] [.ref x])) rfl (rest := []) rfl (hb hbytes d7)
  have c5 : Steps p.tables e below (s₁.setTop (entryFrame m #[.ref x] 1)) (T4.setTop (mkF m 14 #[.val (.ref x)] [.int cd])) := (c3.trans (st4 _ (Steps.refl _))).trans (by
    refine XS.goto X4.here hexec rfl (pc0 := 10) rfl (hb hbytes d10) (by decide) rfl ?_
    exact Steps.refl _)
  exact ⟨T4, some (.int cd), _, _, _, X4, rfl, rfl, rfl, (fun h => by cases h), ⟨rfl, q4.trans hh2⟩, fun fs hl => c5.trans (X4.ireturnOut hexec hret (by rcases hc with rfl | rfl <;> rfl) (Or.inr (Or.inr (Or.inl rfl))) (hb hbytes d14) hl)⟩
end Cdr
namespace Len
def yN : MethodName := ⟨"java/lang/String", "length", "()I"⟩
abbrev yB : ByteArray := jdk_42_method_54_code
theorem d0 : decode yB 0 = .ok (.aload_n 0, 1) := by decide +kernel
theorem d1 : decode yB 1 = .ok (.getfield 9, 3) := by decide +kernel
theorem d4 : decode yB 4 = .ok (.arraylength, 1) := by decide +kernel
theorem d5 : decode yB 5 = .ok (.aload_n 0, 1) := by decide +kernel
theorem d6 : decode yB 6 = .ok (.invokevirtual 335, 3) := by decide +kernel
theorem d9 : decode yB 9 = .ok (.ishr, 1) := by decide +kernel
theorem d10 : decode yB 10 = .ok (.ireturn, 1) := by decide +kernel
def site : List Cond := [.fieldLink "java/lang/String" 9 "java/lang/String" "value" "[B", Cdr.tab] ++ virtW "java/lang/String" 335 "java/lang/String" Cdr.yN Cdr.yN
def tab : Cond := tabOf yN yB 1 (some .int) site
def P (x t : Addr) (V : Cell) (cd : Int32) (n : Nat) (f : Nat → Int32) (z : Int32) (args : Array Value) (s : State) : Prop := args = #[.ref x] ∧ Txt x t V cd n f s ∧ StaticIs s "java/lang/String" "COMPACT_STRINGS" "Z" (.int z) ∧ ¬ z = 0
def E (n : Nat) (r : Option Value) (s u : State) : Prop := XT.PureE (some (.int (Int32.ofNat n))) r s u
/-- length() of a String of n chars, in either coding -/
theorem law (l : Launch) (x t : Addr) (V : Cell) (cd : Int32) (n : Nat) (f : Nat → Int32) (z : Int32) : Law l yN 1 0 1 13 yB 1 (some .int) site (P x t V cd n f z) (E n) [] 0 0 := by
  refine Law.of_walk (plainFor_of_name (by decide +kernel)) (by decide +kernel) (by decide +kernel) (by decide) (fun _ _ h => by rw [h.1]; rfl) (fun _ U U' hal hh h => ⟨h.1, h.2.1.mv hal hh, h.2.2.1.there hal hh, h.2.2.2⟩) (fun r U U' V V' h1 hal h2 h => XT.PureE.mv r U U' V V' h1 hal h2 h) ?_
  intro p e s m args below meth c s₁ X0 hexec hbytes hml hret hlk hnm hown hh0 W hP
  obtain ⟨rfl, hx, s1, hz⟩ := hP
  have v31 := hx.2.2.2.1.2.2.2
  have c1 : Steps p.tables e below (s₁.setTop (entryFrame m #[.ref x] 1)) (s₁.setTop (mkF m 1 #[.val (.ref x)] [.ref x])) := Steps.trans (entry rfl) (by
    show Steps p.tables e below (s₁.setTop (mkF m 0 #[.val (.ref x)] [])) _
    refine XS.aloadN X0.here hexec rfl (hb hbytes d0) rfl rfl ?_
    exact Steps.refl _)
  obtain ⟨T2, X2, q2, st2⟩ := X0.hget hexec hown (wk W (.fieldLink "java/lang/String" 9 "java/lang/String" "value" "[B")) (hx.mv X0.warmed.alike hh0).2.1 (g := (mkF m 1 #[.val (.ref x)] [.ref x])) rfl (rest := []) rfl (hb hbytes d1)
  have hh2 := q2.trans hh0
  have hx2 := hx.mv X2.warmed.alike hh2
  have c3 : Steps p.tables e below (s₁.setTop (entryFrame m #[.ref x] 1)) (T2.setTop (mkF m 6 #[.val (.ref x)] [.ref x, .int (Int32.ofNat V.slots.size)])) := (c1.trans (st2 _ (Steps.refl _))).trans (by
    refine X2.alen hexec hx2.2.2.2.1 rfl rfl (hb hbytes d4) ?_
    refine XS.aloadN X2.here hexec rfl (hb hbytes d5) rfl rfl ?_
    exact Steps.refl _)
  obtain ⟨v4, T4, X4, E4, g4⟩ := X2.callV hexec (Cdr.law l x cd z) hown (wks W (virtW "java/lang/String" 335 "java/lang/String" Cdr.yN Cdr.yN)) rfl (by decide) (wk W Cdr.tab) (W := 1) (Nat.le_of_ble_eq_true rfl) (Nat.le_of_ble_eq_true rfl) (Nat.le_refl _) (Nat.le_refl _) (hx2.1.fc X2.warmed.alike) hx2.1.is (g := (mkF m 6 #[.val (.ref x)] [.ref x, .int (Int32.ofNat V.slots.size)])) rfl (by rw [hml]; rfl) c3 (argsL := []) (rest := [.int (Int32.ofNat V.slots.size)]) rfl rfl (by show 2 * 0 + (1 + 0) ≤ _; decide) (hb hbytes d6) (⟨rfl, hx2.2.2.1, hx.2.2.2.2.1.cd, s1.there X2.warmed.alike hh2, hz⟩)
  obtain ⟨rfl, q4⟩ := E4
  have c5 : Steps p.tables e below (s₁.setTop (entryFrame m #[.ref x] 1)) (T4.setTop (mkF m 10 #[.val (.ref x)] [.int (Int32.ofNat V.slots.size >>> (cd &&& 31))])) := Steps.trans g4 (by
    refine ishr X4.here hexec rfl (hb hbytes d9) rfl ?_
    exact Steps.refl _)
  rw [hx.2.2.2.2.1.len v31] at c5
  exact ⟨T4, some (.int (Int32.ofNat n)), _, _, _, X4, rfl, rfl, rfl, (fun h => by cases h), ⟨rfl, q4.trans hh2⟩, fun fs hl => c5.trans (X4.ireturnOut hexec hret rfl (Or.inl rfl) (hb hbytes d10) hl)⟩
theorem pays {l : Launch} {R : Room} {p : Program} {e : Env} {below : List Frame} {s : State} {sargs : Array Value} {len W : Nat} (x t : Addr) (V : Cell) (cd : Int32) (n : Nat) (f : Nat → Int32) (z : Int32) (htab : tab.before sargs s = true) (hfr : 2 ≤ R.frames) (hlo : W + 25 ≤ R.locals) :
    Back l R p e below s sargs yN len W (fun A₁ a₁ => A₁.cells + 0 ≤ R.cells ∧ A₁.slots + 0 ≤ R.slots ∧ P x t V cd n f z a₁ A₁.U) (fun A₁ _ v₁ B₁ => E n v₁ A₁.U B₁.U ∧ B₁.locs = A₁.locs ++ [] ∧ B₁.cells = A₁.cells + 0 ∧ B₁.slots = A₁.slots + 0) :=
  (law l x t V cd n f z).pays htab hfr (by omega)
end Len
end StrChars
namespace StrChars.Road
open Jvm Sem ClassFile Op Lib Jvm.Stand Jvm.Free Jvm.Free.XT
open Jvm.Lib.Cold (StaticIs)
theorem consq {a : Array Value} {s : State} {c : Jvm.Cond} {L : List Jvm.Cond} (h0 : c.before a s = true) (h : ∀ w ∈ L, w.before a s = true) : ∀ w ∈ c :: L, w.before a s = true := fun w hw => (List.mem_cons.mp hw).elim (fun e => e ▸ h0) (h w)
/-- the words of String.length(), either coding -/
abbrev wordsLen : List Jvm.Cond := [.code Len.yN Len.yB 1 (some .int), .initialized ST, .fieldLink ST 9 ST "value" "[B", .fieldLink ST 38 ST "COMPACT_STRINGS" "Z", .fieldLink ST 15 ST "coder" "B", .code Cdr.yN Cdr.yB 1 (some .byte), .methodLink ST 335 Cdr.yN, .declares Cdr.yN, .selects ST Cdr.yN Cdr.yN, .instanceMethod Cdr.yN]
theorem tabLen_of {a : Array Value} {s : State} (h : ∀ w ∈ wordsLen, w.before a s = true) : Len.tab.before a s = true := by
  have hc : Cdr.tab.before a s = true := unparts (wk h (.code Cdr.yN Cdr.yB 1 (some .byte))) (wks h (.initialized Cdr.yN.cls :: Cdr.site))
  have q := consq hc h
  exact unparts (wk q (.code Len.yN Len.yB 1 (some .int))) (wks q (.initialized Len.yN.cls :: Len.site))
theorem movedLen {Z s : State} {a0 args : Array Value} (hZ : Z.Warmed39 s.vm) (hw : ∀ d ∈ wordsLen, d.before a0 Z = true) : ∀ d ∈ wordsLen, d.before args s = true := fun d hd => by
  have q := hw d hd
  have t : ∀ d ∈ wordsLen, d = .arrayClass .byte ∨ (d.onTables && d.keepsFace) = true := by decide +kernel
  rcases t d hd with rfl | t
  · exact RoadKit.mvA hZ q
  · exact RoadKit.mv hZ q t
/-- the bytes of the chars cs, low before high -/
def wideBytes : List Int32 → List Value
  | [] => []
  | c :: cs => .int (lo8 c) :: .int (hi8 c) :: wideBytes cs
theorem wide_lo (d : Value) : ∀ (cs : List Int32) (j : Nat), j < cs.length → (wideBytes cs).getD (2 * j) d = .int (lo8 (cs.getD j 0))
  | [], j, h => absurd h (Nat.not_lt_zero j)
  | c :: cs, 0, _ => rfl
  | c :: cs, j + 1, h => by
    have q := wide_lo d cs j (by simpa using h)
    rw [show 2 * (j + 1) = 2 * j + 1 + 1 from by omega]
    simpa [wideBytes] using q
theorem wide_hi (d : Value) : ∀ (cs : List Int32) (j : Nat), j < cs.length → (wideBytes cs).getD (2 * j + 1) d = .int (hi8 (cs.getD j 0))
  | [], j, h => absurd h (Nat.not_lt_zero j)
  | c :: cs, 0, _ => rfl
  | c :: cs, j + 1, h => by
    have q := wide_hi d cs j (by simpa using h)
    rw [show 2 * (j + 1) + 1 = 2 * j + 1 + 1 + 1 from by omega]
    simpa [wideBytes] using q
theorem low_at (d : Value) (cs : List Int32) (j : Nat) (h : j < cs.length) : (cs.map fun c => Value.int (lo8 c)).getD j d = .int (lo8 (cs.getD j 0)) := by
  simp [List.getD_eq_getElem?_getD, h]
/-- an array of N2 bytes vs codes the chars cs by the coder cd -/
def CodA (cs : List Int32) (cd N2 : Int32) (vs : List Value) : Prop := (cd = 0 ∧ N2 = Int32.ofNat cs.length ∧ vs = (cs.map fun c => Value.int (lo8 c)) ∧ ∀ c ∈ cs, ¬ 255 < c) ∨ (cd = 1 ∧ N2 = Int32.ofNat (2 * cs.length) ∧ vs = wideBytes cs ∧ ∃ c ∈ cs, 255 < c)
theorem CodA.cod {cs : List Int32} {cd N2 : Int32} {vs : List Value} {V : Cell} (h : CodA cs cd N2 vs) (hn : 2 * cs.length < 2 ^ 31) (hs : V.slots.size = N2.toNatClampNeg) (hv : RoadKit.Has V vs (.int 0)) : Cod cd cs.length (fun j => cs.getD j 0) V := by
  rcases h with ⟨rfl, rfl, rfl, h⟩ | ⟨rfl, rfl, rfl, c, hc, hw⟩
  · rw [n32 (by omega)] at hs
    exact Or.inl ⟨rfl, hs, fun j hj => ⟨by rw [hv j (by omega), low_at _ _ _ hj], by
      have e : cs.getD j 0 = cs[j] := by simp [List.getD_eq_getElem?_getD, hj]
      show ¬ 255 < cs.getD j 0
      rw [e]; exact h _ (List.getElem_mem _)⟩⟩
  · rw [n32 (by omega)] at hs
    obtain ⟨j, hj, rfl⟩ := List.getElem_of_mem hc
    exact Or.inr ⟨rfl, hs, fun j hj => ⟨by rw [hv _ (by omega), wide_lo _ _ _ hj], by rw [hv _ (by omega), wide_hi _ _ _ hj]⟩, j, hj, by
      have e : cs.getD j 0 = cs[j] := by simp [List.getD_eq_getElem?_getD, hj]
      show 255 < cs.getD j 0
      rw [e]; exact hw⟩
/-- an object of exactly java/lang/String, its two fields found: as the laws ask it -/
theorem strObj {Z U : State} {a0 : Array Value} {kI : Nat} (wi : (Jvm.Cond.instantiable ST kI).before a0 Z = true) (al : Z.vm.Alike U.vm) {x : Addr} {v0 c0 : Value} (E : RoadKit.Exa Z U.heap x ST) (V : RoadKit.Fld Z U.heap x ST "value" "[B" v0) (C : RoadKit.Fld Z U.heap x ST "coder" "B" c0) :
    ∃ (D : Cell) (fV fC : Field), Blank ST x D U ∧ Found ST "value" "[B" fV U ∧ Found ST "coder" "B" fC U ∧ D.slots[fV.slot]? = some v0 ∧ D.slots[fC.slot]? = some c0 ∧ RoadKit.slotOf Z ST "value" "[B" = fV.slot ∧ RoadKit.slotOf Z ST "coder" "B" = fC.slot := by
  obtain ⟨D, cfV, kV, iV, fV, hD, gV, stV, knV, obV, asV, slV⟩ := V
  obtain ⟨D', cfC, kC, iC, fC, hD', gC, stC, -, -, asC, slC⟩ := C
  cases hD.symm.trans hD'
  obtain ⟨D2, kD, e1, e2, e3, e4, e5⟩ := E
  cases hD.symm.trans e1
  obtain ⟨c2, k2, i1, i2, i3, -⟩ := Cond.instantiable_spec wi
  cases e2.symm.trans i1
  cases e3.symm.trans i2
  obtain ⟨kU, u1, u2⟩ := al.2.2 _ _ e3
  exact ⟨D, fV, fC, ⟨hD, ⟨knV, fun q hq => by rw [hq] at obV; cases obV⟩, by rw [al.findClass]; exact e2, kU, u1, by rw [u2]; exact i3, by rw [u2]; exact e5 i3⟩, ⟨SBG.found_only al ⟨cfV, kV, iV, gV⟩, stV⟩, ⟨SBG.found_only al ⟨cfC, kC, iC, gC⟩, stC⟩, slV, slC, by simp [RoadKit.slotOf, gV], by simp [RoadKit.slotOf, gC]⟩
theorem sta_is {Z U : State} (al : Z.vm.Alike U.vm) {C n d : String} {v : Value} (S : RoadKit.Sta Z U.heap C n d v) : StaticIs U C n d v := by
  obtain ⟨cfS, iS, kS, fS, st, cS, t1, t2, t3, t4, t5, t6, t7⟩ := S
  exact StaticIs.there (s := { Z with heap := U.heap }) ⟨cfS, iS, kS, fS, st, cS, t1, t2, t3, t4, t5, (fun q => by rw [q] at t6; cases t6), t7⟩ al rfl
/-- **length() OF SUCH A STRING** -/
theorem lenW {p : Program} {l : Launch} {e : Env} {R : Room} {s : State} {args : Array Value} {below : List Frame} {len W : Nat} {Z : State} {a0 : Array Value} {h : Heap} (hZ : Z.Warmed39 s.vm) (hw : ∀ d ∈ wordsLen, d.before a0 Z = true) {kI : Nat} (wi : (Jvm.Cond.instantiable ST kI).before a0 Z = true)
    {x t : Addr} {kb : ClassId} {cs : List Int32} {cd N2 z : Int32} {vs : List Value} (E : RoadKit.Exa Z h x ST) (V : RoadKit.Fld Z h x ST "value" "[B" (.ref t)) (C : RoadKit.Fld Z h x ST "coder" "B" (.int cd)) (K : RoadKit.Arv Z h t kb .byte N2 vs (.int 0)) (hc : CodA cs cd N2 vs) (hb : ∀ c ∈ cs, ¬ c < 0 ∧ ¬ (65535 : Int32) < c)
    (S : RoadKit.Sta Z h ST "COMPACT_STRINGS" "Z" (.int z)) (hz : ¬ z = 0) (l2 : cs.length ≤ 4000) (hfr : 2 ≤ R.frames) (hlo : W + 25 ≤ R.locals) :
    Back l R p e below s args (⟨"java/lang/String", "length", "()I"⟩ : MethodName) len W (fun P a => a = #[.ref x] ∧ P.U.heap = h ∧ P.cells + 0 ≤ R.cells ∧ P.slots + 0 ≤ R.slots)
      (fun P _ v B => ∃ L, (v = some (.int (Int32.ofNat cs.length)) ∧ L = [] ∧ B.U.heap = h) ∧ B.locs = P.locs ++ L ∧ B.cells = P.cells + 0 ∧ B.slots = P.slots + 0) := by
  obtain ⟨A, K1, K2, K3, K4, K5, K6⟩ := K
  have hcod := hc.cod (by omega) K3 K5
  intro m meth c P g ig mk a X hg hsize hdg hW hn hp'
  obtain ⟨rfl, rfl, r1, r2⟩ := hp'
  have al : Z.vm.Alike P.U.vm := hZ.alike.trans X.warmed.alike
  obtain ⟨D, fV, fC, hB, F1, F2, g1, g2, -, -⟩ := strObj wi al E V C
  have hx : Txt x t A cd cs.length (fun j => cs.getD j 0) P.U := ⟨⟨_, hB.2.2.1, D, hB.1, rfl, by cases q : D.vm <;> first | rfl | exact absurd q (hB.2.1.2 _)⟩, Has.of hB F1 g1, Has.of hB F2 g2, ⟨K1.1, State.isArrayOf_alike al K1.2.1, K1.2.2, by rcases hcod with ⟨-, q, -⟩ | ⟨-, q, -⟩ <;> omega⟩, hcod, fun j hj => by
    have e : cs.getD j 0 = cs[j] := by simp [List.getD_eq_getElem?_getD, hj]
    show ¬ cs.getD j 0 < 0 ∧ ¬ 65535 < cs.getD j 0
    rw [e]; exact hb _ (List.getElem_mem _)⟩
  obtain ⟨v, B, X', ⟨⟨hv, hh⟩, hl, hk, hs⟩, st⟩ := Len.pays x t A cd cs.length (fun j => cs.getD j 0) z (tabLen_of (movedLen hZ hw)) hfr hlo m meth c P g ig mk _ X hg hsize hdg hW hn ⟨r1, r2, rfl, hx, sta_is al S, hz⟩
  exact ⟨v, B, X', ⟨[], ⟨hv, rfl, hh⟩, hl, hk, hs⟩, st⟩
end StrChars.Road
namespace StrChars
open Jvm Sem ClassFile Op Lib Jvm.Stand Jvm.Free.XT Jvm.Free.ALB Jvm.Free.JM Jvm.Free
open Jvm.Lib.Cold (StaticIs)
namespace Emp
def yN : MethodName := ⟨"java/lang/String", "isEmpty", "()Z"⟩
abbrev yB : ByteArray := jdk_42_method_55_code
theorem d0 : decode yB 0 = .ok (.aload_n 0, 1) := by decide +kernel
theorem d1 : decode yB 1 = .ok (.getfield 9, 3) := by decide +kernel
theorem d4 : decode yB 4 = .ok (.arraylength, 1) := by decide +kernel
theorem d5 : decode yB 5 = .ok (.ifCond (.ne) 7, 3) := by decide +kernel
theorem d8 : decode yB 8 = .ok (.iconst 1, 1) := by decide +kernel
theorem d9 : decode yB 9 = .ok (.goto 4, 3) := by decide +kernel
theorem d12 : decode yB 12 = .ok (.iconst 0, 1) := by decide +kernel
theorem d13 : decode yB 13 = .ok (.ireturn, 1) := by decide +kernel
def site : List Cond := [.fieldLink "java/lang/String" 9 "java/lang/String" "value" "[B"]
def tab : Cond := tabOf yN yB 1 (some .boolean) site
def P (x t : Addr) (V : Cell) (cd : Int32) (n : Nat) (f : Nat → Int32) (args : Array Value) (s : State) : Prop := args = #[.ref x] ∧ Txt x t V cd n f s
def E (n : Nat) (r : Option Value) (s u : State) : Prop := XT.PureE (some (.int (if n = 0 then 1 else 0))) r s u
/-- isEmpty() of a String of n chars -/
theorem law (l : Launch) (x t : Addr) (V : Cell) (cd : Int32) (n : Nat) (f : Nat → Int32) : Law l yN 1 0 0 0 yB 1 (some .boolean) site (P x t V cd n f) (E n) [] 0 0 := by
  refine Law.of_walk (plainFor_of_name (by decide +kernel)) (by decide +kernel) (by decide +kernel) (by decide) (fun _ _ h => by rw [h.1]; rfl) (fun _ U U' hal hh h => ⟨h.1, h.2.mv hal hh⟩) (fun r U U' V V' h1 hal h2 h => XT.PureE.mv r U U' V V' h1 hal h2 h) ?_
  intro p e s m args below meth c s₁ X0 hexec hbytes hml hret hlk hnm hown hh0 W hP
  obtain ⟨rfl, hx⟩ := hP
  have v31 := hx.2.2.2.1.2.2.2
  have c1 : Steps p.tables e below (s₁.setTop (entryFrame m #[.ref x] 1)) (s₁.setTop (mkF m 1 #[.val (.ref x)] [.ref x])) := Steps.trans (entry rfl) (by
    show Steps p.tables e below (s₁.setTop (mkF m 0 #[.val (.ref x)] [])) _
    refine XS.aloadN X0.here hexec rfl (hb hbytes d0) rfl rfl ?_
    exact Steps.refl _)
  obtain ⟨T2, X2, q2, st2⟩ := X0.hget hexec hown (wk W (.fieldLink "java/lang/String" 9 "java/lang/String" "value" "[B")) (hx.mv X0.warmed.alike hh0).2.1 (g := (mkF m 1 #[.val (.ref x)] [.ref x])) rfl (rest := []) rfl (hb hbytes d1)
  have hh2 := q2.trans hh0
  have hx2 := hx.mv X2.warmed.alike hh2
  have c3 : Steps p.tables e below (s₁.setTop (entryFrame m #[.ref x] 1)) (T2.setTop (mkF m 5 #[.val (.ref x)] [.int (Int32.ofNat V.slots.size)])) := (c1.trans (st2 _ (Steps.refl _))).trans (by
    refine X2.alen hexec hx2.2.2.2.1 rfl rfl (hb hbytes d4) ?_
    exact Steps.refl _)
  have hz : V.slots.size = 0 ↔ n = 0 := by
    rcases hx.2.2.2.2.1 with ⟨-, q, -⟩ | ⟨-, q, -⟩ <;> omega
  by_cases h0 : n = 0
  · have c4 : Steps p.tables e below (s₁.setTop (entryFrame m #[.ref x] 1)) (T2.setTop (mkF m 13 #[.val (.ref x)] [.int 1])) := c3.trans (by
      refine XS.ifNo X2.here hexec rfl (hb hbytes d5) rfl (i0_ne_f (by rw [hz.mpr h0]; rfl)) ?_
      refine iconstV X2.here hexec rfl 1 (hb hbytes d8) (by decide) ?_
      refine XS.goto X2.here hexec rfl (pc0 := 9) rfl (hb hbytes d9) (by decide) rfl ?_
      exact Steps.refl _)
    exact ⟨T2, some (.int 1), _, _, _, X2, rfl, rfl, rfl, (fun h => by cases h), ⟨by rw [if_pos h0], hh2⟩, fun fs hl => c4.trans (X2.ireturnOut hexec hret rfl (Or.inr (Or.inl rfl)) (hb hbytes d13) hl)⟩
  · have c4 : Steps p.tables e below (s₁.setTop (entryFrame m #[.ref x] 1)) (T2.setTop (mkF m 13 #[.val (.ref x)] [.int 0])) := c3.trans (by
      refine XS.ifYes X2.here hexec rfl (pc0 := 5) rfl (hb hbytes d5) rfl (i0_ne_t (nz32 v31 (by omega))) (by decide) rfl ?_
      refine iconstV X2.here hexec rfl 0 (hb hbytes d12) (by decide) ?_
      exact Steps.refl _)
    exact ⟨T2, some (.int 0), _, _, _, X2, rfl, rfl, rfl, (fun h => by cases h), ⟨by rw [if_neg h0], hh2⟩, fun fs hl => c4.trans (X2.ireturnOut hexec hret rfl (Or.inr (Or.inl rfl)) (hb hbytes d13) hl)⟩
theorem pays {l : Launch} {R : Room} {p : Program} {e : Env} {below : List Frame} {s : State} {sargs : Array Value} {len W : Nat} (x t : Addr) (V : Cell) (cd : Int32) (n : Nat) (f : Nat → Int32) (htab : tab.before sargs s = true) (hfr : 1 ≤ R.frames) (hlo : W + 12 ≤ R.locals) :
    Back l R p e below s sargs yN len W (fun A₁ a₁ => A₁.cells + 0 ≤ R.cells ∧ A₁.slots + 0 ≤ R.slots ∧ P x t V cd n f a₁ A₁.U) (fun A₁ _ v₁ B₁ => E n v₁ A₁.U B₁.U ∧ B₁.locs = A₁.locs ++ [] ∧ B₁.cells = A₁.cells + 0 ∧ B₁.slots = A₁.slots + 0) :=
  (law l x t V cd n f).pays htab hfr (by omega)
end Emp
end StrChars
namespace StrChars.Road
open Jvm Sem ClassFile Op Lib Jvm.Stand Jvm.Free Jvm.Free.XT
open Jvm.Lib.Cold (StaticIs)
/-- the words of String.isEmpty() -/
abbrev wordsEmp : List Jvm.Cond := [.code Emp.yN Emp.yB 1 (some .boolean), .initialized ST, .fieldLink ST 9 ST "value" "[B"]
theorem tabEmp_of {a : Array Value} {s : State} (h : ∀ w ∈ wordsEmp, w.before a s = true) : Emp.tab.before a s = true := unparts (wk h (.code Emp.yN Emp.yB 1 (some .boolean))) (wks h (.initialized Emp.yN.cls :: Emp.site))
theorem movedEmp {Z s : State} {a0 args : Array Value} (hZ : Z.Warmed39 s.vm) (hw : ∀ d ∈ wordsEmp, d.before a0 Z = true) : ∀ d ∈ wordsEmp, d.before args s = true := fun d hd => by
  have t : ∀ d ∈ wordsEmp, (d.onTables && d.keepsFace) = true := by decide +kernel
  exact RoadKit.mv hZ (hw d hd) (t d hd)
/-- the road's facts of a String, as the laws ask it -/
theorem txt_of {Z U : State} {a0 : Array Value} {kI : Nat} (wi : (Jvm.Cond.instantiable ST kI).before a0 Z = true) (al : Z.vm.Alike U.vm) {x t : Addr} {kb : ClassId} {cs : List Int32} {cd N2 : Int32} {vs : List Value} (E : RoadKit.Exa Z U.heap x ST) (V : RoadKit.Fld Z U.heap x ST "value" "[B" (.ref t)) (C : RoadKit.Fld Z U.heap x ST "coder" "B" (.int cd)) (K : RoadKit.Arv Z U.heap t kb .byte N2 vs (.int 0)) (hc : CodA cs cd N2 vs) (hb : ∀ c ∈ cs, ¬ c < 0 ∧ ¬ (65535 : Int32) < c) (l2 : cs.length ≤ 4000) :
    ∃ A, Txt x t A cd cs.length (fun j => cs.getD j 0) U := by
  obtain ⟨A, K1, K2, K3, K4, K5, K6⟩ := K
  have hcod := hc.cod (by omega) K3 K5
  obtain ⟨D, fV, fC, hB, F1, F2, g1, g2, -, -⟩ := strObj wi al E V C
  exact ⟨A, ⟨_, hB.2.2.1, D, hB.1, rfl, by cases q : D.vm <;> first | rfl | exact absurd q (hB.2.1.2 _)⟩, Has.of hB F1 g1, Has.of hB F2 g2, ⟨K1.1, State.isArrayOf_alike al K1.2.1, K1.2.2, by rcases hcod with ⟨-, q, -⟩ | ⟨-, q, -⟩ <;> omega⟩, hcod, fun j hj => by
    have e : cs.getD j 0 = cs[j] := by simp [List.getD_eq_getElem?_getD, hj]
    show ¬ cs.getD j 0 < 0 ∧ ¬ 65535 < cs.getD j 0
    rw [e]; exact hb _ (List.getElem_mem _)⟩
/-- **isEmpty() OF SUCH A STRING** -/
theorem empW {p : Program} {l : Launch} {e : Env} {R : Room} {s : State} {args : Array Value} {below : List Frame} {len W : Nat} {Z : State} {a0 : Array Value} {h : Heap} (hZ : Z.Warmed39 s.vm) (hw : ∀ d ∈ wordsEmp, d.before a0 Z = true) {kI : Nat} (wi : (Jvm.Cond.instantiable ST kI).before a0 Z = true)
    {x t : Addr} {kb : ClassId} {cs : List Int32} {cd N2 : Int32} {vs : List Value} (E : RoadKit.Exa Z h x ST) (V : RoadKit.Fld Z h x ST "value" "[B" (.ref t)) (C : RoadKit.Fld Z h x ST "coder" "B" (.int cd)) (K : RoadKit.Arv Z h t kb .byte N2 vs (.int 0)) (hc : CodA cs cd N2 vs) (hb : ∀ c ∈ cs, ¬ c < 0 ∧ ¬ (65535 : Int32) < c) (l2 : cs.length ≤ 4000) (hfr : 1 ≤ R.frames) (hlo : W + 12 ≤ R.locals) :
    Back l R p e below s args (⟨"java/lang/String", "isEmpty", "()Z"⟩ : MethodName) len W (fun P a => a = #[.ref x] ∧ P.U.heap = h ∧ P.cells + 0 ≤ R.cells ∧ P.slots + 0 ≤ R.slots)
      (fun P _ v B => ∃ L, (v = some (.int (if cs.length = 0 then 1 else 0)) ∧ L = [] ∧ B.U.heap = h) ∧ B.locs = P.locs ++ L ∧ B.cells = P.cells + 0 ∧ B.slots = P.slots + 0) := by
  intro m meth c P g ig mk a X hg hsize hdg hW hn hp'
  obtain ⟨rfl, rfl, r1, r2⟩ := hp'
  have al : Z.vm.Alike P.U.vm := hZ.alike.trans X.warmed.alike
  obtain ⟨A, hx⟩ := txt_of wi al E V C K hc hb l2
  obtain ⟨v, B, X', ⟨⟨hv, hh⟩, hl, hk, hs⟩, st⟩ := Emp.pays x t A cd cs.length (fun j => cs.getD j 0) (tabEmp_of (movedEmp hZ hw)) hfr hlo m meth c P g ig mk _ X hg hsize hdg hW hn ⟨r1, r2, rfl, hx⟩
  exact ⟨v, B, X', ⟨[], ⟨hv, rfl, hh⟩, hl, hk, hs⟩, st⟩
end StrChars.Road
end Jvm.Pilot.@@N@@
namespace Jvm.Pilot.@@N@@
open Jvm Jvm.ClassFile Sem Op Lib Jvm.Free Jvm.Free.XT Jvm.Stand Jvm.LawKit Jvm.RoadKit Jvm.OwnKit Bundle Jvm.Pilot.@@N@@.Jvm.D
abbrev own_lo (c : Int32) : Int32 := StrChars.lo8 c
theorem own_sm {i n : Nat} (h : i < n) (hn : n ≤ 4000) : Int32.ofNat i < Int32.ofNat n := by
  rw [Int32.lt_iff_toInt_lt, Int32.toInt_ofNat_small (by omega), Int32.toInt_ofNat_small (by omega)]; omega
theorem own_nn (n : Nat) (hn : n ≤ 4000) : ¬ Int32.ofNat n < 0 := by
  rw [Int32.lt_iff_toInt_lt, Int32.toInt_ofNat_small (by omega)]
  have z : (0 : Int32).toInt = 0 := by decide
  omega
theorem own_irr (n : Nat) : ¬ Int32.ofNat n < Int32.ofNat n := by rw [Int32.lt_iff_toInt_lt]; omega
theorem own_in {i n : Nat} (h : i < n) (hn : n ≤ 4000) : ¬ Int32.ofNat i < 0 ∧ Int32.ofNat i < Int32.ofNat n := ⟨own_nn i (by omega), own_sm h hn⟩
theorem own_cl (n : Nat) (hn : n ≤ 4000) : (Int32.ofNat n).toNatClampNeg = n := by
  show (Int32.ofNat n).toInt.toNat = n
  rw [Int32.toInt_ofNat_small (by omega)]; rfl
theorem own_inc (i : Nat) : Int32.ofNat i + (1 : Int32) = Int32.ofNat (i + 1) := by rw [Int32.ofNat_add]; rfl
theorem own_inj {i n : Nat} (h : i < n) (hn : n ≤ 4000) : ¬ Int32.ofNat i = Int32.ofNat n := fun e => by
  have := congrArg Int32.toInt e
  rw [Int32.toInt_ofNat_small (by omega), Int32.toInt_ofNat_small (by omega)] at this; omega
theorem own_getD {cs : List Int32} {i : Nat} (h : i < cs.length) (hn : cs.length ≤ 4000) (d : Value) : (cs.map Value.int).getD (Int32.ofNat i).toNatClampNeg d = .int (cs.getD i 0) := by
  rw [own_cl i (by omega)]; simp [List.getD_eq_getElem?_getD, h]
theorem own_shl1 (n : Nat) (hn : n ≤ 8) : Int32.ofNat n <<< ((1 : Int32) &&& 31) = Int32.ofNat (2 * n) := (by decide : ∀ k : Fin 9, Int32.ofNat k.1 <<< ((1 : Int32) &&& 31) = Int32.ofNat (2 * k.1)) ⟨n, by omega⟩
theorem own_cod (n : Nat) (h0 : 0 < n) (hn : n ≤ 8) : ((Int32.ofNat n - Int32.ofNat (2 * n)).toUInt32 >>> ((31 : Int32) &&& 31).toUInt32).toInt32.toInt8.toInt32 = 1 := (by decide : ∀ k : Fin 8, ((Int32.ofNat (k.1 + 1) - Int32.ofNat (2 * (k.1 + 1))).toUInt32 >>> ((31 : Int32) &&& 31).toUInt32).toInt32.toInt8.toInt32 = 1) ⟨n - 1, by omega⟩ |> fun q => by
  have e : n - 1 + 1 = n := by omega
  simpa [e] using q
theorem own_shr0 (c : Int32) : c >>> ((0 : Int32) &&& 31) = c := by
  apply Int32.toInt_inj.mp
  rw [c_ishr c 0 0 (by decide)]; simp
theorem own_nb (y : Int32) : nar .byte (y.toInt8.toInt32) = StrChars.lo8 y := by
  show y.toInt8.toInt32.toInt8.toInt32 = y.toInt8.toInt32
  simp
theorem own_nb0 (c : Int32) : nar .byte ((c >>> ((0 : Int32) &&& 31)).toInt8.toInt32) = StrChars.lo8 c := by rw [own_shr0]; exact own_nb c
theorem own_chr {c : Int32} (h0 : ¬ c < 0) (h1 : ¬ (65535 : Int32) < c) : (((StrChars.lo8 c &&& (255 : Int32)) <<< ((0 : Int32) &&& 31)) ||| ((StrChars.hi8 c &&& (255 : Int32)) <<< ((8 : Int32) &&& 31))).toUInt32.toUInt16.toUInt32.toInt32 = c := by
  have z : (0 : Int32).toInt = 0 := by decide
  have m : (65535 : Int32).toInt = 65535 := by decide
  rw [Int32.lt_iff_toInt_lt] at h0 h1
  have a1 := c_mask (StrChars.lo8 c) 255 8 (by decide) (by decide)
  have a2 := c_mask (StrChars.hi8 c) 255 8 (by decide) (by decide)
  have b1 := c_i2b c
  have b2 := c_i2b (c >>> ((8 : Int32) &&& 31))
  have b3 := c_ishr c 8 8 (by decide)
  have s1 := c_ishl (StrChars.lo8 c &&& 255) 0 0 (by decide)
  have s2 := c_ishl (StrChars.hi8 c &&& 255) 8 8 (by decide)
  have r1 := rng32 ((StrChars.lo8 c &&& 255) <<< ((0 : Int32) &&& 31))
  have r2 := rng32 ((StrChars.hi8 c &&& 255) <<< ((8 : Int32) &&& 31))
  have e1 : (StrChars.lo8 c).toInt = c.toInt8.toInt32.toInt := rfl
  have e2 : (StrChars.hi8 c).toInt = (c >>> ((8 : Int32) &&& 31)).toInt8.toInt32.toInt := rfl
  generalize hA : (StrChars.lo8 c &&& (255 : Int32)) <<< ((0 : Int32) &&& 31) = A at s1 r1 ⊢
  generalize hB : (StrChars.hi8 c &&& (255 : Int32)) <<< ((8 : Int32) &&& 31) = Bb at s2 r2 ⊢
  have o := c_or' A Bb 8 (by decide) 256 (by decide)
  have i := c_i2c (A ||| Bb)
  have rr := rng32 (A ||| Bb)
  apply Int32.toInt_inj.mp
  omega
theorem own_wlen : ∀ cs : List Int32, (StrChars.Road.wideBytes cs).length = 2 * cs.length
  | [] => rfl
  | c :: cs => by simp only [StrChars.Road.wideBytes, List.length_cons, own_wlen cs]; omega
theorem own_wapp : ∀ (cs ds : List Int32), StrChars.Road.wideBytes (cs ++ ds) = StrChars.Road.wideBytes cs ++ StrChars.Road.wideBytes ds
  | [], _ => rfl
  | c :: cs, ds => by simp only [List.cons_append, StrChars.Road.wideBytes, own_wapp cs ds]
theorem own_set2 (vs : List Value) (a b u v : Value) : ((vs ++ [a, b]).set vs.length u).set (vs.length + 1) v = vs ++ [u, v] := by
  rw [List.set_append_right _ _ (Nat.le_refl _), List.set_append_right _ _ (by omega)]
  simp
theorem own_take {cs : List Int32} {i : Nat} (h : i < cs.length) : cs.take (i + 1) = cs.take i ++ [cs.getD i 0] := by
  rw [List.take_add_one]; simp [List.getD_eq_getElem?_getD, h]
def own_Str (Z : State) (a0 : Array Value) (h : Heap) (x t : Addr) (cs : List Int32) : Prop := ∃ (kb : ClassId) (cd N2 : Int32) (vs : List Value), Ob Z a0 h x "java/lang/String" [("java/lang/String", "value", "[B", (.ref t)), ("java/lang/String", "coder", "B", (.int cd))] ∧ Arv Z h t kb .byte N2 vs (.int 0) ∧ StrChars.Road.CodA cs cd N2 vs ∧ (∀ c ∈ cs, ¬ c < 0 ∧ ¬ (65535 : Int32) < c) ∧ cs.length ≤ 4000
theorem own_Str.ext {Z : State} {a0 : Array Value} {h h' : Heap} {x t : Addr} {cs : List Int32} (G : own_Str Z a0 h x t cs) (E : Ext h h') : own_Str Z a0 h' x t cs := by obtain ⟨kb, cd, N2, vs, O, V, r⟩ := G; exact ⟨kb, cd, N2, vs, O.ext E, V.ext E, r⟩
theorem own_Str.keep {Z : State} {a0 : Array Value} {h h' : Heap} {x t : Addr} {cs : List Int32} {ws : List Addr} (G : own_Str Z a0 h x t cs) (K : Keep h h' ws) (q : x ∉ ws) (r : t ∉ ws) : own_Str Z a0 h' x t cs := by obtain ⟨kb, cd, N2, vs, O, V, z⟩ := G; exact ⟨kb, cd, N2, vs, O.keep K q, V.keep K r, z⟩
theorem own_Str.lt {Z : State} {a0 : Array Value} {h : Heap} {x t : Addr} {cs : List Int32} (G : own_Str Z a0 h x t cs) : x < h.size ∧ t < h.size := by obtain ⟨kb, cd, N2, vs, O, V, z⟩ := G; exact ⟨O.lt, V.lt⟩
theorem e_n4_d0 : decode jdk_42_method_149_code 0 = .ok (.aload_n 0, 1) := by decide +kernel
theorem e_n4_d1 : decode jdk_42_method_149_code 1 = .ok (.invokespecial 1, 3) := by decide +kernel
theorem e_n4_d4 : decode jdk_42_method_149_code 4 = .ok (.iload_n 3, 1) := by decide +kernel
theorem e_n4_d5 : decode jdk_42_method_149_code 5 = .ok (.ifCond .ne 22, 3) := by decide +kernel
theorem e_n4_d8 : decode jdk_42_method_149_code 8 = .ok (.aload_n 0, 1) := by decide +kernel
theorem e_n4_d9 : decode jdk_42_method_149_code 9 = .ok (.ldc 7, 2) := by decide +kernel
theorem e_n4_d11 : decode jdk_42_method_149_code 11 = .ok (.getfield 9, 3) := by decide +kernel
theorem e_n4_d14 : decode jdk_42_method_149_code 14 = .ok (.putfield 9, 3) := by decide +kernel
theorem e_n4_d17 : decode jdk_42_method_149_code 17 = .ok (.aload_n 0, 1) := by decide +kernel
theorem e_n4_d18 : decode jdk_42_method_149_code 18 = .ok (.ldc 7, 2) := by decide +kernel
theorem e_n4_d20 : decode jdk_42_method_149_code 20 = .ok (.getfield 15, 3) := by decide +kernel
theorem e_n4_d23 : decode jdk_42_method_149_code 23 = .ok (.putfield 15, 3) := by decide +kernel
theorem e_n4_d26 : decode jdk_42_method_149_code 26 = .ok (.return_, 1) := by decide +kernel
theorem e_n4_ef (m : MethodId) (x b : Addr) : entryFrame m #[(.ref x), (.ref b), (.int 0), (.int 0), (.null)] 6 = mkF m 0 #[.val (.ref x), .val (.ref b), .val (.int 0), .val (.int 0), .val (.null), .unset] [] := by first | (simp [entryFrame, mkF, argsToLocals, Value.category]; done) | rfl
theorem e_n4_pn : plainFor (⟨"java/lang/String", "<init>", "([CIILjava/lang/Void;)V"⟩ : MethodName) = true := by first | exact plainFor_of_name (by first | (simp [plainName, overriddenIn]; done) | decide +kernel) | decide +kernel
set_option maxRecDepth 65536 in
set_option maxHeartbeats 40000000 in
theorem e_n4 (l : Launch) (Z : State) (a0 : Array Value) (EL : List (String × Nat)) (hw : ∀ d ∈ tables_1, d.before a0 Z = true) (hEW : EW Z a0 EL) (h : Heap) (hS : ∀ d ∈ Bundle.stringAtoms, d.before a0 Z = true) (hmem : ("java/lang/String", 7) ∈ EL) (x b : Addr) (v0 c0 : Value) (O : Ob Z a0 h x "java/lang/String" [("java/lang/String", "value", "[B", v0), ("java/lang/String", "coder", "B", c0)]) :
    Con l Z EL (⟨"java/lang/String", "<init>", "([CIILjava/lang/Void;)V"⟩ : MethodName) jdk_42_method_149_code 6 none ({ frames := 1, cells := 4, slots := 8, locals := 12 } : Room) #[(.ref x), (.ref b), (.int 0), (.int 0), (.null)] h [x] (fun v h' nw => v = none ∧ nw = [] ∧ Keep h h' [x] ∧ ∃ t kb, t ≠ x ∧ Ob Z a0 h' x "java/lang/String" [("java/lang/String", "value", "[B", (.ref t)), ("java/lang/String", "coder", "B", (.int 0))] ∧ Arv Z h' t kb .byte 0 [] (.int 0)) := by
  refine Con.of e_n4_pn hEW ?_
  intro p e s m below meth c T F B hF hby hml hr hlk hnm S
  rw [e_n4_ef]
  have KK := Keep.refl h [x]
  show F T (mkF m 0 #[.val (.ref x), .val (.ref b), .val (.int 0), .val (.int 0), .val (.null), .unset] [])
  refine B (fun tgt kt => XS.aloadN S.here S.hx rfl (hb hby e_n4_d0) rfl rfl kt) ?_
  show F T (mkF m 1 #[.val (.ref x), .val (.ref b), .val (.int 0), .val (.int 0), .val (.null), .unset] [(.ref x)])
  refine Sp.initO B S (hw _ (List.mem_of_getElem? (i := 12) rfl)) (hw _ (List.mem_of_getElem? (i := 13) rfl)) (hw _ (List.mem_of_getElem? (i := 14) rfl)) (by rw [hml]; rfl) (hb hby e_n4_d1) (by decide) (W := 0) (by decide) (by decide) fun T S => ?_
  show F T (mkF m 4 #[.val (.ref x), .val (.ref b), .val (.int 0), .val (.int 0), .val (.null), .unset] [])
  refine B (fun tgt kt => XS.iloadN S.here S.hx rfl (hb hby e_n4_d4) rfl kt) ?_
  show F T (mkF m 5 #[.val (.ref x), .val (.ref b), .val (.int 0), .val (.int 0), .val (.null), .unset] [(.int 0)])
  refine B (fun tgt kt => XS.ifNo S.here S.hx rfl (hb hby e_n4_d5) rfl (i0_ne_f rfl) kt) ?_
  show F T (mkF m 8 #[.val (.ref x), .val (.ref b), .val (.int 0), .val (.int 0), .val (.null), .unset] [])
  refine B (fun tgt kt => XS.aloadN S.here S.hx rfl (hb hby e_n4_d8) rfl rfl kt) ?_
  show F T (mkF m 9 #[.val (.ref x), .val (.ref b), .val (.int 0), .val (.int 0), .val (.null), .unset] [(.ref x)])
  refine Sp.ldc B S (hw _ (List.mem_of_getElem? (i := 84) rfl)) hS hmem (vs := []) (z := 0) (by decide) (by decide) (by decide) (hb hby e_n4_d9) (nn := 0) (by decide) (by decide) (by decide) (by decide) fun T h1 q qt kqt S E Xq Cq Wq Vqt Nq => ?_
  show F T (mkF m 11 #[.val (.ref x), .val (.ref b), .val (.int 0), .val (.int 0), .val (.null), .unset] [(.ref q), (.ref x)])
  have hq : @Ne Nat x q ∧ @Ne Nat x qt := Nq x (by simp)
  replace O := O.ext E
  replace KK := KK.ext E
  refine Sp.get B S (hw _ (List.mem_of_getElem? (i := 29) rfl)) Via.refl Wq (hb hby e_n4_d11) fun T S => ?_
  show F T (mkF m 14 #[.val (.ref x), .val (.ref b), .val (.int 0), .val (.int 0), .val (.null), .unset] [(.ref qt), (.ref x)])
  refine Sp.putO B S (hw _ (List.mem_of_getElem? (i := 29) rfl)) O (i := 0) rfl (ns := ["value", "coder"]) rfl (by decide) (Or.inr ⟨(hw _ (List.mem_of_getElem? (i := 30) rfl)), rfl, hnm⟩) (hw _ (List.mem_of_getElem? (i := 3) rfl)) (ty := (.array .byte)) (by decide) (v' := .ref qt) rfl rfl (by simp) (hb hby e_n4_d14) fun T h2 S K O => ?_
  replace O : Ob Z a0 h2 x "java/lang/String" [("java/lang/String", "value", "[B", (.ref qt)), ("java/lang/String", "coder", "B", c0)] := O
  show F T (mkF m 17 #[.val (.ref x), .val (.ref b), .val (.int 0), .val (.int 0), .val (.null), .unset] [])
  replace KK := KK.trans K (qk1 (by first | (refine Or.inl ?_; simp; done) | (refine Or.inr ?_; omega)))
  replace Vqt := Vqt.keep K (nin1 (by omega))
  refine B (fun tgt kt => XS.aloadN S.here S.hx rfl (hb hby e_n4_d17) rfl rfl kt) ?_
  show F T (mkF m 18 #[.val (.ref x), .val (.ref b), .val (.int 0), .val (.int 0), .val (.null), .unset] [(.ref x)])
  refine Sp.ldc B S (hw _ (List.mem_of_getElem? (i := 84) rfl)) hS hmem (vs := []) (z := 0) (by decide) (by decide) (by decide) (hb hby e_n4_d18) (nn := 0) (by decide) (by decide) (by decide) (by decide) fun T h3 q2 q2t kq2t S E Xq2 Cq2 Wq2 Vq2t Nq2 => ?_
  show F T (mkF m 20 #[.val (.ref x), .val (.ref b), .val (.int 0), .val (.int 0), .val (.null), .unset] [(.ref q2), (.ref x)])
  replace O := O.ext E
  replace KK := KK.ext E
  replace Vqt := Vqt.ext E
  refine Sp.get B S (hw _ (List.mem_of_getElem? (i := 27) rfl)) Via.refl Cq2 (hb hby e_n4_d20) fun T S => ?_
  show F T (mkF m 23 #[.val (.ref x), .val (.ref b), .val (.int 0), .val (.int 0), .val (.null), .unset] [(.int 0), (.ref x)])
  refine Sp.putO B S (hw _ (List.mem_of_getElem? (i := 27) rfl)) O (i := 1) rfl (ns := ["value", "coder"]) rfl (by decide) (Or.inr ⟨(hw _ (List.mem_of_getElem? (i := 28) rfl)), rfl, hnm⟩) (hw _ (List.mem_of_getElem? (i := 3) rfl)) (ty := .byte) (by decide) (v' := .int 0) rfl rfl (by simp) (hb hby e_n4_d23) fun T h4 S K O => ?_
  replace O : Ob Z a0 h4 x "java/lang/String" [("java/lang/String", "value", "[B", (.ref qt)), ("java/lang/String", "coder", "B", (.int 0))] := O
  show F T (mkF m 26 #[.val (.ref x), .val (.ref b), .val (.int 0), .val (.int 0), .val (.null), .unset] [])
  replace KK := KK.trans K (qk1 (by first | (refine Or.inl ?_; simp; done) | (refine Or.inr ?_; omega)))
  replace Vqt := Vqt.keep K (nin1 (by omega))
  exact hF (S.ret hr hlk (hb hby e_n4_d26) (nw := []) ⟨rfl, rfl, KK, qt, kqt, natne (by omega), O, Vqt⟩ (by simp))
theorem e_n1_d0 : decode jdk_42_method_3_code 0 = .ok (.aload_n 0, 1) := by decide +kernel
theorem e_n1_d1 : decode jdk_42_method_3_code 1 = .ok (.aload_n 1, 1) := by decide +kernel
theorem e_n1_d2 : decode jdk_42_method_3_code 2 = .ok (.iconst 0, 1) := by decide +kernel
theorem e_n1_d3 : decode jdk_42_method_3_code 3 = .ok (.aload_n 1, 1) := by decide +kernel
theorem e_n1_d4 : decode jdk_42_method_3_code 4 = .ok (.arraylength, 1) := by decide +kernel
theorem e_n1_d5 : decode jdk_42_method_3_code 5 = .ok (.aconst_null, 1) := by decide +kernel
theorem e_n1_d6 : decode jdk_42_method_3_code 6 = .ok (.invokespecial 27, 3) := by decide +kernel
theorem e_n1_d9 : decode jdk_42_method_3_code 9 = .ok (.return_, 1) := by decide +kernel
theorem e_n1_p27 : parseMethodDescriptor "([CIILjava/lang/Void;)V" = some ⟨[(.array .char), .int, .int, (.object "java/lang/Void")], none⟩ := by decide +kernel
theorem e_n1_ef (m : MethodId) (x b : Addr) : entryFrame m #[(.ref x), (.ref b)] 2 = mkF m 0 #[.val (.ref x), .val (.ref b)] [] := by first | (simp [entryFrame, mkF, argsToLocals, Value.category]; done) | rfl
theorem e_n1_pn : plainFor (⟨"java/lang/String", "<init>", "([C)V"⟩ : MethodName) = true := by first | exact plainFor_of_name (by first | (simp [plainName, overriddenIn]; done) | decide +kernel) | decide +kernel
set_option maxRecDepth 65536 in
set_option maxHeartbeats 40000000 in
theorem e_n1 (l : Launch) (Z : State) (a0 : Array Value) (EL : List (String × Nat)) (hw : ∀ d ∈ tables_1, d.before a0 Z = true) (hEW : EW Z a0 EL) (h : Heap) (hS : ∀ d ∈ Bundle.stringAtoms, d.before a0 Z = true) (hmem : ("java/lang/String", 7) ∈ EL) (x b : Addr) (v0 c0 : Value) (O : Ob Z a0 h x "java/lang/String" [("java/lang/String", "value", "[B", v0), ("java/lang/String", "coder", "B", c0)]) (kA : ClassId) (vs : List Value) (dv : Value) (V : Arv Z h b kA .char 0 vs dv) :
    Con l Z EL (⟨"java/lang/String", "<init>", "([C)V"⟩ : MethodName) jdk_42_method_3_code 2 none ({ frames := 2, cells := 4, slots := 8, locals := 29 } : Room) #[(.ref x), (.ref b)] h [x] (fun v h' nw => v = none ∧ nw = [] ∧ Keep h h' [x] ∧ ∃ t kb, t ≠ x ∧ Ob Z a0 h' x "java/lang/String" [("java/lang/String", "value", "[B", (.ref t)), ("java/lang/String", "coder", "B", (.int 0))] ∧ Arv Z h' t kb .byte 0 [] (.int 0)) := by
  refine Con.of e_n1_pn hEW ?_
  intro p e s m below meth c T F B hF hby hml hr hlk hnm S
  rw [e_n1_ef]
  show F T (mkF m 0 #[.val (.ref x), .val (.ref b)] [])
  refine B (fun tgt kt => XS.aloadN S.here S.hx rfl (hb hby e_n1_d0) rfl rfl kt) ?_
  show F T (mkF m 1 #[.val (.ref x), .val (.ref b)] [(.ref x)])
  refine B (fun tgt kt => XS.aloadN S.here S.hx rfl (hb hby e_n1_d1) rfl rfl kt) ?_
  show F T (mkF m 2 #[.val (.ref x), .val (.ref b)] [(.ref b), (.ref x)])
  refine B (fun tgt kt => XS.iconst S.here S.hx rfl (hb hby e_n1_d2) kt) ?_
  show F T (mkF m 3 #[.val (.ref x), .val (.ref b)] [(.int (0 : Int32)), (.ref b), (.ref x)])
  refine B (fun tgt kt => XS.aloadN S.here S.hx rfl (hb hby e_n1_d3) rfl rfl kt) ?_
  show F T (mkF m 4 #[.val (.ref x), .val (.ref b)] [(.ref b), (.int (0 : Int32)), (.ref b), (.ref x)])
  refine Sp.alen B S V (hb hby e_n1_d4) ?_
  show F T (mkF m 5 #[.val (.ref x), .val (.ref b)] [(.int 0), (.int (0 : Int32)), (.ref b), (.ref x)])
  refine B (fun tgt kt => XS.aconstNull S.here S.hx rfl (hb hby e_n1_d5) kt) ?_
  show F T (mkF m 6 #[.val (.ref x), .val (.ref b)] [(.null), (.int 0), (.int (0 : Int32)), (.ref b), (.ref x)])
  refine Sp.special B S (y := (⟨"java/lang/String", "<init>", "([CIILjava/lang/Void;)V"⟩ : MethodName)) (argsL := [(.ref b), (.int (0 : Int32)), (.int 0), (.null)]) (rest := []) rfl (hw _ (List.mem_of_getElem? (i := 8) rfl)) (hw _ (List.mem_of_getElem? (i := 9) rfl)) (hw _ (List.mem_of_getElem? (i := 11) rfl)) (by decide) (Call.con (W := 0) (e_n4 l Z a0 EL hw hEW h hS hmem x b v0 c0 O) (hw _ (List.mem_of_getElem? (i := 11) rfl)) (hw _ (List.mem_of_getElem? (i := 4) rfl)) (by decide) (by decide)) (by simp) (by decide) (by decide) (by rw [hml]; rfl) (lenOf e_n1_p27 rfl) rfl (Nat.le_of_eq rfl) (hb hby e_n1_d6) fun v T h1 nw S hQ => ?_
  obtain ⟨rfl, rfl, KK, t, kb, ne, O, Vt⟩ := hQ
  show F T (mkF m 9 #[.val (.ref x), .val (.ref b)] [])
  exact hF (S.ret hr hlk (hb hby e_n1_d9) (nw := []) ⟨rfl, rfl, KK, t, kb, ne, O, Vt⟩ (by simp))
theorem u_nbl_d0 : decode jdk_52_method_3_code 0 = .ok (.iload_n 0, 1) := by decide +kernel
theorem u_nbl_d1 : decode jdk_52_method_3_code 1 = .ok (.ifCond .ge 11, 3) := by decide +kernel
theorem u_nbl_d12 : decode jdk_52_method_3_code 12 = .ok (.iload_n 0, 1) := by decide +kernel
theorem u_nbl_d13 : decode jdk_52_method_3_code 13 = .ok (.ldc 20, 2) := by decide +kernel
theorem u_nbl_d15 : decode jdk_52_method_3_code 15 = .ok (.if_icmp .lt 40, 3) := by decide +kernel
theorem u_nbl_d55 : decode jdk_52_method_3_code 55 = .ok (.iload_n 0, 1) := by decide +kernel
theorem u_nbl_d56 : decode jdk_52_method_3_code 56 = .ok (.iconst 1, 1) := by decide +kernel
theorem u_nbl_d57 : decode jdk_52_method_3_code 57 = .ok (.ishl, 1) := by decide +kernel
theorem u_nbl_d58 : decode jdk_52_method_3_code 58 = .ok (.ireturn, 1) := by decide +kernel
theorem u_nbl_ef (m : MethodId) (n : Nat) : entryFrame m #[(.int (Int32.ofNat n))] 1 = mkF m 0 #[.val (.int (Int32.ofNat n))] [] := by first | (simp [entryFrame, mkF, argsToLocals, Value.category]; done) | rfl
theorem u_nbl_pn : plainFor (⟨"java/lang/StringUTF16", "newBytesLength", "(I)I"⟩ : MethodName) = true := by first | exact plainFor_of_name (by first | (simp [plainName, overriddenIn]; done) | decide +kernel) | decide +kernel
set_option maxRecDepth 65536 in
set_option maxHeartbeats 40000000 in
theorem u_nbl (l : Launch) (Z : State) (a0 : Array Value) (EL : List (String × Nat)) (hw : ∀ d ∈ tables_1, d.before a0 Z = true) (hEW : EW Z a0 EL) (h : Heap) (n : Nat) (hn : n ≤ 8) :
    Con l Z EL (⟨"java/lang/StringUTF16", "newBytesLength", "(I)I"⟩ : MethodName) jdk_52_method_3_code 1 (some .int) ({ frames := 0, cells := 0, slots := 0, locals := 0 } : Room) #[(.int (Int32.ofNat n))] h [] (fun v h' nw => v = some (.int (Int32.ofNat (2 * n))) ∧ nw = [] ∧ h = h') := by
  refine Con.of u_nbl_pn hEW ?_
  intro p e s m below meth c T F B hF hby hml hr hlk hnm S
  rw [u_nbl_ef]
  show F T (mkF m 0 #[.val (.int (Int32.ofNat n))] [])
  refine B (fun tgt kt => XS.iloadN S.here S.hx rfl (hb hby u_nbl_d0) rfl kt) ?_
  show F T (mkF m 1 #[.val (.int (Int32.ofNat n))] [(.int (Int32.ofNat n))])
  refine B (fun tgt kt => XS.ifYes S.here S.hx rfl (pc0 := 1) (pc' := 12) rfl (hb hby u_nbl_d1) rfl (i0_ge_t (own_nn n (by omega))) (by decide) (by decide) kt) ?_
  show F T (mkF m 12 #[.val (.int (Int32.ofNat n))] [])
  refine B (fun tgt kt => XS.iloadN S.here S.hx rfl (hb hby u_nbl_d12) rfl kt) ?_
  show F T (mkF m 13 #[.val (.int (Int32.ofNat n))] [(.int (Int32.ofNat n))])
  refine Sp.ldcI B S (hw _ (List.mem_of_getElem? (i := 101) rfl)) (hb hby u_nbl_d13) ?_
  show F T (mkF m 15 #[.val (.int (Int32.ofNat n))] [(.int (1073741823 : Int32)), (.int (Int32.ofNat n))])
  refine B (fun tgt kt => XS.icmpYes S.here S.hx rfl (pc0 := 15) (pc' := 55) rfl (hb hby u_nbl_d15) rfl (ii_lt_t (Int32.lt_trans (own_sm (n := 4000) (by omega) (by omega)) (by decide))) (by decide) (by decide) kt) ?_
  show F T (mkF m 55 #[.val (.int (Int32.ofNat n))] [])
  refine B (fun tgt kt => XS.iloadN S.here S.hx rfl (hb hby u_nbl_d55) rfl kt) ?_
  show F T (mkF m 56 #[.val (.int (Int32.ofNat n))] [(.int (Int32.ofNat n))])
  refine B (fun tgt kt => XS.iconst S.here S.hx rfl (hb hby u_nbl_d56) kt) ?_
  show F T (mkF m 57 #[.val (.int (Int32.ofNat n))] [(.int (1 : Int32)), (.int (Int32.ofNat n))])
  refine B (fun tgt kt => XT.ishl S.here S.hx rfl (hb hby u_nbl_d57) rfl kt) ?_
  show F T (mkF m 58 #[.val (.int (Int32.ofNat n))] [(.int ((Int32.ofNat n) <<< ((1 : Int32) &&& 31)))])
  rw [own_shl1 n hn]
  exact hF (S.retI hr hlk (by simp) rfl (hb hby u_nbl_d58) (nw := []) ⟨rfl, rfl, rfl⟩ (by simp))
theorem u_nbf_d0 : decode jdk_52_method_2_code 0 = .ok (.iload_n 0, 1) := by decide +kernel
theorem u_nbf_d1 : decode jdk_52_method_2_code 1 = .ok (.invokestatic 11, 3) := by decide +kernel
theorem u_nbf_d4 : decode jdk_52_method_2_code 4 = .ok (.newarray .byte, 2) := by decide +kernel
theorem u_nbf_d6 : decode jdk_52_method_2_code 6 = .ok (.areturn, 1) := by decide +kernel
theorem u_nbf_p11 : parseMethodDescriptor "(I)I" = some ⟨[.int], (some .int)⟩ := by decide +kernel
theorem u_nbf_ef (m : MethodId) (n : Nat) : entryFrame m #[(.int (Int32.ofNat n))] 1 = mkF m 0 #[.val (.int (Int32.ofNat n))] [] := by first | (simp [entryFrame, mkF, argsToLocals, Value.category]; done) | rfl
theorem u_nbf_pn : plainFor (⟨"java/lang/StringUTF16", "newBytesFor", "(I)[B"⟩ : MethodName) = true := by first | exact plainFor_of_name (by first | (simp [plainName, overriddenIn]; done) | decide +kernel) | decide +kernel
set_option maxRecDepth 65536 in
set_option maxHeartbeats 40000000 in
theorem u_nbf (l : Launch) (Z : State) (a0 : Array Value) (EL : List (String × Nat)) (hw : ∀ d ∈ tables_1, d.before a0 Z = true) (hEW : EW Z a0 EL) (h : Heap) (n : Nat) (hn : n ≤ 8) :
    Con l Z EL (⟨"java/lang/StringUTF16", "newBytesFor", "(I)[B"⟩ : MethodName) jdk_52_method_2_code 1 (some (.array .byte)) ({ frames := 1, cells := 1, slots := 16, locals := 12 } : Room) #[(.int (Int32.ofNat n))] h [] (fun v h' nw => ∃ d kd, v = some (.ref d) ∧ nw = [d] ∧ h.size ≤ d ∧ Ext h h' ∧ Arv Z h' d kd .byte (Int32.ofNat (2 * n)) [] (.int 0)) := by
  refine Con.of u_nbf_pn hEW ?_
  intro p e s m below meth c T F B hF hby hml hr hlk hnm S
  rw [u_nbf_ef]
  show F T (mkF m 0 #[.val (.int (Int32.ofNat n))] [])
  refine B (fun tgt kt => XS.iloadN S.here S.hx rfl (hb hby u_nbf_d0) rfl kt) ?_
  show F T (mkF m 1 #[.val (.int (Int32.ofNat n))] [(.int (Int32.ofNat n))])
  refine Sp.static B S (y := (⟨"java/lang/StringUTF16", "newBytesLength", "(I)I"⟩ : MethodName)) (argsL := [(.int (Int32.ofNat n))]) (rest := []) (hw _ (List.mem_of_getElem? (i := 98) rfl)) (hw _ (List.mem_of_getElem? (i := 99) rfl)) (hw _ (List.mem_of_getElem? (i := 18) rfl)) (hw _ (List.mem_of_getElem? (i := 100) rfl)) (by decide) (Call.con (W := 0) (u_nbl l Z a0 EL hw hEW h n hn) (hw _ (List.mem_of_getElem? (i := 100) rfl)) (hw _ (List.mem_of_getElem? (i := 18) rfl)) (by decide) (by decide)) (by simp) (by decide) (by decide) (by rw [hml]; rfl) (lenOf u_nbf_p11 rfl) rfl (Nat.le_of_eq rfl) (hb hby u_nbf_d1) fun v T h1 nw S hQ => ?_
  obtain ⟨rfl, rfl, rfl⟩ := hQ
  show F T (mkF m 4 #[.val (.int (Int32.ofNat n))] [(.int (Int32.ofNat (2 * n)))])
  refine Sp.newP B S (cap := 16) (hw _ (List.mem_of_getElem? (i := 20) rfl)) (hb hby u_nbf_d4) (own_nn _ (by omega)) (by rw [own_cl _ (by omega)]; omega) (by decide) (by decide) (by decide) (ad := "[B") (by decide) fun T h2 d kd S E gd Xd Vd => ?_
  show F T (mkF m 6 #[.val (.int (Int32.ofNat n))] [(.ref d)])
  exact hF (S.retA hr hlk rfl rfl (hb hby u_nbf_d6) (nw := [d]) ⟨d, kd, rfl, rfl, gd, E, Vd⟩ (by simp))
theorem u_put_d0 : decode jdk_52_method_4_code 0 = .ok (.getstatic 44, 3) := by decide +kernel
theorem u_put_d3 : decode jdk_52_method_4_code 3 = .ok (.ifCond .ne 25, 3) := by decide +kernel
theorem u_put_d28 : decode jdk_52_method_4_code 28 = .ok (.iload_n 1, 1) := by decide +kernel
theorem u_put_d29 : decode jdk_52_method_4_code 29 = .ok (.iconst 1, 1) := by decide +kernel
theorem u_put_d30 : decode jdk_52_method_4_code 30 = .ok (.ishl, 1) := by decide +kernel
theorem u_put_d31 : decode jdk_52_method_4_code 31 = .ok (.istore_n 1, 1) := by decide +kernel
theorem u_put_d32 : decode jdk_52_method_4_code 32 = .ok (.aload_n 0, 1) := by decide +kernel
theorem u_put_d33 : decode jdk_52_method_4_code 33 = .ok (.iload_n 1, 1) := by decide +kernel
theorem u_put_d34 : decode jdk_52_method_4_code 34 = .ok (.iinc 1 1, 3) := by decide +kernel
theorem u_put_d37 : decode jdk_52_method_4_code 37 = .ok (.iload_n 2, 1) := by decide +kernel
theorem u_put_d38 : decode jdk_52_method_4_code 38 = .ok (.getstatic 59, 3) := by decide +kernel
theorem u_put_d41 : decode jdk_52_method_4_code 41 = .ok (.ishr, 1) := by decide +kernel
theorem u_put_d42 : decode jdk_52_method_4_code 42 = .ok (.i2b, 1) := by decide +kernel
theorem u_put_d43 : decode jdk_52_method_4_code 43 = .ok (.bastore, 1) := by decide +kernel
theorem u_put_d44 : decode jdk_52_method_4_code 44 = .ok (.aload_n 0, 1) := by decide +kernel
theorem u_put_d45 : decode jdk_52_method_4_code 45 = .ok (.iload_n 1, 1) := by decide +kernel
theorem u_put_d46 : decode jdk_52_method_4_code 46 = .ok (.iload_n 2, 1) := by decide +kernel
theorem u_put_d47 : decode jdk_52_method_4_code 47 = .ok (.getstatic 63, 3) := by decide +kernel
theorem u_put_d50 : decode jdk_52_method_4_code 50 = .ok (.ishr, 1) := by decide +kernel
theorem u_put_d51 : decode jdk_52_method_4_code 51 = .ok (.i2b, 1) := by decide +kernel
theorem u_put_d52 : decode jdk_52_method_4_code 52 = .ok (.bastore, 1) := by decide +kernel
theorem u_put_d53 : decode jdk_52_method_4_code 53 = .ok (.return_, 1) := by decide +kernel
theorem u_put_ef (m : MethodId) (d : Addr) (i : Nat) (c0 : Int32) : entryFrame m #[(.ref d), (.int (Int32.ofNat i)), (.int c0)] 3 = mkF m 0 #[.val (.ref d), .val (.int (Int32.ofNat i)), .val (.int c0)] [] := by first | (simp [entryFrame, mkF, argsToLocals, Value.category]; done) | rfl
theorem u_put_pn : plainFor (⟨"java/lang/StringUTF16", "putChar", "([BII)V"⟩ : MethodName) = true := by first | exact plainFor_of_name (by first | (simp [plainName, overriddenIn]; done) | decide +kernel) | decide +kernel
set_option maxRecDepth 65536 in
set_option maxHeartbeats 40000000 in
theorem u_put (l : Launch) (Z : State) (a0 : Array Value) (EL : List (String × Nat)) (hw : ∀ d ∈ tables_1, d.before a0 Z = true) (hEW : EW Z a0 EL) (h : Heap) (AD : Sta Z Z.heap "java/lang/StringUTF16" "$assertionsDisabled" "Z" (.int 1)) (HI : Sta Z Z.heap "java/lang/StringUTF16" "HI_BYTE_SHIFT" "I" (.int 0)) (LO : Sta Z Z.heap "java/lang/StringUTF16" "LO_BYTE_SHIFT" "I" (.int 8)) (n i : Nat) (hn : n ≤ 8) (hi : i < n) (c0 : Int32) (d : Addr) (kd : ClassId) (vs : List Value) (hl : 2 * i + 1 < vs.length) (V : Arv Z h d kd .byte (Int32.ofNat (2 * n)) vs (.int 0)) :
    Con l Z EL (⟨"java/lang/StringUTF16", "putChar", "([BII)V"⟩ : MethodName) jdk_52_method_4_code 3 none ({ frames := 0, cells := 0, slots := 0, locals := 0 } : Room) #[(.ref d), (.int (Int32.ofNat i)), (.int c0)] h [d] (fun v h' nw => v = none ∧ nw = [] ∧ Keep h h' [d] ∧ Arv Z h' d kd .byte (Int32.ofNat (2 * n)) ((vs.set (2 * i) (.int (StrChars.lo8 c0))).set (2 * i + 1) (.int (StrChars.hi8 c0))) (.int 0)) := by
  refine Con.of u_put_pn hEW ?_
  intro p e s m below meth c T F B hF hby hml hr hlk hnm S
  rw [u_put_ef]
  have KK := Keep.refl h [d]
  show F T (mkF m 0 #[.val (.ref d), .val (.int (Int32.ofNat i)), .val (.int c0)] [])
  refine Sp.getS B S (hw _ (List.mem_of_getElem? (i := 105) rfl)) Via.refl AD (hb hby u_put_d0) fun T S => ?_
  show F T (mkF m 3 #[.val (.ref d), .val (.int (Int32.ofNat i)), .val (.int c0)] [(.int 1)])
  refine B (fun tgt kt => XS.ifYes S.here S.hx rfl (pc0 := 3) (pc' := 28) rfl (hb hby u_put_d3) rfl (i0_ne_t (by decide)) (by decide) (by decide) kt) ?_
  show F T (mkF m 28 #[.val (.ref d), .val (.int (Int32.ofNat i)), .val (.int c0)] [])
  refine B (fun tgt kt => XS.iloadN S.here S.hx rfl (hb hby u_put_d28) rfl kt) ?_
  show F T (mkF m 29 #[.val (.ref d), .val (.int (Int32.ofNat i)), .val (.int c0)] [(.int (Int32.ofNat i))])
  refine B (fun tgt kt => XS.iconst S.here S.hx rfl (hb hby u_put_d29) kt) ?_
  show F T (mkF m 30 #[.val (.ref d), .val (.int (Int32.ofNat i)), .val (.int c0)] [(.int (1 : Int32)), (.int (Int32.ofNat i))])
  refine B (fun tgt kt => XT.ishl S.here S.hx rfl (hb hby u_put_d30) rfl kt) ?_
  show F T (mkF m 31 #[.val (.ref d), .val (.int (Int32.ofNat i)), .val (.int c0)] [(.int ((Int32.ofNat i) <<< ((1 : Int32) &&& 31)))])
  rw [own_shl1 i (by omega)]
  show F T (mkF m 31 #[.val (.ref d), .val (.int (Int32.ofNat i)), .val (.int c0)] [(.int (Int32.ofNat (2 * i)))])
  refine B (fun tgt kt => XS.istoreN S.here S.hx rfl (hb hby u_put_d31) rfl (l' := #[.val (.ref d), .val (.int (Int32.ofNat (2 * i))), .val (.int c0)]) rfl kt) ?_
  show F T (mkF m 32 #[.val (.ref d), .val (.int (Int32.ofNat (2 * i))), .val (.int c0)] [])
  refine B (fun tgt kt => XS.aloadN S.here S.hx rfl (hb hby u_put_d32) rfl rfl kt) ?_
  show F T (mkF m 33 #[.val (.ref d), .val (.int (Int32.ofNat (2 * i))), .val (.int c0)] [(.ref d)])
  refine B (fun tgt kt => XS.iloadN S.here S.hx rfl (hb hby u_put_d33) rfl kt) ?_
  show F T (mkF m 34 #[.val (.ref d), .val (.int (Int32.ofNat (2 * i))), .val (.int c0)] [(.int (Int32.ofNat (2 * i))), (.ref d)])
  refine B (fun tgt kt => XS.iinc S.here S.hx rfl (hb hby u_put_d34) rfl (l' := #[.val (.ref d), .val (.int ((Int32.ofNat (2 * i)) + (1 : Int32))), .val (.int c0)]) rfl kt) ?_
  show F T (mkF m 37 #[.val (.ref d), .val (.int ((Int32.ofNat (2 * i)) + (1 : Int32))), .val (.int c0)] [(.int (Int32.ofNat (2 * i))), (.ref d)])
  rw [own_inc (2 * i)]
  show F T (mkF m 37 #[.val (.ref d), .val (.int (Int32.ofNat (2 * i + 1))), .val (.int c0)] [(.int (Int32.ofNat (2 * i))), (.ref d)])
  refine B (fun tgt kt => XS.iloadN S.here S.hx rfl (hb hby u_put_d37) rfl kt) ?_
  show F T (mkF m 38 #[.val (.ref d), .val (.int (Int32.ofNat (2 * i + 1))), .val (.int c0)] [(.int c0), (.int (Int32.ofNat (2 * i))), (.ref d)])
  refine Sp.getS B S (hw _ (List.mem_of_getElem? (i := 106) rfl)) Via.refl HI (hb hby u_put_d38) fun T S => ?_
  show F T (mkF m 41 #[.val (.ref d), .val (.int (Int32.ofNat (2 * i + 1))), .val (.int c0)] [(.int (0 : Int32)), (.int c0), (.int (Int32.ofNat (2 * i))), (.ref d)])
  refine B (fun tgt kt => XT.ishr S.here S.hx rfl (hb hby u_put_d41) rfl kt) ?_
  show F T (mkF m 42 #[.val (.ref d), .val (.int (Int32.ofNat (2 * i + 1))), .val (.int c0)] [(.int (c0 >>> ((0 : Int32) &&& 31))), (.int (Int32.ofNat (2 * i))), (.ref d)])
  refine B (fun tgt kt => XT.i2b S.here S.hx rfl (hb hby u_put_d42) rfl kt) ?_
  show F T (mkF m 43 #[.val (.ref d), .val (.int (Int32.ofNat (2 * i + 1))), .val (.int c0)] [(.int (c0 >>> ((0 : Int32) &&& 31)).toInt8.toInt32), (.int (Int32.ofNat (2 * i))), (.ref d)])
  refine Sp.stB B S V (i := 2 * i) (own_in (by omega) (by omega)) (own_cl _ (by omega)) (by omega) (own_nb0 c0) (by simp) (hb hby u_put_d43) fun T h1 S W V => ?_
  replace KK := KK.wr W (Or.inl (by simp))
  show F T (mkF m 44 #[.val (.ref d), .val (.int (Int32.ofNat (2 * i + 1))), .val (.int c0)] [])
  refine B (fun tgt kt => XS.aloadN S.here S.hx rfl (hb hby u_put_d44) rfl rfl kt) ?_
  show F T (mkF m 45 #[.val (.ref d), .val (.int (Int32.ofNat (2 * i + 1))), .val (.int c0)] [(.ref d)])
  refine B (fun tgt kt => XS.iloadN S.here S.hx rfl (hb hby u_put_d45) rfl kt) ?_
  show F T (mkF m 46 #[.val (.ref d), .val (.int (Int32.ofNat (2 * i + 1))), .val (.int c0)] [(.int (Int32.ofNat (2 * i + 1))), (.ref d)])
  refine B (fun tgt kt => XS.iloadN S.here S.hx rfl (hb hby u_put_d46) rfl kt) ?_
  show F T (mkF m 47 #[.val (.ref d), .val (.int (Int32.ofNat (2 * i + 1))), .val (.int c0)] [(.int c0), (.int (Int32.ofNat (2 * i + 1))), (.ref d)])
  refine Sp.getS B S (hw _ (List.mem_of_getElem? (i := 107) rfl)) Via.refl LO (hb hby u_put_d47) fun T S => ?_
  show F T (mkF m 50 #[.val (.ref d), .val (.int (Int32.ofNat (2 * i + 1))), .val (.int c0)] [(.int (8 : Int32)), (.int c0), (.int (Int32.ofNat (2 * i + 1))), (.ref d)])
  refine B (fun tgt kt => XT.ishr S.here S.hx rfl (hb hby u_put_d50) rfl kt) ?_
  show F T (mkF m 51 #[.val (.ref d), .val (.int (Int32.ofNat (2 * i + 1))), .val (.int c0)] [(.int (c0 >>> ((8 : Int32) &&& 31))), (.int (Int32.ofNat (2 * i + 1))), (.ref d)])
  refine B (fun tgt kt => XT.i2b S.here S.hx rfl (hb hby u_put_d51) rfl kt) ?_
  show F T (mkF m 52 #[.val (.ref d), .val (.int (Int32.ofNat (2 * i + 1))), .val (.int c0)] [(.int (c0 >>> ((8 : Int32) &&& 31)).toInt8.toInt32), (.int (Int32.ofNat (2 * i + 1))), (.ref d)])
  refine Sp.stB B S V (i := 2 * i + 1) (own_in (by omega) (by omega)) (own_cl _ (by omega)) (by rw [List.length_set]; omega) (x' := StrChars.hi8 c0) (own_nb _) (by simp) (hb hby u_put_d52) fun T h2 S W V => ?_
  replace KK := KK.wr W (Or.inl (by simp))
  show F T (mkF m 53 #[.val (.ref d), .val (.int (Int32.ofNat (2 * i + 1))), .val (.int c0)] [])
  exact hF (S.ret hr hlk (hb hby u_put_d53) (nw := []) ⟨rfl, rfl, KK, V⟩ (by simp))
theorem u_tb_d0 : decode jdk_52_method_14_code 0 = .ok (.iload_n 2, 1) := by decide +kernel
theorem u_tb_d1 : decode jdk_52_method_14_code 1 = .ok (.invokestatic 107, 3) := by decide +kernel
theorem u_tb_d4 : decode jdk_52_method_14_code 4 = .ok (.astore_n 3, 1) := by decide +kernel
theorem u_tb_d5 : decode jdk_52_method_14_code 5 = .ok (.iconst 0, 1) := by decide +kernel
theorem u_tb_d6 : decode jdk_52_method_14_code 6 = .ok (.istore 4, 2) := by decide +kernel
theorem u_tb_d8 : decode jdk_52_method_14_code 8 = .ok (.iload 4, 2) := by decide +kernel
theorem u_tb_d10 : decode jdk_52_method_14_code 10 = .ok (.iload_n 2, 1) := by decide +kernel
theorem u_tb_d11 : decode jdk_52_method_14_code 11 = .ok (.if_icmp .ge 21, 3) := by decide +kernel
theorem u_tb_d14 : decode jdk_52_method_14_code 14 = .ok (.aload_n 3, 1) := by decide +kernel
theorem u_tb_d15 : decode jdk_52_method_14_code 15 = .ok (.iload 4, 2) := by decide +kernel
theorem u_tb_d17 : decode jdk_52_method_14_code 17 = .ok (.aload_n 0, 1) := by decide +kernel
theorem u_tb_d18 : decode jdk_52_method_14_code 18 = .ok (.iload_n 1, 1) := by decide +kernel
theorem u_tb_d19 : decode jdk_52_method_14_code 19 = .ok (.caload, 1) := by decide +kernel
theorem u_tb_d20 : decode jdk_52_method_14_code 20 = .ok (.invokestatic 111, 3) := by decide +kernel
theorem u_tb_d23 : decode jdk_52_method_14_code 23 = .ok (.iinc 1 1, 3) := by decide +kernel
theorem u_tb_d26 : decode jdk_52_method_14_code 26 = .ok (.iinc 4 1, 3) := by decide +kernel
theorem u_tb_d29 : decode jdk_52_method_14_code 29 = .ok (.goto (-21), 3) := by decide +kernel
theorem u_tb_d32 : decode jdk_52_method_14_code 32 = .ok (.aload_n 3, 1) := by decide +kernel
theorem u_tb_d33 : decode jdk_52_method_14_code 33 = .ok (.areturn, 1) := by decide +kernel
theorem u_tb_p107 : parseMethodDescriptor "(I)[B" = some ⟨[.int], (some (.array .byte))⟩ := by decide +kernel
theorem u_tb_p111 : parseMethodDescriptor "([BII)V" = some ⟨[(.array .byte), .int, .int], none⟩ := by decide +kernel
set_option maxRecDepth 65536 in
set_option maxHeartbeats 40000000 in
theorem u_tbl {p : Program} {l : Launch} {e : Env} {s : State} {m : MethodId} {args : Array Value} {below : List Frame} {meth : Method} {c : Code} {Z : State} {a0 : Array Value} {EL : List (String × Nat)} {F : State → JFrame → Prop} {sf : List Addr} {lt : List (String × Nat × Addr)} {kq nq : Nat} (hw : ∀ q ∈ tables_1, q.before a0 Z = true) (hEW : EW Z a0 EL) (AD : Sta Z Z.heap "java/lang/StringUTF16" "$assertionsDisabled" "Z" (.int 1)) (HI : Sta Z Z.heap "java/lang/StringUTF16" "HI_BYTE_SHIFT" "I" (.int 0)) (LO : Sta Z Z.heap "java/lang/StringUTF16" "LO_BYTE_SHIFT" "I" (.int 8)) (B : Bw p e below F) (hby : c.code = jdk_52_method_14_code) (hml : c.maxLocals = 5) (cs : List Int32) (hn : cs.length ≤ 8) (b d : Addr) (kb kd : ClassId) (dv : Value) (hbd : b ≠ d) (hd : d ∈ sf) (hkq : kq + 0 ≤ 1) (hnq : nq + 0 ≤ 16) :
    ∀ (k i : Nat) (T : State) (h : Heap), i + k = cs.length → Sp p l e ({ frames := 2, cells := 1, slots := 16, locals := 24 } : Room) s m args below meth c Z a0 EL "java/lang/StringUTF16" T h sf lt kq nq → Arv Z h b kb .char (Int32.ofNat cs.length) (cs.map Value.int) dv → Arv Z h d kd .byte (Int32.ofNat (2 * cs.length)) (StrChars.Road.wideBytes (cs.take i)) (.int 0) →
      (∀ (T' : State) (h' : Heap), Sp p l e ({ frames := 2, cells := 1, slots := 16, locals := 24 } : Room) s m args below meth c Z a0 EL "java/lang/StringUTF16" T' h' sf lt kq nq → Keep h h' [d] → Arv Z h' d kd .byte (Int32.ofNat (2 * cs.length)) (StrChars.Road.wideBytes cs) (.int 0) → F T' (mkF m 32 #[.val (.ref b), .val (.int (Int32.ofNat cs.length)), .val (.int (Int32.ofNat cs.length)), .val (.ref d), .val (.int (Int32.ofNat cs.length))] [])) → F T (mkF m 8 #[.val (.ref b), .val (.int (Int32.ofNat i)), .val (.int (Int32.ofNat cs.length)), .val (.ref d), .val (.int (Int32.ofNat i))] []) := by
  intro k
  induction k with
  | zero =>
    intro i T h hik S Vb Vd K
    have hi : i = cs.length := by omega
    subst hi
    show F T (mkF m 8 #[.val (.ref b), .val (.int (Int32.ofNat cs.length)), .val (.int (Int32.ofNat cs.length)), .val (.ref d), .val (.int (Int32.ofNat cs.length))] [])
    refine B (fun tgt kt => XS.iload S.here S.hx rfl (hb hby u_tb_d8) rfl kt) ?_
    show F T (mkF m 10 #[.val (.ref b), .val (.int (Int32.ofNat cs.length)), .val (.int (Int32.ofNat cs.length)), .val (.ref d), .val (.int (Int32.ofNat cs.length))] [(.int (Int32.ofNat cs.length))])
    refine B (fun tgt kt => XS.iloadN S.here S.hx rfl (hb hby u_tb_d10) rfl kt) ?_
    show F T (mkF m 11 #[.val (.ref b), .val (.int (Int32.ofNat cs.length)), .val (.int (Int32.ofNat cs.length)), .val (.ref d), .val (.int (Int32.ofNat cs.length))] [(.int (Int32.ofNat cs.length)), (.int (Int32.ofNat cs.length))])
    refine B (fun tgt kt => XS.icmpYes S.here S.hx rfl (pc0 := 11) (pc' := 32) rfl (hb hby u_tb_d11) rfl (ii_ge_t (own_irr _)) (by decide) (by decide) kt) ?_
    show F T (mkF m 32 #[.val (.ref b), .val (.int (Int32.ofNat cs.length)), .val (.int (Int32.ofNat cs.length)), .val (.ref d), .val (.int (Int32.ofNat cs.length))] [])
    rw [List.take_length] at Vd
    exact K _ _ S (Keep.refl _ _) Vd
  | succ k ih =>
    intro i T h hik S Vb Vd K
    have hi : i < cs.length := by omega
    show F T (mkF m 8 #[.val (.ref b), .val (.int (Int32.ofNat i)), .val (.int (Int32.ofNat cs.length)), .val (.ref d), .val (.int (Int32.ofNat i))] [])
    refine B (fun tgt kt => XS.iload S.here S.hx rfl (hb hby u_tb_d8) rfl kt) ?_
    show F T (mkF m 10 #[.val (.ref b), .val (.int (Int32.ofNat i)), .val (.int (Int32.ofNat cs.length)), .val (.ref d), .val (.int (Int32.ofNat i))] [(.int (Int32.ofNat i))])
    refine B (fun tgt kt => XS.iloadN S.here S.hx rfl (hb hby u_tb_d10) rfl kt) ?_
    show F T (mkF m 11 #[.val (.ref b), .val (.int (Int32.ofNat i)), .val (.int (Int32.ofNat cs.length)), .val (.ref d), .val (.int (Int32.ofNat i))] [(.int (Int32.ofNat cs.length)), (.int (Int32.ofNat i))])
    refine B (fun tgt kt => XS.icmpNo S.here S.hx rfl (hb hby u_tb_d11) rfl (ii_ge_f (own_sm hi (by omega))) kt) ?_
    show F T (mkF m 14 #[.val (.ref b), .val (.int (Int32.ofNat i)), .val (.int (Int32.ofNat cs.length)), .val (.ref d), .val (.int (Int32.ofNat i))] [])
    refine B (fun tgt kt => XS.aloadN S.here S.hx rfl (hb hby u_tb_d14) rfl rfl kt) ?_
    show F T (mkF m 15 #[.val (.ref b), .val (.int (Int32.ofNat i)), .val (.int (Int32.ofNat cs.length)), .val (.ref d), .val (.int (Int32.ofNat i))] [(.ref d)])
    refine B (fun tgt kt => XS.iload S.here S.hx rfl (hb hby u_tb_d15) rfl kt) ?_
    show F T (mkF m 17 #[.val (.ref b), .val (.int (Int32.ofNat i)), .val (.int (Int32.ofNat cs.length)), .val (.ref d), .val (.int (Int32.ofNat i))] [(.int (Int32.ofNat i)), (.ref d)])
    refine B (fun tgt kt => XS.aloadN S.here S.hx rfl (hb hby u_tb_d17) rfl rfl kt) ?_
    show F T (mkF m 18 #[.val (.ref b), .val (.int (Int32.ofNat i)), .val (.int (Int32.ofNat cs.length)), .val (.ref d), .val (.int (Int32.ofNat i))] [(.ref b), (.int (Int32.ofNat i)), (.ref d)])
    refine B (fun tgt kt => XS.iloadN S.here S.hx rfl (hb hby u_tb_d18) rfl kt) ?_
    show F T (mkF m 19 #[.val (.ref b), .val (.int (Int32.ofNat i)), .val (.int (Int32.ofNat cs.length)), .val (.ref d), .val (.int (Int32.ofNat i))] [(.int (Int32.ofNat i)), (.ref b), (.int (Int32.ofNat i)), (.ref d)])
    refine Sp.cald B S Vb (own_in hi (by omega)) (own_getD hi (by omega) dv) (hb hby u_tb_d19) ?_
    show F T (mkF m 20 #[.val (.ref b), .val (.int (Int32.ofNat i)), .val (.int (Int32.ofNat cs.length)), .val (.ref d), .val (.int (Int32.ofNat i))] [(.int (cs.getD i 0)), (.int (Int32.ofNat i)), (.ref d)])
    replace Vd := Vd.pad (pad_rep (StrChars.Road.wideBytes (cs.take i)) (.int 0) 2)
    refine Sp.static B S (y := (⟨"java/lang/StringUTF16", "putChar", "([BII)V"⟩ : MethodName)) (argsL := [(.ref d), (.int (Int32.ofNat i)), (.int (cs.getD i 0))]) (rest := []) (hw _ (List.mem_of_getElem? (i := 102) rfl)) (hw _ (List.mem_of_getElem? (i := 103) rfl)) (hw _ (List.mem_of_getElem? (i := 18) rfl)) (hw _ (List.mem_of_getElem? (i := 104) rfl)) (by decide) (Call.con (W := 0) (u_put l Z a0 EL hw hEW h AD HI LO cs.length i hn hi (cs.getD i 0) d kd _ (by simp only [List.length_append, own_wlen, List.length_take, List.length_replicate]; omega) Vd) (hw _ (List.mem_of_getElem? (i := 104) rfl)) (hw _ (List.mem_of_getElem? (i := 18) rfl)) (by decide) (by decide)) (by simpa using hd) hkq hnq (by rw [hml]; rfl) (lenOf u_tb_p111 rfl) rfl (Nat.le_of_eq rfl) (hb hby u_tb_d20) fun v T h1 nw S hQ => ?_
    obtain ⟨rfl, rfl, K1, Vd⟩ := hQ
    show F T (mkF m 23 #[.val (.ref b), .val (.int (Int32.ofNat i)), .val (.int (Int32.ofNat cs.length)), .val (.ref d), .val (.int (Int32.ofNat i))] [])
    refine B (fun tgt kt => XS.iinc S.here S.hx rfl (hb hby u_tb_d23) rfl (l' := #[.val (.ref b), .val (.int ((Int32.ofNat i) + (1 : Int32))), .val (.int (Int32.ofNat cs.length)), .val (.ref d), .val (.int (Int32.ofNat i))]) rfl kt) ?_
    show F T (mkF m 26 #[.val (.ref b), .val (.int ((Int32.ofNat i) + (1 : Int32))), .val (.int (Int32.ofNat cs.length)), .val (.ref d), .val (.int (Int32.ofNat i))] [])
    refine B (fun tgt kt => XS.iinc S.here S.hx rfl (hb hby u_tb_d26) rfl (l' := #[.val (.ref b), .val (.int ((Int32.ofNat i) + (1 : Int32))), .val (.int (Int32.ofNat cs.length)), .val (.ref d), .val (.int ((Int32.ofNat i) + (1 : Int32)))]) rfl kt) ?_
    show F T (mkF m 29 #[.val (.ref b), .val (.int ((Int32.ofNat i) + (1 : Int32))), .val (.int (Int32.ofNat cs.length)), .val (.ref d), .val (.int ((Int32.ofNat i) + (1 : Int32)))] [])
    refine B (fun tgt kt => XS.goto S.here S.hx rfl (pc0 := 29) (pc' := 8) rfl (hb hby u_tb_d29) (by decide) (by decide) kt) ?_
    show F T (mkF m 8 #[.val (.ref b), .val (.int ((Int32.ofNat i) + (1 : Int32))), .val (.int (Int32.ofNat cs.length)), .val (.ref d), .val (.int ((Int32.ofNat i) + (1 : Int32)))] [])
    rw [own_inc i]
    show F T (mkF m 8 #[.val (.ref b), .val (.int (Int32.ofNat (i + 1))), .val (.int (Int32.ofNat cs.length)), .val (.ref d), .val (.int (Int32.ofNat (i + 1)))] [])
    refine ih (i + 1) _ _ (by omega) S (Vb.keep K1 (by simpa using hbd)) ?_ fun T' h' S' K2 V2 => K T' h' S' (K1.trans K2 (fun x hx => Or.inl hx)) V2
    have e : 2 * i = (StrChars.Road.wideBytes (cs.take i)).length := by rw [own_wlen, List.length_take]; omega
    rw [e] at Vd
    rw [own_take hi, own_wapp]
    exact own_set2 (StrChars.Road.wideBytes (cs.take i)) (.int 0) (.int 0) _ _ ▸ Vd
theorem u_tb_ef (m : MethodId) (b : Addr) (cs : List Int32) : entryFrame m #[(.ref b), (.int 0), (.int (Int32.ofNat cs.length))] 5 = mkF m 0 #[.val (.ref b), .val (.int 0), .val (.int (Int32.ofNat cs.length)), .unset, .unset] [] := by first | (simp [entryFrame, mkF, argsToLocals, Value.category]; done) | rfl
theorem u_tb_pn : plainFor (⟨"java/lang/StringUTF16", "toBytes", "([CII)[B"⟩ : MethodName) = true := by first | exact plainFor_of_name (by first | (simp [plainName, overriddenIn]; done) | decide +kernel) | decide +kernel
set_option maxRecDepth 65536 in
set_option maxHeartbeats 40000000 in
theorem u_tb (l : Launch) (Z : State) (a0 : Array Value) (EL : List (String × Nat)) (hw : ∀ d ∈ tables_1, d.before a0 Z = true) (hEW : EW Z a0 EL) (h : Heap) (AD : Sta Z Z.heap "java/lang/StringUTF16" "$assertionsDisabled" "Z" (.int 1)) (HI : Sta Z Z.heap "java/lang/StringUTF16" "HI_BYTE_SHIFT" "I" (.int 0)) (LO : Sta Z Z.heap "java/lang/StringUTF16" "LO_BYTE_SHIFT" "I" (.int 8)) (cs : List Int32) (hn : cs.length ≤ 8) (b : Addr) (kb : ClassId) (dv : Value) (V : Arv Z h b kb .char (Int32.ofNat cs.length) (cs.map Value.int) dv) :
    Con l Z EL (⟨"java/lang/StringUTF16", "toBytes", "([CII)[B"⟩ : MethodName) jdk_52_method_14_code 5 (some (.array .byte)) ({ frames := 2, cells := 1, slots := 16, locals := 24 } : Room) #[(.ref b), (.int 0), (.int (Int32.ofNat cs.length))] h [] (fun v h' nw => ∃ d kd, v = some (.ref d) ∧ nw = [d] ∧ h.size ≤ d ∧ Keep h h' [] ∧ Arv Z h' d kd .byte (Int32.ofNat (2 * cs.length)) (StrChars.Road.wideBytes cs) (.int 0)) := by
  refine Con.of u_tb_pn hEW ?_
  intro p e s m below meth c T F B hF hby hml hr hlk hnm S
  rw [u_tb_ef]
  have lb := natlt V.lt
  have KK := Keep.refl h []
  show F T (mkF m 0 #[.val (.ref b), .val (.int 0), .val (.int (Int32.ofNat cs.length)), .unset, .unset] [])
  refine B (fun tgt kt => XS.iloadN S.here S.hx rfl (hb hby u_tb_d0) rfl kt) ?_
  show F T (mkF m 1 #[.val (.ref b), .val (.int 0), .val (.int (Int32.ofNat cs.length)), .unset, .unset] [(.int (Int32.ofNat cs.length))])
  refine Sp.static B S (y := (⟨"java/lang/StringUTF16", "newBytesFor", "(I)[B"⟩ : MethodName)) (argsL := [(.int (Int32.ofNat cs.length))]) (rest := []) (hw _ (List.mem_of_getElem? (i := 95) rfl)) (hw _ (List.mem_of_getElem? (i := 96) rfl)) (hw _ (List.mem_of_getElem? (i := 18) rfl)) (hw _ (List.mem_of_getElem? (i := 97) rfl)) (by decide) (Call.con (W := 0) (u_nbf l Z a0 EL hw hEW h cs.length hn) (hw _ (List.mem_of_getElem? (i := 97) rfl)) (hw _ (List.mem_of_getElem? (i := 18) rfl)) (by decide) (by decide)) (by simp) (by decide) (by decide) (by rw [hml]; rfl) (lenOf u_tb_p107 rfl) rfl (Nat.le_of_eq rfl) (hb hby u_tb_d1) fun v T h1 nw S hQ => ?_
  obtain ⟨d, kd, rfl, rfl, gd, E, Vd⟩ := hQ
  replace V := V.ext E
  replace KK := KK.ext E
  show F T (mkF m 4 #[.val (.ref b), .val (.int 0), .val (.int (Int32.ofNat cs.length)), .unset, .unset] [(.ref d)])
  refine B (fun tgt kt => XS.astoreN S.here S.hx rfl (hb hby u_tb_d4) rfl rfl (l' := #[.val (.ref b), .val (.int 0), .val (.int (Int32.ofNat cs.length)), .val (.ref d), .unset]) rfl kt) ?_
  show F T (mkF m 5 #[.val (.ref b), .val (.int 0), .val (.int (Int32.ofNat cs.length)), .val (.ref d), .unset] [])
  refine B (fun tgt kt => XS.iconst S.here S.hx rfl (hb hby u_tb_d5) kt) ?_
  show F T (mkF m 6 #[.val (.ref b), .val (.int 0), .val (.int (Int32.ofNat cs.length)), .val (.ref d), .unset] [(.int (0 : Int32))])
  refine B (fun tgt kt => XS.istore S.here S.hx rfl (hb hby u_tb_d6) rfl (l' := #[.val (.ref b), .val (.int 0), .val (.int (Int32.ofNat cs.length)), .val (.ref d), .val (.int (0 : Int32))]) rfl kt) ?_
  show F T (mkF m 8 #[.val (.ref b), .val (.int 0), .val (.int (Int32.ofNat cs.length)), .val (.ref d), .val (.int (0 : Int32))] [])
  refine u_tbl hw hEW AD HI LO B hby hml cs hn b d kb kd dv (natne (by omega)) (by simp) (by decide) (by decide) cs.length 0 T _ (by omega) S V Vd fun T h2 S K V2 => ?_
  show F T (mkF m 32 #[.val (.ref b), .val (.int (Int32.ofNat cs.length)), .val (.int (Int32.ofNat cs.length)), .val (.ref d), .val (.int (Int32.ofNat cs.length))] [])
  replace KK := KK.trans K (qk1 (by first | (refine Or.inl ?_; simp; done) | (refine Or.inr ?_; omega)))
  refine B (fun tgt kt => XS.aloadN S.here S.hx rfl (hb hby u_tb_d32) rfl rfl kt) ?_
  show F T (mkF m 33 #[.val (.ref b), .val (.int (Int32.ofNat cs.length)), .val (.int (Int32.ofNat cs.length)), .val (.ref d), .val (.int (Int32.ofNat cs.length))] [(.ref d)])
  exact hF (S.retA hr hlk rfl rfl (hb hby u_tb_d33) (nw := [d]) ⟨d, kd, rfl, rfl, gd, KK, V2⟩ (by simp))
theorem u_gc_d0 : decode jdk_52_method_5_code 0 = .ok (.getstatic 44, 3) := by decide +kernel
theorem u_gc_d3 : decode jdk_52_method_5_code 3 = .ok (.ifCond .ne 25, 3) := by decide +kernel
theorem u_gc_d28 : decode jdk_52_method_5_code 28 = .ok (.iload_n 1, 1) := by decide +kernel
theorem u_gc_d29 : decode jdk_52_method_5_code 29 = .ok (.iconst 1, 1) := by decide +kernel
theorem u_gc_d30 : decode jdk_52_method_5_code 30 = .ok (.ishl, 1) := by decide +kernel
theorem u_gc_d31 : decode jdk_52_method_5_code 31 = .ok (.istore_n 1, 1) := by decide +kernel
theorem u_gc_d32 : decode jdk_52_method_5_code 32 = .ok (.aload_n 0, 1) := by decide +kernel
theorem u_gc_d33 : decode jdk_52_method_5_code 33 = .ok (.iload_n 1, 1) := by decide +kernel
theorem u_gc_d34 : decode jdk_52_method_5_code 34 = .ok (.iinc 1 1, 3) := by decide +kernel
theorem u_gc_d37 : decode jdk_52_method_5_code 37 = .ok (.baload, 1) := by decide +kernel
theorem u_gc_d38 : decode jdk_52_method_5_code 38 = .ok (.sipush 255, 3) := by decide +kernel
theorem u_gc_d41 : decode jdk_52_method_5_code 41 = .ok (.iand, 1) := by decide +kernel
theorem u_gc_d42 : decode jdk_52_method_5_code 42 = .ok (.getstatic 59, 3) := by decide +kernel
theorem u_gc_d45 : decode jdk_52_method_5_code 45 = .ok (.ishl, 1) := by decide +kernel
theorem u_gc_d46 : decode jdk_52_method_5_code 46 = .ok (.aload_n 0, 1) := by decide +kernel
theorem u_gc_d47 : decode jdk_52_method_5_code 47 = .ok (.iload_n 1, 1) := by decide +kernel
theorem u_gc_d48 : decode jdk_52_method_5_code 48 = .ok (.baload, 1) := by decide +kernel
theorem u_gc_d49 : decode jdk_52_method_5_code 49 = .ok (.sipush 255, 3) := by decide +kernel
theorem u_gc_d52 : decode jdk_52_method_5_code 52 = .ok (.iand, 1) := by decide +kernel
theorem u_gc_d53 : decode jdk_52_method_5_code 53 = .ok (.getstatic 63, 3) := by decide +kernel
theorem u_gc_d56 : decode jdk_52_method_5_code 56 = .ok (.ishl, 1) := by decide +kernel
theorem u_gc_d57 : decode jdk_52_method_5_code 57 = .ok (.ior, 1) := by decide +kernel
theorem u_gc_d58 : decode jdk_52_method_5_code 58 = .ok (.i2c, 1) := by decide +kernel
theorem u_gc_d59 : decode jdk_52_method_5_code 59 = .ok (.ireturn, 1) := by decide +kernel
theorem u_gc_ef (m : MethodId) (d : Addr) (i : Nat) : entryFrame m #[(.ref d), (.int (Int32.ofNat i))] 2 = mkF m 0 #[.val (.ref d), .val (.int (Int32.ofNat i))] [] := by first | (simp [entryFrame, mkF, argsToLocals, Value.category]; done) | rfl
theorem u_gc_pn : plainFor (⟨"java/lang/StringUTF16", "getChar", "([BI)C"⟩ : MethodName) = true := by first | exact plainFor_of_name (by first | (simp [plainName, overriddenIn]; done) | decide +kernel) | decide +kernel
set_option maxRecDepth 65536 in
set_option maxHeartbeats 40000000 in
theorem u_gc (l : Launch) (Z : State) (a0 : Array Value) (EL : List (String × Nat)) (hw : ∀ d ∈ tables_1, d.before a0 Z = true) (hEW : EW Z a0 EL) (h : Heap) (AD : Sta Z Z.heap "java/lang/StringUTF16" "$assertionsDisabled" "Z" (.int 1)) (HI : Sta Z Z.heap "java/lang/StringUTF16" "HI_BYTE_SHIFT" "I" (.int 0)) (LO : Sta Z Z.heap "java/lang/StringUTF16" "LO_BYTE_SHIFT" "I" (.int 8)) (cs : List Int32) (hn : cs.length ≤ 8) (i : Nat) (hi : i < cs.length) (hb0 : ¬ cs.getD i 0 < 0 ∧ ¬ (65535 : Int32) < cs.getD i 0) (d : Addr) (kd : ClassId) (V : Arv Z h d kd .byte (Int32.ofNat (2 * cs.length)) (StrChars.Road.wideBytes cs) (.int 0)) :
    Con l Z EL (⟨"java/lang/StringUTF16", "getChar", "([BI)C"⟩ : MethodName) jdk_52_method_5_code 2 (some .char) ({ frames := 0, cells := 0, slots := 0, locals := 0 } : Room) #[(.ref d), (.int (Int32.ofNat i))] h [] (fun v h' nw => v = some (.int (cs.getD i 0)) ∧ nw = [] ∧ h = h') := by
  refine Con.of u_gc_pn hEW ?_
  intro p e s m below meth c T F B hF hby hml hr hlk hnm S
  rw [u_gc_ef]
  show F T (mkF m 0 #[.val (.ref d), .val (.int (Int32.ofNat i))] [])
  refine Sp.getS B S (hw _ (List.mem_of_getElem? (i := 105) rfl)) Via.refl AD (hb hby u_gc_d0) fun T S => ?_
  show F T (mkF m 3 #[.val (.ref d), .val (.int (Int32.ofNat i))] [(.int 1)])
  refine B (fun tgt kt => XS.ifYes S.here S.hx rfl (pc0 := 3) (pc' := 28) rfl (hb hby u_gc_d3) rfl (i0_ne_t (by decide)) (by decide) (by decide) kt) ?_
  show F T (mkF m 28 #[.val (.ref d), .val (.int (Int32.ofNat i))] [])
  refine B (fun tgt kt => XS.iloadN S.here S.hx rfl (hb hby u_gc_d28) rfl kt) ?_
  show F T (mkF m 29 #[.val (.ref d), .val (.int (Int32.ofNat i))] [(.int (Int32.ofNat i))])
  refine B (fun tgt kt => XS.iconst S.here S.hx rfl (hb hby u_gc_d29) kt) ?_
  show F T (mkF m 30 #[.val (.ref d), .val (.int (Int32.ofNat i))] [(.int (1 : Int32)), (.int (Int32.ofNat i))])
  refine B (fun tgt kt => XT.ishl S.here S.hx rfl (hb hby u_gc_d30) rfl kt) ?_
  show F T (mkF m 31 #[.val (.ref d), .val (.int (Int32.ofNat i))] [(.int ((Int32.ofNat i) <<< ((1 : Int32) &&& 31)))])
  rw [own_shl1 i (by omega)]
  show F T (mkF m 31 #[.val (.ref d), .val (.int (Int32.ofNat i))] [(.int (Int32.ofNat (2 * i)))])
  refine B (fun tgt kt => XS.istoreN S.here S.hx rfl (hb hby u_gc_d31) rfl (l' := #[.val (.ref d), .val (.int (Int32.ofNat (2 * i)))]) rfl kt) ?_
  show F T (mkF m 32 #[.val (.ref d), .val (.int (Int32.ofNat (2 * i)))] [])
  refine B (fun tgt kt => XS.aloadN S.here S.hx rfl (hb hby u_gc_d32) rfl rfl kt) ?_
  show F T (mkF m 33 #[.val (.ref d), .val (.int (Int32.ofNat (2 * i)))] [(.ref d)])
  refine B (fun tgt kt => XS.iloadN S.here S.hx rfl (hb hby u_gc_d33) rfl kt) ?_
  show F T (mkF m 34 #[.val (.ref d), .val (.int (Int32.ofNat (2 * i)))] [(.int (Int32.ofNat (2 * i))), (.ref d)])
  refine B (fun tgt kt => XS.iinc S.here S.hx rfl (hb hby u_gc_d34) rfl (l' := #[.val (.ref d), .val (.int ((Int32.ofNat (2 * i)) + (1 : Int32)))]) rfl kt) ?_
  show F T (mkF m 37 #[.val (.ref d), .val (.int ((Int32.ofNat (2 * i)) + (1 : Int32)))] [(.int (Int32.ofNat (2 * i))), (.ref d)])
  rw [own_inc (2 * i)]
  show F T (mkF m 37 #[.val (.ref d), .val (.int (Int32.ofNat (2 * i + 1)))] [(.int (Int32.ofNat (2 * i))), (.ref d)])
  refine Sp.bald B S V (own_in (by omega) (by omega)) (by rw [own_cl _ (by omega)]; exact StrChars.Road.wide_lo _ cs i hi) (hb hby u_gc_d37) ?_
  show F T (mkF m 38 #[.val (.ref d), .val (.int (Int32.ofNat (2 * i + 1)))] [(.int (StrChars.lo8 (cs.getD i 0)))])
  refine B (fun tgt kt => XS.sipush S.here S.hx rfl (hb hby u_gc_d38) kt) ?_
  show F T (mkF m 41 #[.val (.ref d), .val (.int (Int32.ofNat (2 * i + 1)))] [(.int (255 : Int32)), (.int (StrChars.lo8 (cs.getD i 0)))])
  refine B (fun tgt kt => XS.iand S.here S.hx rfl (hb hby u_gc_d41) rfl kt) ?_
  show F T (mkF m 42 #[.val (.ref d), .val (.int (Int32.ofNat (2 * i + 1)))] [(.int ((StrChars.lo8 (cs.getD i 0)) &&& (255 : Int32)))])
  refine Sp.getS B S (hw _ (List.mem_of_getElem? (i := 106) rfl)) Via.refl HI (hb hby u_gc_d42) fun T S => ?_
  show F T (mkF m 45 #[.val (.ref d), .val (.int (Int32.ofNat (2 * i + 1)))] [(.int (0 : Int32)), (.int ((StrChars.lo8 (cs.getD i 0)) &&& (255 : Int32)))])
  refine B (fun tgt kt => XT.ishl S.here S.hx rfl (hb hby u_gc_d45) rfl kt) ?_
  show F T (mkF m 46 #[.val (.ref d), .val (.int (Int32.ofNat (2 * i + 1)))] [(.int (((StrChars.lo8 (cs.getD i 0)) &&& (255 : Int32)) <<< ((0 : Int32) &&& 31)))])
  refine B (fun tgt kt => XS.aloadN S.here S.hx rfl (hb hby u_gc_d46) rfl rfl kt) ?_
  show F T (mkF m 47 #[.val (.ref d), .val (.int (Int32.ofNat (2 * i + 1)))] [(.ref d), (.int (((StrChars.lo8 (cs.getD i 0)) &&& (255 : Int32)) <<< ((0 : Int32) &&& 31)))])
  refine B (fun tgt kt => XS.iloadN S.here S.hx rfl (hb hby u_gc_d47) rfl kt) ?_
  show F T (mkF m 48 #[.val (.ref d), .val (.int (Int32.ofNat (2 * i + 1)))] [(.int (Int32.ofNat (2 * i + 1))), (.ref d), (.int (((StrChars.lo8 (cs.getD i 0)) &&& (255 : Int32)) <<< ((0 : Int32) &&& 31)))])
  refine Sp.bald B S V (own_in (by omega) (by omega)) (by rw [own_cl _ (by omega)]; exact StrChars.Road.wide_hi _ cs i hi) (hb hby u_gc_d48) ?_
  show F T (mkF m 49 #[.val (.ref d), .val (.int (Int32.ofNat (2 * i + 1)))] [(.int (StrChars.hi8 (cs.getD i 0))), (.int (((StrChars.lo8 (cs.getD i 0)) &&& (255 : Int32)) <<< ((0 : Int32) &&& 31)))])
  refine B (fun tgt kt => XS.sipush S.here S.hx rfl (hb hby u_gc_d49) kt) ?_
  show F T (mkF m 52 #[.val (.ref d), .val (.int (Int32.ofNat (2 * i + 1)))] [(.int (255 : Int32)), (.int (StrChars.hi8 (cs.getD i 0))), (.int (((StrChars.lo8 (cs.getD i 0)) &&& (255 : Int32)) <<< ((0 : Int32) &&& 31)))])
  refine B (fun tgt kt => XS.iand S.here S.hx rfl (hb hby u_gc_d52) rfl kt) ?_
  show F T (mkF m 53 #[.val (.ref d), .val (.int (Int32.ofNat (2 * i + 1)))] [(.int ((StrChars.hi8 (cs.getD i 0)) &&& (255 : Int32))), (.int (((StrChars.lo8 (cs.getD i 0)) &&& (255 : Int32)) <<< ((0 : Int32) &&& 31)))])
  refine Sp.getS B S (hw _ (List.mem_of_getElem? (i := 107) rfl)) Via.refl LO (hb hby u_gc_d53) fun T S => ?_
  show F T (mkF m 56 #[.val (.ref d), .val (.int (Int32.ofNat (2 * i + 1)))] [(.int (8 : Int32)), (.int ((StrChars.hi8 (cs.getD i 0)) &&& (255 : Int32))), (.int (((StrChars.lo8 (cs.getD i 0)) &&& (255 : Int32)) <<< ((0 : Int32) &&& 31)))])
  refine B (fun tgt kt => XT.ishl S.here S.hx rfl (hb hby u_gc_d56) rfl kt) ?_
  show F T (mkF m 57 #[.val (.ref d), .val (.int (Int32.ofNat (2 * i + 1)))] [(.int (((StrChars.hi8 (cs.getD i 0)) &&& (255 : Int32)) <<< ((8 : Int32) &&& 31))), (.int (((StrChars.lo8 (cs.getD i 0)) &&& (255 : Int32)) <<< ((0 : Int32) &&& 31)))])
  refine B (fun tgt kt => XT.ior S.here S.hx rfl (hb hby u_gc_d57) rfl kt) ?_
  show F T (mkF m 58 #[.val (.ref d), .val (.int (Int32.ofNat (2 * i + 1)))] [(.int ((((StrChars.lo8 (cs.getD i 0)) &&& (255 : Int32)) <<< ((0 : Int32) &&& 31)) ||| (((StrChars.hi8 (cs.getD i 0)) &&& (255 : Int32)) <<< ((8 : Int32) &&& 31))))])
  refine B (fun tgt kt => XT.i2c S.here S.hx rfl (hb hby u_gc_d58) rfl kt) ?_
  show F T (mkF m 59 #[.val (.ref d), .val (.int (Int32.ofNat (2 * i + 1)))] [(.int ((((StrChars.lo8 (cs.getD i 0)) &&& (255 : Int32)) <<< ((0 : Int32) &&& 31)) ||| (((StrChars.hi8 (cs.getD i 0)) &&& (255 : Int32)) <<< ((8 : Int32) &&& 31))).toUInt32.toUInt16.toUInt32.toInt32)])
  rw [own_chr hb0.1 hb0.2]
  exact hF (S.retI hr hlk (by simp) (StrChars.narrow_ch hb0.1 hb0.2) (hb hby u_gc_d59) (nw := []) ⟨rfl, rfl, rfl⟩ (by simp))
theorem own_nbs (y : Int32) : nar .byte (y.toInt8.toInt32) = StrChars.lo8 y := own_nb y
theorem u_c5_d0 : decode jdk_52_method_21_code 0 = .ok (.iconst 0, 1) := by decide +kernel
theorem u_c5_d1 : decode jdk_52_method_21_code 1 = .ok (.istore 5, 2) := by decide +kernel
theorem u_c5_d3 : decode jdk_52_method_21_code 3 = .ok (.iload 5, 2) := by decide +kernel
theorem u_c5_d5 : decode jdk_52_method_21_code 5 = .ok (.iload 4, 2) := by decide +kernel
theorem u_c5_d7 : decode jdk_52_method_21_code 7 = .ok (.if_icmp .ge 37, 3) := by decide +kernel
theorem u_c5_d10 : decode jdk_52_method_21_code 10 = .ok (.aload_n 0, 1) := by decide +kernel
theorem u_c5_d11 : decode jdk_52_method_21_code 11 = .ok (.iload_n 1, 1) := by decide +kernel
theorem u_c5_d12 : decode jdk_52_method_21_code 12 = .ok (.caload, 1) := by decide +kernel
theorem u_c5_d13 : decode jdk_52_method_21_code 13 = .ok (.istore 6, 2) := by decide +kernel
theorem u_c5_d15 : decode jdk_52_method_21_code 15 = .ok (.iload 6, 2) := by decide +kernel
theorem u_c5_d17 : decode jdk_52_method_21_code 17 = .ok (.sipush 255, 3) := by decide +kernel
theorem u_c5_d20 : decode jdk_52_method_21_code 20 = .ok (.if_icmp .le 6, 3) := by decide +kernel
theorem u_c5_d23 : decode jdk_52_method_21_code 23 = .ok (.iload 5, 2) := by decide +kernel
theorem u_c5_d25 : decode jdk_52_method_21_code 25 = .ok (.ireturn, 1) := by decide +kernel
theorem u_c5_d26 : decode jdk_52_method_21_code 26 = .ok (.aload_n 2, 1) := by decide +kernel
theorem u_c5_d27 : decode jdk_52_method_21_code 27 = .ok (.iload_n 3, 1) := by decide +kernel
theorem u_c5_d28 : decode jdk_52_method_21_code 28 = .ok (.iload 6, 2) := by decide +kernel
theorem u_c5_d30 : decode jdk_52_method_21_code 30 = .ok (.i2b, 1) := by decide +kernel
theorem u_c5_d31 : decode jdk_52_method_21_code 31 = .ok (.bastore, 1) := by decide +kernel
theorem u_c5_d32 : decode jdk_52_method_21_code 32 = .ok (.iinc 1 1, 3) := by decide +kernel
theorem u_c5_d35 : decode jdk_52_method_21_code 35 = .ok (.iinc 3 1, 3) := by decide +kernel
theorem u_c5_d38 : decode jdk_52_method_21_code 38 = .ok (.iinc 5 1, 3) := by decide +kernel
theorem u_c5_d41 : decode jdk_52_method_21_code 41 = .ok (.goto (-38), 3) := by decide +kernel
theorem u_os {s0 s1 s2 s3 s4 s5 s6 : Slot} {v : Int32} (h : One s6) : storeLocals #[s0, s1, s2, s3, s4, s5, s6] 6 (.int v) = some #[s0, s1, s2, s3, s4, s5, .val (.int v)] := by
  rcases h with rfl | ⟨w, rfl, hw⟩
  · rfl
  · cases w <;> first | rfl | (simp [Value.category] at hw)
set_option maxRecDepth 65536 in
set_option maxHeartbeats 40000000 in
theorem u_c5l {p : Program} {l : Launch} {e : Env} {s : State} {m : MethodId} {args : Array Value} {below : List Frame} {meth : Method} {c : Code} {Z : State} {a0 : Array Value} {EL : List (String × Nat)} {F : State → JFrame → Prop} {sf : List Addr} {lt : List (String × Nat × Addr)} {kq nq : Nat} (B : Bw p e below F) (hby : c.code = jdk_52_method_21_code) (cs : List Int32) (hn : cs.length ≤ 8) (b d : Addr) (kb kd : ClassId) (dv : Value) (hbd : b ≠ d) (hd : d ∈ sf) :
    ∀ (k i : Nat) (s6 : Slot) (T : State) (h : Heap) (vs : List Value), i + k = cs.length → (∃ j, i ≤ j ∧ j < cs.length ∧ (255 : Int32) < cs.getD j 0) → One s6 → vs.length = cs.length → Sp p l e ({ frames := 0, cells := 0, slots := 0, locals := 0 } : Room) s m args below meth c Z a0 EL "java/lang/StringUTF16" T h sf lt kq nq → Arv Z h b kb .char (Int32.ofNat cs.length) (cs.map Value.int) dv → Arv Z h d kd .byte (Int32.ofNat cs.length) vs (.int 0) →
      (∀ (T' : State) (h' : Heap) (j : Nat) (L : Array Slot), Sp p l e ({ frames := 0, cells := 0, slots := 0, locals := 0 } : Room) s m args below meth c Z a0 EL "java/lang/StringUTF16" T' h' sf lt kq nq → Keep h h' [d] → j < cs.length → (255 : Int32) < cs.getD j 0 → F T' (mkF m 25 L [(.int (Int32.ofNat j))])) → F T (mkF m 3 #[.val (.ref b), .val (.int (Int32.ofNat i)), .val (.ref d), .val (.int (Int32.ofNat i)), .val (.int (Int32.ofNat cs.length)), .val (.int (Int32.ofNat i)), s6] []) := by
  intro k
  induction k with
  | zero => intro i s6 T h vs hik ⟨j, h1, h2, _⟩; omega
  | succ k ih =>
    intro i s6 T h vs hik hex ho hvl S Vb Vd K
    have hi : i < cs.length := by omega
    show F T (mkF m 3 #[.val (.ref b), .val (.int (Int32.ofNat i)), .val (.ref d), .val (.int (Int32.ofNat i)), .val (.int (Int32.ofNat cs.length)), .val (.int (Int32.ofNat i)), s6] [])
    refine B (fun tgt kt => XS.iload S.here S.hx rfl (hb hby u_c5_d3) rfl kt) ?_
    show F T (mkF m 5 #[.val (.ref b), .val (.int (Int32.ofNat i)), .val (.ref d), .val (.int (Int32.ofNat i)), .val (.int (Int32.ofNat cs.length)), .val (.int (Int32.ofNat i)), s6] [(.int (Int32.ofNat i))])
    refine B (fun tgt kt => XS.iload S.here S.hx rfl (hb hby u_c5_d5) rfl kt) ?_
    show F T (mkF m 7 #[.val (.ref b), .val (.int (Int32.ofNat i)), .val (.ref d), .val (.int (Int32.ofNat i)), .val (.int (Int32.ofNat cs.length)), .val (.int (Int32.ofNat i)), s6] [(.int (Int32.ofNat cs.length)), (.int (Int32.ofNat i))])
    refine B (fun tgt kt => XS.icmpNo S.here S.hx rfl (hb hby u_c5_d7) rfl (ii_ge_f (own_sm hi (by omega))) kt) ?_
    show F T (mkF m 10 #[.val (.ref b), .val (.int (Int32.ofNat i)), .val (.ref d), .val (.int (Int32.ofNat i)), .val (.int (Int32.ofNat cs.length)), .val (.int (Int32.ofNat i)), s6] [])
    refine B (fun tgt kt => XS.aloadN S.here S.hx rfl (hb hby u_c5_d10) rfl rfl kt) ?_
    show F T (mkF m 11 #[.val (.ref b), .val (.int (Int32.ofNat i)), .val (.ref d), .val (.int (Int32.ofNat i)), .val (.int (Int32.ofNat cs.length)), .val (.int (Int32.ofNat i)), s6] [(.ref b)])
    refine B (fun tgt kt => XS.iloadN S.here S.hx rfl (hb hby u_c5_d11) rfl kt) ?_
    show F T (mkF m 12 #[.val (.ref b), .val (.int (Int32.ofNat i)), .val (.ref d), .val (.int (Int32.ofNat i)), .val (.int (Int32.ofNat cs.length)), .val (.int (Int32.ofNat i)), s6] [(.int (Int32.ofNat i)), (.ref b)])
    refine Sp.cald B S Vb (own_in hi (by omega)) (own_getD hi (by omega) dv) (hb hby u_c5_d12) ?_
    show F T (mkF m 13 #[.val (.ref b), .val (.int (Int32.ofNat i)), .val (.ref d), .val (.int (Int32.ofNat i)), .val (.int (Int32.ofNat cs.length)), .val (.int (Int32.ofNat i)), s6] [(.int (cs.getD i 0))])
    refine B (fun tgt kt => XS.istore S.here S.hx rfl (hb hby u_c5_d13) rfl (l' := #[.val (.ref b), .val (.int (Int32.ofNat i)), .val (.ref d), .val (.int (Int32.ofNat i)), .val (.int (Int32.ofNat cs.length)), .val (.int (Int32.ofNat i)), .val (.int (cs.getD i 0))]) (u_os ho) kt) ?_
    show F T (mkF m 15 #[.val (.ref b), .val (.int (Int32.ofNat i)), .val (.ref d), .val (.int (Int32.ofNat i)), .val (.int (Int32.ofNat cs.length)), .val (.int (Int32.ofNat i)), .val (.int (cs.getD i 0))] [])
    refine B (fun tgt kt => XS.iload S.here S.hx rfl (hb hby u_c5_d15) rfl kt) ?_
    show F T (mkF m 17 #[.val (.ref b), .val (.int (Int32.ofNat i)), .val (.ref d), .val (.int (Int32.ofNat i)), .val (.int (Int32.ofNat cs.length)), .val (.int (Int32.ofNat i)), .val (.int (cs.getD i 0))] [(.int (cs.getD i 0))])
    refine B (fun tgt kt => XS.sipush S.here S.hx rfl (hb hby u_c5_d17) kt) ?_
    show F T (mkF m 20 #[.val (.ref b), .val (.int (Int32.ofNat i)), .val (.ref d), .val (.int (Int32.ofNat i)), .val (.int (Int32.ofNat cs.length)), .val (.int (Int32.ofNat i)), .val (.int (cs.getD i 0))] [(.int (255 : Int32)), (.int (cs.getD i 0))])
    by_cases hc : (255 : Int32) < cs.getD i 0
    ·
      refine B (fun tgt kt => XS.icmpNo S.here S.hx rfl (hb hby u_c5_d20) rfl (ii_le_f hc) kt) ?_
      show F T (mkF m 23 #[.val (.ref b), .val (.int (Int32.ofNat i)), .val (.ref d), .val (.int (Int32.ofNat i)), .val (.int (Int32.ofNat cs.length)), .val (.int (Int32.ofNat i)), .val (.int (cs.getD i 0))] [])
      refine B (fun tgt kt => XS.iload S.here S.hx rfl (hb hby u_c5_d23) rfl kt) ?_
      show F T (mkF m 25 #[.val (.ref b), .val (.int (Int32.ofNat i)), .val (.ref d), .val (.int (Int32.ofNat i)), .val (.int (Int32.ofNat cs.length)), .val (.int (Int32.ofNat i)), .val (.int (cs.getD i 0))] [(.int (Int32.ofNat i))])
      exact K _ _ i _ S (Keep.refl _ _) hi hc
    ·
      refine B (fun tgt kt => XS.icmpYes S.here S.hx rfl (pc0 := 20) (pc' := 26) rfl (hb hby u_c5_d20) rfl (ii_le_t hc) (by decide) (by decide) kt) ?_
      show F T (mkF m 26 #[.val (.ref b), .val (.int (Int32.ofNat i)), .val (.ref d), .val (.int (Int32.ofNat i)), .val (.int (Int32.ofNat cs.length)), .val (.int (Int32.ofNat i)), .val (.int (cs.getD i 0))] [])
      refine B (fun tgt kt => XS.aloadN S.here S.hx rfl (hb hby u_c5_d26) rfl rfl kt) ?_
      show F T (mkF m 27 #[.val (.ref b), .val (.int (Int32.ofNat i)), .val (.ref d), .val (.int (Int32.ofNat i)), .val (.int (Int32.ofNat cs.length)), .val (.int (Int32.ofNat i)), .val (.int (cs.getD i 0))] [(.ref d)])
      refine B (fun tgt kt => XS.iloadN S.here S.hx rfl (hb hby u_c5_d27) rfl kt) ?_
      show F T (mkF m 28 #[.val (.ref b), .val (.int (Int32.ofNat i)), .val (.ref d), .val (.int (Int32.ofNat i)), .val (.int (Int32.ofNat cs.length)), .val (.int (Int32.ofNat i)), .val (.int (cs.getD i 0))] [(.int (Int32.ofNat i)), (.ref d)])
      refine B (fun tgt kt => XS.iload S.here S.hx rfl (hb hby u_c5_d28) rfl kt) ?_
      show F T (mkF m 30 #[.val (.ref b), .val (.int (Int32.ofNat i)), .val (.ref d), .val (.int (Int32.ofNat i)), .val (.int (Int32.ofNat cs.length)), .val (.int (Int32.ofNat i)), .val (.int (cs.getD i 0))] [(.int (cs.getD i 0)), (.int (Int32.ofNat i)), (.ref d)])
      refine B (fun tgt kt => XT.i2b S.here S.hx rfl (hb hby u_c5_d30) rfl kt) ?_
      show F T (mkF m 31 #[.val (.ref b), .val (.int (Int32.ofNat i)), .val (.ref d), .val (.int (Int32.ofNat i)), .val (.int (Int32.ofNat cs.length)), .val (.int (Int32.ofNat i)), .val (.int (cs.getD i 0))] [(.int (cs.getD i 0).toInt8.toInt32), (.int (Int32.ofNat i)), (.ref d)])
      refine Sp.stB B S Vd (i := i) (own_in hi (by omega)) (own_cl _ (by omega)) (by omega) (own_nbs _) hd (hb hby u_c5_d31) fun T h1 S W Vd => ?_
      show F T (mkF m 32 #[.val (.ref b), .val (.int (Int32.ofNat i)), .val (.ref d), .val (.int (Int32.ofNat i)), .val (.int (Int32.ofNat cs.length)), .val (.int (Int32.ofNat i)), .val (.int (cs.getD i 0))] [])
      refine B (fun tgt kt => XS.iinc S.here S.hx rfl (hb hby u_c5_d32) rfl (l' := #[.val (.ref b), .val (.int ((Int32.ofNat i) + (1 : Int32))), .val (.ref d), .val (.int (Int32.ofNat i)), .val (.int (Int32.ofNat cs.length)), .val (.int (Int32.ofNat i)), .val (.int (cs.getD i 0))]) rfl kt) ?_
      show F T (mkF m 35 #[.val (.ref b), .val (.int ((Int32.ofNat i) + (1 : Int32))), .val (.ref d), .val (.int (Int32.ofNat i)), .val (.int (Int32.ofNat cs.length)), .val (.int (Int32.ofNat i)), .val (.int (cs.getD i 0))] [])
      refine B (fun tgt kt => XS.iinc S.here S.hx rfl (hb hby u_c5_d35) rfl (l' := #[.val (.ref b), .val (.int ((Int32.ofNat i) + (1 : Int32))), .val (.ref d), .val (.int ((Int32.ofNat i) + (1 : Int32))), .val (.int (Int32.ofNat cs.length)), .val (.int (Int32.ofNat i)), .val (.int (cs.getD i 0))]) rfl kt) ?_
      show F T (mkF m 38 #[.val (.ref b), .val (.int ((Int32.ofNat i) + (1 : Int32))), .val (.ref d), .val (.int ((Int32.ofNat i) + (1 : Int32))), .val (.int (Int32.ofNat cs.length)), .val (.int (Int32.ofNat i)), .val (.int (cs.getD i 0))] [])
      refine B (fun tgt kt => XS.iinc S.here S.hx rfl (hb hby u_c5_d38) rfl (l' := #[.val (.ref b), .val (.int ((Int32.ofNat i) + (1 : Int32))), .val (.ref d), .val (.int ((Int32.ofNat i) + (1 : Int32))), .val (.int (Int32.ofNat cs.length)), .val (.int ((Int32.ofNat i) + (1 : Int32))), .val (.int (cs.getD i 0))]) rfl kt) ?_
      show F T (mkF m 41 #[.val (.ref b), .val (.int ((Int32.ofNat i) + (1 : Int32))), .val (.ref d), .val (.int ((Int32.ofNat i) + (1 : Int32))), .val (.int (Int32.ofNat cs.length)), .val (.int ((Int32.ofNat i) + (1 : Int32))), .val (.int (cs.getD i 0))] [])
      refine B (fun tgt kt => XS.goto S.here S.hx rfl (pc0 := 41) (pc' := 3) rfl (hb hby u_c5_d41) (by decide) (by decide) kt) ?_
      show F T (mkF m 3 #[.val (.ref b), .val (.int ((Int32.ofNat i) + (1 : Int32))), .val (.ref d), .val (.int ((Int32.ofNat i) + (1 : Int32))), .val (.int (Int32.ofNat cs.length)), .val (.int ((Int32.ofNat i) + (1 : Int32))), .val (.int (cs.getD i 0))] [])
      rw [own_inc i]
      show F T (mkF m 3 #[.val (.ref b), .val (.int (Int32.ofNat (i + 1))), .val (.ref d), .val (.int (Int32.ofNat (i + 1))), .val (.int (Int32.ofNat cs.length)), .val (.int (Int32.ofNat (i + 1))), .val (.int (cs.getD i 0))] [])
      refine ih (i + 1) _ _ _ _ (by omega) ?_ (One.val rfl) (by rw [List.length_set]; exact hvl) S (Vb.other W hbd) Vd fun T' h' j L S' K2 g1 g2 => K T' h' j L S' ((Keep.of_wr W).trans K2 (fun x hx => Or.inl hx)) g1 g2
      obtain ⟨j, h1, h2, h3⟩ := hex
      exact ⟨j, Nat.lt_of_le_of_ne h1 (fun e => hc (e ▸ h3)), h2, h3⟩
theorem u_c5_ef (m : MethodId) (b d : Addr) (cs : List Int32) : entryFrame m #[(.ref b), (.int 0), (.ref d), (.int 0), (.int (Int32.ofNat cs.length))] 7 = mkF m 0 #[.val (.ref b), .val (.int 0), .val (.ref d), .val (.int 0), .val (.int (Int32.ofNat cs.length)), .unset, .unset] [] := by first | (simp [entryFrame, mkF, argsToLocals, Value.category]; done) | rfl
theorem u_c5_pn : plainFor (⟨"java/lang/StringUTF16", "compress", "([CI[BII)I"⟩ : MethodName) = true := by first | exact plainFor_of_name (by first | (simp [plainName, overriddenIn]; done) | decide +kernel) | decide +kernel
set_option maxRecDepth 65536 in
set_option maxHeartbeats 40000000 in
theorem u_c5 (l : Launch) (Z : State) (a0 : Array Value) (EL : List (String × Nat)) (hw : ∀ d ∈ tables_1, d.before a0 Z = true) (hEW : EW Z a0 EL) (h : Heap) (cs : List Int32) (hn : cs.length ≤ 8) (hex : ∃ j, 0 ≤ j ∧ j < cs.length ∧ (255 : Int32) < cs.getD j 0) (b d : Addr) (hbd : b ≠ d) (kb kd : ClassId) (dv : Value) (V : Arv Z h b kb .char (Int32.ofNat cs.length) (cs.map Value.int) dv) (vs : List Value) (hvl : vs.length = cs.length) (Vd : Arv Z h d kd .byte (Int32.ofNat cs.length) vs (.int 0)) :
    Con l Z EL (⟨"java/lang/StringUTF16", "compress", "([CI[BII)I"⟩ : MethodName) jdk_52_method_21_code 7 (some .int) ({ frames := 0, cells := 0, slots := 0, locals := 0 } : Room) #[(.ref b), (.int 0), (.ref d), (.int 0), (.int (Int32.ofNat cs.length))] h [d] (fun v h' nw => ∃ j, v = some (.int (Int32.ofNat j)) ∧ nw = [] ∧ Keep h h' [d] ∧ j < cs.length ∧ (255 : Int32) < cs.getD j 0) := by
  refine Con.of u_c5_pn hEW ?_
  intro p e s m below meth c T F B hF hby hml hr hlk hnm S
  rw [u_c5_ef]
  show F T (mkF m 0 #[.val (.ref b), .val (.int 0), .val (.ref d), .val (.int 0), .val (.int (Int32.ofNat cs.length)), .unset, .unset] [])
  refine B (fun tgt kt => XS.iconst S.here S.hx rfl (hb hby u_c5_d0) kt) ?_
  show F T (mkF m 1 #[.val (.ref b), .val (.int 0), .val (.ref d), .val (.int 0), .val (.int (Int32.ofNat cs.length)), .unset, .unset] [(.int (0 : Int32))])
  refine B (fun tgt kt => XS.istore S.here S.hx rfl (hb hby u_c5_d1) rfl (l' := #[.val (.ref b), .val (.int 0), .val (.ref d), .val (.int 0), .val (.int (Int32.ofNat cs.length)), .val (.int (0 : Int32)), .unset]) rfl kt) ?_
  show F T (mkF m 3 #[.val (.ref b), .val (.int 0), .val (.ref d), .val (.int 0), .val (.int (Int32.ofNat cs.length)), .val (.int (0 : Int32)), .unset] [])
  refine u_c5l B hby cs hn b d kb kd dv hbd (by simp) cs.length 0 .unset T _ vs (by omega) hex One.u hvl S V Vd fun T h2 j L S K g1 g2 => ?_
  exact hF (S.retI hr hlk (by simp) rfl (hb hby u_c5_d25) (nw := []) ⟨j, rfl, rfl, K, g1, g2⟩ (by simp))
theorem u_c3_d0 : decode jdk_52_method_16_code 0 = .ok (.iload_n 2, 1) := by decide +kernel
theorem u_c3_d1 : decode jdk_52_method_16_code 1 = .ok (.newarray .byte, 2) := by decide +kernel
theorem u_c3_d3 : decode jdk_52_method_16_code 3 = .ok (.astore_n 3, 1) := by decide +kernel
theorem u_c3_d4 : decode jdk_52_method_16_code 4 = .ok (.aload_n 0, 1) := by decide +kernel
theorem u_c3_d5 : decode jdk_52_method_16_code 5 = .ok (.iload_n 1, 1) := by decide +kernel
theorem u_c3_d6 : decode jdk_52_method_16_code 6 = .ok (.aload_n 3, 1) := by decide +kernel
theorem u_c3_d7 : decode jdk_52_method_16_code 7 = .ok (.iconst 0, 1) := by decide +kernel
theorem u_c3_d8 : decode jdk_52_method_16_code 8 = .ok (.iload_n 2, 1) := by decide +kernel
theorem u_c3_d9 : decode jdk_52_method_16_code 9 = .ok (.invokestatic 115, 3) := by decide +kernel
theorem u_c3_d12 : decode jdk_52_method_16_code 12 = .ok (.istore 4, 2) := by decide +kernel
theorem u_c3_d14 : decode jdk_52_method_16_code 14 = .ok (.iload 4, 2) := by decide +kernel
theorem u_c3_d16 : decode jdk_52_method_16_code 16 = .ok (.iload_n 2, 1) := by decide +kernel
theorem u_c3_d17 : decode jdk_52_method_16_code 17 = .ok (.if_icmp .eq 40, 3) := by decide +kernel
theorem u_c3_d20 : decode jdk_52_method_16_code 20 = .ok (.aload_n 0, 1) := by decide +kernel
theorem u_c3_d21 : decode jdk_52_method_16_code 21 = .ok (.iload_n 1, 1) := by decide +kernel
theorem u_c3_d22 : decode jdk_52_method_16_code 22 = .ok (.iload_n 2, 1) := by decide +kernel
theorem u_c3_d23 : decode jdk_52_method_16_code 23 = .ok (.invokestatic 119, 3) := by decide +kernel
theorem u_c3_d26 : decode jdk_52_method_16_code 26 = .ok (.astore 5, 2) := by decide +kernel
theorem u_c3_d28 : decode jdk_52_method_16_code 28 = .ok (.aload 5, 2) := by decide +kernel
theorem u_c3_d30 : decode jdk_52_method_16_code 30 = .ok (.iload 4, 2) := by decide +kernel
theorem u_c3_d32 : decode jdk_52_method_16_code 32 = .ok (.invokestatic 71, 3) := by decide +kernel
theorem u_c3_d35 : decode jdk_52_method_16_code 35 = .ok (.sipush 255, 3) := by decide +kernel
theorem u_c3_d38 : decode jdk_52_method_16_code 38 = .ok (.if_icmp .gt 16, 3) := by decide +kernel
theorem u_c3_d54 : decode jdk_52_method_16_code 54 = .ok (.aload 5, 2) := by decide +kernel
theorem u_c3_d56 : decode jdk_52_method_16_code 56 = .ok (.areturn, 1) := by decide +kernel
theorem u_c3_p71 : parseMethodDescriptor "([BI)C" = some ⟨[(.array .byte), .int], (some .char)⟩ := by decide +kernel
theorem u_c3_p115 : parseMethodDescriptor "([CI[BII)I" = some ⟨[(.array .char), .int, (.array .byte), .int, .int], (some .int)⟩ := by decide +kernel
theorem u_c3_p119 : parseMethodDescriptor "([CII)[B" = some ⟨[(.array .char), .int, .int], (some (.array .byte))⟩ := by decide +kernel
theorem u_c3_ef (m : MethodId) (b : Addr) (cs : List Int32) : entryFrame m #[(.ref b), (.int 0), (.int (Int32.ofNat cs.length))] 6 = mkF m 0 #[.val (.ref b), .val (.int 0), .val (.int (Int32.ofNat cs.length)), .unset, .unset, .unset] [] := by first | (simp [entryFrame, mkF, argsToLocals, Value.category]; done) | rfl
theorem u_c3_pn : plainFor (⟨"java/lang/StringUTF16", "compress", "([CII)[B"⟩ : MethodName) = true := by first | exact plainFor_of_name (by first | (simp [plainName, overriddenIn]; done) | decide +kernel) | decide +kernel
set_option maxRecDepth 65536 in
set_option maxHeartbeats 40000000 in
theorem u_c3 (l : Launch) (Z : State) (a0 : Array Value) (EL : List (String × Nat)) (hw : ∀ d ∈ tables_1, d.before a0 Z = true) (hEW : EW Z a0 EL) (h : Heap) (AD : Sta Z Z.heap "java/lang/StringUTF16" "$assertionsDisabled" "Z" (.int 1)) (HI : Sta Z Z.heap "java/lang/StringUTF16" "HI_BYTE_SHIFT" "I" (.int 0)) (LO : Sta Z Z.heap "java/lang/StringUTF16" "LO_BYTE_SHIFT" "I" (.int 8)) (cs : List Int32) (hn : cs.length ≤ 8) (hbd : ∀ c ∈ cs, ¬ c < 0 ∧ ¬ (65535 : Int32) < c) (hex : ∃ j, 0 ≤ j ∧ j < cs.length ∧ (255 : Int32) < cs.getD j 0) (b : Addr) (kb : ClassId) (dv : Value) (V : Arv Z h b kb .char (Int32.ofNat cs.length) (cs.map Value.int) dv) :
    Con l Z EL (⟨"java/lang/StringUTF16", "compress", "([CII)[B"⟩ : MethodName) jdk_52_method_16_code 6 (some (.array .byte)) ({ frames := 3, cells := 2, slots := 24, locals := 40 } : Room) #[(.ref b), (.int 0), (.int (Int32.ofNat cs.length))] h [] (fun v h' nw => ∃ u ku, v = some (.ref u) ∧ nw = [u] ∧ h.size ≤ u ∧ Keep h h' [] ∧ Arv Z h' u ku .byte (Int32.ofNat (2 * cs.length)) (StrChars.Road.wideBytes cs) (.int 0)) := by
  refine Con.of u_c3_pn hEW ?_
  intro p e s m below meth c T F B hF hby hml hr hlk hnm S
  rw [u_c3_ef]
  have lb := natlt V.lt
  have KK := Keep.refl h []
  show F T (mkF m 0 #[.val (.ref b), .val (.int 0), .val (.int (Int32.ofNat cs.length)), .unset, .unset, .unset] [])
  refine B (fun tgt kt => XS.iloadN S.here S.hx rfl (hb hby u_c3_d0) rfl kt) ?_
  show F T (mkF m 1 #[.val (.ref b), .val (.int 0), .val (.int (Int32.ofNat cs.length)), .unset, .unset, .unset] [(.int (Int32.ofNat cs.length))])
  refine Sp.newP B S (cap := 8) (hw _ (List.mem_of_getElem? (i := 20) rfl)) (hb hby u_c3_d1) (own_nn _ (by omega)) (by rw [own_cl _ (by omega)]; omega) (by decide) (by decide) (by decide) (ad := "[B") (by decide) fun T h1 d kd S E gd Xd Vd => ?_
  show F T (mkF m 3 #[.val (.ref b), .val (.int 0), .val (.int (Int32.ofNat cs.length)), .unset, .unset, .unset] [(.ref d)])
  replace V := V.ext E
  replace KK := KK.ext E
  replace Vd := Vd.pad (pad_rep [] (.int 0) cs.length)
  have ld := natlt Vd.lt
  refine B (fun tgt kt => XS.astoreN S.here S.hx rfl (hb hby u_c3_d3) rfl rfl (l' := #[.val (.ref b), .val (.int 0), .val (.int (Int32.ofNat cs.length)), .val (.ref d), .unset, .unset]) rfl kt) ?_
  show F T (mkF m 4 #[.val (.ref b), .val (.int 0), .val (.int (Int32.ofNat cs.length)), .val (.ref d), .unset, .unset] [])
  refine B (fun tgt kt => XS.aloadN S.here S.hx rfl (hb hby u_c3_d4) rfl rfl kt) ?_
  show F T (mkF m 5 #[.val (.ref b), .val (.int 0), .val (.int (Int32.ofNat cs.length)), .val (.ref d), .unset, .unset] [(.ref b)])
  refine B (fun tgt kt => XS.iloadN S.here S.hx rfl (hb hby u_c3_d5) rfl kt) ?_
  show F T (mkF m 6 #[.val (.ref b), .val (.int 0), .val (.int (Int32.ofNat cs.length)), .val (.ref d), .unset, .unset] [(.int 0), (.ref b)])
  refine B (fun tgt kt => XS.aloadN S.here S.hx rfl (hb hby u_c3_d6) rfl rfl kt) ?_
  show F T (mkF m 7 #[.val (.ref b), .val (.int 0), .val (.int (Int32.ofNat cs.length)), .val (.ref d), .unset, .unset] [(.ref d), (.int 0), (.ref b)])
  refine B (fun tgt kt => XS.iconst S.here S.hx rfl (hb hby u_c3_d7) kt) ?_
  show F T (mkF m 8 #[.val (.ref b), .val (.int 0), .val (.int (Int32.ofNat cs.length)), .val (.ref d), .unset, .unset] [(.int (0 : Int32)), (.ref d), (.int 0), (.ref b)])
  refine B (fun tgt kt => XS.iloadN S.here S.hx rfl (hb hby u_c3_d8) rfl kt) ?_
  show F T (mkF m 9 #[.val (.ref b), .val (.int 0), .val (.int (Int32.ofNat cs.length)), .val (.ref d), .unset, .unset] [(.int (Int32.ofNat cs.length)), (.int (0 : Int32)), (.ref d), (.int 0), (.ref b)])
  refine Sp.static B S (y := (⟨"java/lang/StringUTF16", "compress", "([CI[BII)I"⟩ : MethodName)) (argsL := [(.ref b), (.int 0), (.ref d), (.int (0 : Int32)), (.int (Int32.ofNat cs.length))]) (rest := []) (hw _ (List.mem_of_getElem? (i := 21) rfl)) (hw _ (List.mem_of_getElem? (i := 22) rfl)) (hw _ (List.mem_of_getElem? (i := 18) rfl)) (hw _ (List.mem_of_getElem? (i := 23) rfl)) (by decide) (Call.con (W := 0) (u_c5 l Z a0 EL hw hEW h1 cs hn hex b d (natne (by omega)) kb kd dv V _ (by simp) Vd) (hw _ (List.mem_of_getElem? (i := 23) rfl)) (hw _ (List.mem_of_getElem? (i := 18) rfl)) (by decide) (by decide)) (by simp) (by decide) (by decide) (by rw [hml]; rfl) (lenOf u_c3_p115 rfl) rfl (Nat.le_of_eq rfl) (hb hby u_c3_d9) fun v T h2 nw S hQ => ?_
  obtain ⟨j, rfl, rfl, K, hj, hjb⟩ := hQ
  replace V := V.keep K (nin1 (by omega))
  replace KK := KK.trans K (qk1 (by first | (refine Or.inl ?_; simp; done) | (refine Or.inr ?_; omega)))
  show F T (mkF m 12 #[.val (.ref b), .val (.int 0), .val (.int (Int32.ofNat cs.length)), .val (.ref d), .unset, .unset] [(.int (Int32.ofNat j))])
  refine B (fun tgt kt => XS.istore S.here S.hx rfl (hb hby u_c3_d12) rfl (l' := #[.val (.ref b), .val (.int 0), .val (.int (Int32.ofNat cs.length)), .val (.ref d), .val (.int (Int32.ofNat j)), .unset]) rfl kt) ?_
  show F T (mkF m 14 #[.val (.ref b), .val (.int 0), .val (.int (Int32.ofNat cs.length)), .val (.ref d), .val (.int (Int32.ofNat j)), .unset] [])
  refine B (fun tgt kt => XS.iload S.here S.hx rfl (hb hby u_c3_d14) rfl kt) ?_
  show F T (mkF m 16 #[.val (.ref b), .val (.int 0), .val (.int (Int32.ofNat cs.length)), .val (.ref d), .val (.int (Int32.ofNat j)), .unset] [(.int (Int32.ofNat j))])
  refine B (fun tgt kt => XS.iloadN S.here S.hx rfl (hb hby u_c3_d16) rfl kt) ?_
  show F T (mkF m 17 #[.val (.ref b), .val (.int 0), .val (.int (Int32.ofNat cs.length)), .val (.ref d), .val (.int (Int32.ofNat j)), .unset] [(.int (Int32.ofNat cs.length)), (.int (Int32.ofNat j))])
  refine B (fun tgt kt => XS.icmpNo S.here S.hx rfl (hb hby u_c3_d17) rfl (ii_eq_f (own_inj hj (by omega))) kt) ?_
  show F T (mkF m 20 #[.val (.ref b), .val (.int 0), .val (.int (Int32.ofNat cs.length)), .val (.ref d), .val (.int (Int32.ofNat j)), .unset] [])
  refine B (fun tgt kt => XS.aloadN S.here S.hx rfl (hb hby u_c3_d20) rfl rfl kt) ?_
  show F T (mkF m 21 #[.val (.ref b), .val (.int 0), .val (.int (Int32.ofNat cs.length)), .val (.ref d), .val (.int (Int32.ofNat j)), .unset] [(.ref b)])
  refine B (fun tgt kt => XS.iloadN S.here S.hx rfl (hb hby u_c3_d21) rfl kt) ?_
  show F T (mkF m 22 #[.val (.ref b), .val (.int 0), .val (.int (Int32.ofNat cs.length)), .val (.ref d), .val (.int (Int32.ofNat j)), .unset] [(.int 0), (.ref b)])
  refine B (fun tgt kt => XS.iloadN S.here S.hx rfl (hb hby u_c3_d22) rfl kt) ?_
  show F T (mkF m 23 #[.val (.ref b), .val (.int 0), .val (.int (Int32.ofNat cs.length)), .val (.ref d), .val (.int (Int32.ofNat j)), .unset] [(.int (Int32.ofNat cs.length)), (.int 0), (.ref b)])
  have gk := KK.1
  refine Sp.static B S (y := (⟨"java/lang/StringUTF16", "toBytes", "([CII)[B"⟩ : MethodName)) (argsL := [(.ref b), (.int 0), (.int (Int32.ofNat cs.length))]) (rest := []) (hw _ (List.mem_of_getElem? (i := 92) rfl)) (hw _ (List.mem_of_getElem? (i := 93) rfl)) (hw _ (List.mem_of_getElem? (i := 18) rfl)) (hw _ (List.mem_of_getElem? (i := 94) rfl)) (by decide) (Call.con (W := 0) (u_tb l Z a0 EL hw hEW h2 AD HI LO cs hn b kb dv V) (hw _ (List.mem_of_getElem? (i := 94) rfl)) (hw _ (List.mem_of_getElem? (i := 18) rfl)) (by decide) (by decide)) (by simp) (by decide) (by decide) (by rw [hml]; rfl) (lenOf u_c3_p119 rfl) rfl (Nat.le_of_eq rfl) (hb hby u_c3_d23) fun v T h3 nw S hQ => ?_
  obtain ⟨u, ku, rfl, rfl, gu, K, Vu⟩ := hQ
  replace KK := KK.trans K (fun x hx => nomatch hx)
  show F T (mkF m 26 #[.val (.ref b), .val (.int 0), .val (.int (Int32.ofNat cs.length)), .val (.ref d), .val (.int (Int32.ofNat j)), .unset] [(.ref u)])
  refine B (fun tgt kt => XS.astore S.here S.hx rfl (hb hby u_c3_d26) rfl rfl (l' := #[.val (.ref b), .val (.int 0), .val (.int (Int32.ofNat cs.length)), .val (.ref d), .val (.int (Int32.ofNat j)), .val (.ref u)]) rfl kt) ?_
  show F T (mkF m 28 #[.val (.ref b), .val (.int 0), .val (.int (Int32.ofNat cs.length)), .val (.ref d), .val (.int (Int32.ofNat j)), .val (.ref u)] [])
  refine B (fun tgt kt => XS.aload S.here S.hx rfl (hb hby u_c3_d28) rfl rfl kt) ?_
  show F T (mkF m 30 #[.val (.ref b), .val (.int 0), .val (.int (Int32.ofNat cs.length)), .val (.ref d), .val (.int (Int32.ofNat j)), .val (.ref u)] [(.ref u)])
  refine B (fun tgt kt => XS.iload S.here S.hx rfl (hb hby u_c3_d30) rfl kt) ?_
  show F T (mkF m 32 #[.val (.ref b), .val (.int 0), .val (.int (Int32.ofNat cs.length)), .val (.ref d), .val (.int (Int32.ofNat j)), .val (.ref u)] [(.int (Int32.ofNat j)), (.ref u)])
  have hg : cs.getD j 0 ∈ cs := by rw [List.getD_eq_getElem?_getD, List.getElem?_eq_getElem hj]; exact List.getElem_mem _
  refine Sp.static B S (y := (⟨"java/lang/StringUTF16", "getChar", "([BI)C"⟩ : MethodName)) (argsL := [(.ref u), (.int (Int32.ofNat j))]) (rest := []) (hw _ (List.mem_of_getElem? (i := 108) rfl)) (hw _ (List.mem_of_getElem? (i := 109) rfl)) (hw _ (List.mem_of_getElem? (i := 18) rfl)) (hw _ (List.mem_of_getElem? (i := 110) rfl)) (by decide) (Call.con (W := 0) (u_gc l Z a0 EL hw hEW h3 AD HI LO cs hn j hj (hbd _ hg) u ku Vu) (hw _ (List.mem_of_getElem? (i := 110) rfl)) (hw _ (List.mem_of_getElem? (i := 18) rfl)) (by decide) (by decide)) (by simp) (by decide) (by decide) (by rw [hml]; rfl) (lenOf u_c3_p71 rfl) rfl (Nat.le_of_eq rfl) (hb hby u_c3_d32) fun v T h4 nw S hQ => ?_
  obtain ⟨rfl, rfl, rfl⟩ := hQ
  show F T (mkF m 35 #[.val (.ref b), .val (.int 0), .val (.int (Int32.ofNat cs.length)), .val (.ref d), .val (.int (Int32.ofNat j)), .val (.ref u)] [(.int (cs.getD j 0))])
  refine B (fun tgt kt => XS.sipush S.here S.hx rfl (hb hby u_c3_d35) kt) ?_
  show F T (mkF m 38 #[.val (.ref b), .val (.int 0), .val (.int (Int32.ofNat cs.length)), .val (.ref d), .val (.int (Int32.ofNat j)), .val (.ref u)] [(.int (255 : Int32)), (.int (cs.getD j 0))])
  refine B (fun tgt kt => XS.icmpYes S.here S.hx rfl (pc0 := 38) (pc' := 54) rfl (hb hby u_c3_d38) rfl (ii_gt_t hjb) (by decide) (by decide) kt) ?_
  show F T (mkF m 54 #[.val (.ref b), .val (.int 0), .val (.int (Int32.ofNat cs.length)), .val (.ref d), .val (.int (Int32.ofNat j)), .val (.ref u)] [])
  refine B (fun tgt kt => XS.aload S.here S.hx rfl (hb hby u_c3_d54) rfl rfl kt) ?_
  show F T (mkF m 56 #[.val (.ref b), .val (.int 0), .val (.int (Int32.ofNat cs.length)), .val (.ref d), .val (.int (Int32.ofNat j)), .val (.ref u)] [(.ref u)])
  exact hF (S.retA hr hlk rfl rfl (hb hby u_c3_d56) (nw := [u]) ⟨u, ku, rfl, rfl, by omega, KK, Vu⟩ (by simp))
theorem u_cod_d0 : decode jdk_52_method_15_code 0 = .ok (.iload_n 1, 1) := by decide +kernel
theorem u_cod_d1 : decode jdk_52_method_15_code 1 = .ok (.aload_n 0, 1) := by decide +kernel
theorem u_cod_d2 : decode jdk_52_method_15_code 2 = .ok (.arraylength, 1) := by decide +kernel
theorem u_cod_d3 : decode jdk_52_method_15_code 3 = .ok (.isub, 1) := by decide +kernel
theorem u_cod_d4 : decode jdk_52_method_15_code 4 = .ok (.bipush 31, 2) := by decide +kernel
theorem u_cod_d6 : decode jdk_52_method_15_code 6 = .ok (.iushr, 1) := by decide +kernel
theorem u_cod_d7 : decode jdk_52_method_15_code 7 = .ok (.i2b, 1) := by decide +kernel
theorem u_cod_d8 : decode jdk_52_method_15_code 8 = .ok (.ireturn, 1) := by decide +kernel
theorem u_cod_ef (m : MethodId) (u : Addr) (n : Nat) : entryFrame m #[(.ref u), (.int (Int32.ofNat n))] 2 = mkF m 0 #[.val (.ref u), .val (.int (Int32.ofNat n))] [] := by first | (simp [entryFrame, mkF, argsToLocals, Value.category]; done) | rfl
theorem u_cod_pn : plainFor (⟨"java/lang/StringUTF16", "coderFromArrayLen", "([BI)B"⟩ : MethodName) = true := by first | exact plainFor_of_name (by first | (simp [plainName, overriddenIn]; done) | decide +kernel) | decide +kernel
set_option maxRecDepth 65536 in
set_option maxHeartbeats 40000000 in
theorem u_cod (l : Launch) (Z : State) (a0 : Array Value) (EL : List (String × Nat)) (hw : ∀ d ∈ tables_1, d.before a0 Z = true) (hEW : EW Z a0 EL) (h : Heap) (n : Nat) (h0 : 0 < n) (hn : n ≤ 8) (u : Addr) (ku : ClassId) (vs : List Value) (V : Arv Z h u ku .byte (Int32.ofNat (2 * n)) vs (.int 0)) :
    Con l Z EL (⟨"java/lang/StringUTF16", "coderFromArrayLen", "([BI)B"⟩ : MethodName) jdk_52_method_15_code 2 (some .byte) ({ frames := 0, cells := 0, slots := 0, locals := 0 } : Room) #[(.ref u), (.int (Int32.ofNat n))] h [] (fun v h' nw => v = some (.int 1) ∧ nw = [] ∧ h = h') := by
  refine Con.of u_cod_pn hEW ?_
  intro p e s m below meth c T F B hF hby hml hr hlk hnm S
  rw [u_cod_ef]
  show F T (mkF m 0 #[.val (.ref u), .val (.int (Int32.ofNat n))] [])
  refine B (fun tgt kt => XS.iloadN S.here S.hx rfl (hb hby u_cod_d0) rfl kt) ?_
  show F T (mkF m 1 #[.val (.ref u), .val (.int (Int32.ofNat n))] [(.int (Int32.ofNat n))])
  refine B (fun tgt kt => XS.aloadN S.here S.hx rfl (hb hby u_cod_d1) rfl rfl kt) ?_
  show F T (mkF m 2 #[.val (.ref u), .val (.int (Int32.ofNat n))] [(.ref u), (.int (Int32.ofNat n))])
  refine Sp.alen B S V (hb hby u_cod_d2) ?_
  show F T (mkF m 3 #[.val (.ref u), .val (.int (Int32.ofNat n))] [(.int (Int32.ofNat (2 * n))), (.int (Int32.ofNat n))])
  refine B (fun tgt kt => XS.isub S.here S.hx rfl (hb hby u_cod_d3) rfl kt) ?_
  show F T (mkF m 4 #[.val (.ref u), .val (.int (Int32.ofNat n))] [(.int ((Int32.ofNat n) - (Int32.ofNat (2 * n))))])
  refine B (fun tgt kt => XS.bipush S.here S.hx rfl (hb hby u_cod_d4) kt) ?_
  show F T (mkF m 6 #[.val (.ref u), .val (.int (Int32.ofNat n))] [(.int (31 : Int32)), (.int ((Int32.ofNat n) - (Int32.ofNat (2 * n))))])
  refine B (fun tgt kt => XT.iushr S.here S.hx rfl (hb hby u_cod_d6) rfl kt) ?_
  show F T (mkF m 7 #[.val (.ref u), .val (.int (Int32.ofNat n))] [(.int (((Int32.ofNat n) - (Int32.ofNat (2 * n))).toUInt32 >>> ((31 : Int32) &&& 31).toUInt32).toInt32)])
  refine B (fun tgt kt => XT.i2b S.here S.hx rfl (hb hby u_cod_d7) rfl kt) ?_
  show F T (mkF m 8 #[.val (.ref u), .val (.int (Int32.ofNat n))] [(.int (((Int32.ofNat n) - (Int32.ofNat (2 * n))).toUInt32 >>> ((31 : Int32) &&& 31).toUInt32).toInt32.toInt8.toInt32)])
  rw [own_cod n h0 hn]
  exact hF (S.retI hr hlk (by simp) (by decide) (hb hby u_cod_d8) (nw := []) ⟨rfl, rfl, rfl⟩ (by simp))
theorem u_n4_d0 : decode jdk_42_method_149_code 0 = .ok (.aload_n 0, 1) := by decide +kernel
theorem u_n4_d1 : decode jdk_42_method_149_code 1 = .ok (.invokespecial 1, 3) := by decide +kernel
theorem u_n4_d4 : decode jdk_42_method_149_code 4 = .ok (.iload_n 3, 1) := by decide +kernel
theorem u_n4_d5 : decode jdk_42_method_149_code 5 = .ok (.ifCond .ne 22, 3) := by decide +kernel
theorem u_n4_d27 : decode jdk_42_method_149_code 27 = .ok (.getstatic 38, 3) := by decide +kernel
theorem u_n4_d30 : decode jdk_42_method_149_code 30 = .ok (.ifCond .eq 28, 3) := by decide +kernel
theorem u_n4_d33 : decode jdk_42_method_149_code 33 = .ok (.aload_n 1, 1) := by decide +kernel
theorem u_n4_d34 : decode jdk_42_method_149_code 34 = .ok (.iload_n 2, 1) := by decide +kernel
theorem u_n4_d35 : decode jdk_42_method_149_code 35 = .ok (.iload_n 3, 1) := by decide +kernel
theorem u_n4_d36 : decode jdk_42_method_149_code 36 = .ok (.invokestatic 177, 3) := by decide +kernel
theorem u_n4_d39 : decode jdk_42_method_149_code 39 = .ok (.astore 5, 2) := by decide +kernel
theorem u_n4_d41 : decode jdk_42_method_149_code 41 = .ok (.aload_n 0, 1) := by decide +kernel
theorem u_n4_d42 : decode jdk_42_method_149_code 42 = .ok (.aload 5, 2) := by decide +kernel
theorem u_n4_d44 : decode jdk_42_method_149_code 44 = .ok (.iload_n 3, 1) := by decide +kernel
theorem u_n4_d45 : decode jdk_42_method_149_code 45 = .ok (.invokestatic 47, 3) := by decide +kernel
theorem u_n4_d48 : decode jdk_42_method_149_code 48 = .ok (.putfield 15, 3) := by decide +kernel
theorem u_n4_d51 : decode jdk_42_method_149_code 51 = .ok (.aload_n 0, 1) := by decide +kernel
theorem u_n4_d52 : decode jdk_42_method_149_code 52 = .ok (.aload 5, 2) := by decide +kernel
theorem u_n4_d54 : decode jdk_42_method_149_code 54 = .ok (.putfield 9, 3) := by decide +kernel
theorem u_n4_d57 : decode jdk_42_method_149_code 57 = .ok (.return_, 1) := by decide +kernel
theorem u_n4_p47 : parseMethodDescriptor "([BI)B" = some ⟨[(.array .byte), .int], (some .byte)⟩ := by decide +kernel
theorem u_n4_p177 : parseMethodDescriptor "([CII)[B" = some ⟨[(.array .char), .int, .int], (some (.array .byte))⟩ := by decide +kernel
theorem u_n4_ef (m : MethodId) (x b : Addr) (cs : List Int32) : entryFrame m #[(.ref x), (.ref b), (.int 0), (.int (Int32.ofNat cs.length)), (.null)] 6 = mkF m 0 #[.val (.ref x), .val (.ref b), .val (.int 0), .val (.int (Int32.ofNat cs.length)), .val (.null), .unset] [] := by first | (simp [entryFrame, mkF, argsToLocals, Value.category]; done) | rfl
theorem u_n4_pn : plainFor (⟨"java/lang/String", "<init>", "([CIILjava/lang/Void;)V"⟩ : MethodName) = true := by first | exact plainFor_of_name (by first | (simp [plainName, overriddenIn]; done) | decide +kernel) | decide +kernel
set_option maxRecDepth 65536 in
set_option maxHeartbeats 40000000 in
theorem u_n4 (l : Launch) (Z : State) (a0 : Array Value) (EL : List (String × Nat)) (hw : ∀ d ∈ tables_1, d.before a0 Z = true) (hEW : EW Z a0 EL) (h : Heap) (zc : Int32) (CS : Sta Z Z.heap "java/lang/String" "COMPACT_STRINGS" "Z" (.int zc)) (hzc : ¬ zc = 0) (AD : Sta Z Z.heap "java/lang/StringUTF16" "$assertionsDisabled" "Z" (.int 1)) (HI : Sta Z Z.heap "java/lang/StringUTF16" "HI_BYTE_SHIFT" "I" (.int 0)) (LO : Sta Z Z.heap "java/lang/StringUTF16" "LO_BYTE_SHIFT" "I" (.int 8)) (cs : List Int32) (hn : cs.length ≤ 8) (hbd : ∀ c ∈ cs, ¬ c < 0 ∧ ¬ (65535 : Int32) < c) (hex : ∃ j, 0 ≤ j ∧ j < cs.length ∧ (255 : Int32) < cs.getD j 0) (x b : Addr) (hxb : x ≠ b) (v0 c0 : Value) (O : Ob Z a0 h x "java/lang/String" [("java/lang/String", "value", "[B", v0), ("java/lang/String", "coder", "B", c0)]) (kb : ClassId) (dv : Value) (V : Arv Z h b kb .char (Int32.ofNat cs.length) (cs.map Value.int) dv) :
    Con l Z EL (⟨"java/lang/String", "<init>", "([CIILjava/lang/Void;)V"⟩ : MethodName) jdk_42_method_149_code 6 none ({ frames := 4, cells := 2, slots := 24, locals := 57 } : Room) #[(.ref x), (.ref b), (.int 0), (.int (Int32.ofNat cs.length)), (.null)] h [x] (fun v h' nw => v = none ∧ nw = [] ∧ Keep h h' [x] ∧ ∃ t kb, h.size ≤ t ∧ Ob Z a0 h' x "java/lang/String" [("java/lang/String", "value", "[B", (.ref t)), ("java/lang/String", "coder", "B", (.int 1))] ∧ Arv Z h' t kb .byte (Int32.ofNat (2 * cs.length)) (StrChars.Road.wideBytes cs) (.int 0)) := by
  refine Con.of u_n4_pn hEW ?_
  intro p e s m below meth c T F B hF hby hml hr hlk hnm S
  rw [u_n4_ef]
  have lx := natlt O.lt
  have h0 : 0 < cs.length := by obtain ⟨j, _, h2, _⟩ := hex; omega
  have KK := Keep.refl h [x]
  show F T (mkF m 0 #[.val (.ref x), .val (.ref b), .val (.int 0), .val (.int (Int32.ofNat cs.length)), .val (.null), .unset] [])
  refine B (fun tgt kt => XS.aloadN S.here S.hx rfl (hb hby u_n4_d0) rfl rfl kt) ?_
  show F T (mkF m 1 #[.val (.ref x), .val (.ref b), .val (.int 0), .val (.int (Int32.ofNat cs.length)), .val (.null), .unset] [(.ref x)])
  refine Sp.initO B S (hw _ (List.mem_of_getElem? (i := 12) rfl)) (hw _ (List.mem_of_getElem? (i := 13) rfl)) (hw _ (List.mem_of_getElem? (i := 14) rfl)) (by rw [hml]; rfl) (hb hby u_n4_d1) (by decide) (W := 0) (by decide) (by decide) fun T S => ?_
  show F T (mkF m 4 #[.val (.ref x), .val (.ref b), .val (.int 0), .val (.int (Int32.ofNat cs.length)), .val (.null), .unset] [])
  refine B (fun tgt kt => XS.iloadN S.here S.hx rfl (hb hby u_n4_d4) rfl kt) ?_
  show F T (mkF m 5 #[.val (.ref x), .val (.ref b), .val (.int 0), .val (.int (Int32.ofNat cs.length)), .val (.null), .unset] [(.int (Int32.ofNat cs.length))])
  refine B (fun tgt kt => XS.ifYes S.here S.hx rfl (pc0 := 5) (pc' := 27) rfl (hb hby u_n4_d5) rfl (i0_ne_t (fun e => own_inj h0 (by omega) e.symm)) (by decide) (by decide) kt) ?_
  show F T (mkF m 27 #[.val (.ref x), .val (.ref b), .val (.int 0), .val (.int (Int32.ofNat cs.length)), .val (.null), .unset] [])
  refine Sp.getS B S (hw _ (List.mem_of_getElem? (i := 15) rfl)) Via.refl CS (hb hby u_n4_d27) fun T S => ?_
  show F T (mkF m 30 #[.val (.ref x), .val (.ref b), .val (.int 0), .val (.int (Int32.ofNat cs.length)), .val (.null), .unset] [(.int zc)])
  refine B (fun tgt kt => XS.ifNo S.here S.hx rfl (hb hby u_n4_d30) rfl (i0_eq_f hzc) kt) ?_
  show F T (mkF m 33 #[.val (.ref x), .val (.ref b), .val (.int 0), .val (.int (Int32.ofNat cs.length)), .val (.null), .unset] [])
  refine B (fun tgt kt => XS.aloadN S.here S.hx rfl (hb hby u_n4_d33) rfl rfl kt) ?_
  show F T (mkF m 34 #[.val (.ref x), .val (.ref b), .val (.int 0), .val (.int (Int32.ofNat cs.length)), .val (.null), .unset] [(.ref b)])
  refine B (fun tgt kt => XS.iloadN S.here S.hx rfl (hb hby u_n4_d34) rfl kt) ?_
  show F T (mkF m 35 #[.val (.ref x), .val (.ref b), .val (.int 0), .val (.int (Int32.ofNat cs.length)), .val (.null), .unset] [(.int 0), (.ref b)])
  refine B (fun tgt kt => XS.iloadN S.here S.hx rfl (hb hby u_n4_d35) rfl kt) ?_
  show F T (mkF m 36 #[.val (.ref x), .val (.ref b), .val (.int 0), .val (.int (Int32.ofNat cs.length)), .val (.null), .unset] [(.int (Int32.ofNat cs.length)), (.int 0), (.ref b)])
  refine Sp.static B S (y := (⟨"java/lang/StringUTF16", "compress", "([CII)[B"⟩ : MethodName)) (argsL := [(.ref b), (.int 0), (.int (Int32.ofNat cs.length))]) (rest := []) (hw _ (List.mem_of_getElem? (i := 16) rfl)) (hw _ (List.mem_of_getElem? (i := 17) rfl)) (hw _ (List.mem_of_getElem? (i := 18) rfl)) (hw _ (List.mem_of_getElem? (i := 19) rfl)) (by decide) (Call.con (W := 0) (u_c3 l Z a0 EL hw hEW h AD HI LO cs hn hbd hex b kb dv V) (hw _ (List.mem_of_getElem? (i := 19) rfl)) (hw _ (List.mem_of_getElem? (i := 18) rfl)) (by decide) (by decide)) (by simp) (by decide) (by decide) (by rw [hml]; rfl) (lenOf u_n4_p177 rfl) rfl (Nat.le_of_eq rfl) (hb hby u_n4_d36) fun v T h1 nw S hQ => ?_
  obtain ⟨u, ku, rfl, rfl, gu, K, Vu⟩ := hQ
  replace O := O.keep K (by simp)
  replace KK := KK.trans K (fun x hx => nomatch hx)
  show F T (mkF m 39 #[.val (.ref x), .val (.ref b), .val (.int 0), .val (.int (Int32.ofNat cs.length)), .val (.null), .unset] [(.ref u)])
  refine B (fun tgt kt => XS.astore S.here S.hx rfl (hb hby u_n4_d39) rfl rfl (l' := #[.val (.ref x), .val (.ref b), .val (.int 0), .val (.int (Int32.ofNat cs.length)), .val (.null), .val (.ref u)]) rfl kt) ?_
  show F T (mkF m 41 #[.val (.ref x), .val (.ref b), .val (.int 0), .val (.int (Int32.ofNat cs.length)), .val (.null), .val (.ref u)] [])
  refine B (fun tgt kt => XS.aloadN S.here S.hx rfl (hb hby u_n4_d41) rfl rfl kt) ?_
  show F T (mkF m 42 #[.val (.ref x), .val (.ref b), .val (.int 0), .val (.int (Int32.ofNat cs.length)), .val (.null), .val (.ref u)] [(.ref x)])
  refine B (fun tgt kt => XS.aload S.here S.hx rfl (hb hby u_n4_d42) rfl rfl kt) ?_
  show F T (mkF m 44 #[.val (.ref x), .val (.ref b), .val (.int 0), .val (.int (Int32.ofNat cs.length)), .val (.null), .val (.ref u)] [(.ref u), (.ref x)])
  refine B (fun tgt kt => XS.iloadN S.here S.hx rfl (hb hby u_n4_d44) rfl kt) ?_
  show F T (mkF m 45 #[.val (.ref x), .val (.ref b), .val (.int 0), .val (.int (Int32.ofNat cs.length)), .val (.null), .val (.ref u)] [(.int (Int32.ofNat cs.length)), (.ref u), (.ref x)])
  refine Sp.static B S (y := (⟨"java/lang/StringUTF16", "coderFromArrayLen", "([BI)B"⟩ : MethodName)) (argsL := [(.ref u), (.int (Int32.ofNat cs.length))]) (rest := [(.ref x)]) (hw _ (List.mem_of_getElem? (i := 24) rfl)) (hw _ (List.mem_of_getElem? (i := 25) rfl)) (hw _ (List.mem_of_getElem? (i := 18) rfl)) (hw _ (List.mem_of_getElem? (i := 26) rfl)) (by decide) (Call.con (W := 1) (u_cod l Z a0 EL hw hEW h1 cs.length h0 hn u ku _ Vu) (hw _ (List.mem_of_getElem? (i := 26) rfl)) (hw _ (List.mem_of_getElem? (i := 18) rfl)) (by decide) (by decide)) (by simp) (by decide) (by decide) (by rw [hml]; rfl) (lenOf u_n4_p47 rfl) rfl (Nat.le_of_eq rfl) (hb hby u_n4_d45) fun v T h2 nw S hQ => ?_
  obtain ⟨rfl, rfl, rfl⟩ := hQ
  show F T (mkF m 48 #[.val (.ref x), .val (.ref b), .val (.int 0), .val (.int (Int32.ofNat cs.length)), .val (.null), .val (.ref u)] [(.int 1), (.ref x)])
  refine Sp.putO B S (hw _ (List.mem_of_getElem? (i := 27) rfl)) O (i := 1) rfl (ns := ["value", "coder"]) rfl (by decide) (Or.inr ⟨(hw _ (List.mem_of_getElem? (i := 28) rfl)), rfl, hnm⟩) (hw _ (List.mem_of_getElem? (i := 3) rfl)) (ty := .byte) (by decide) (v' := .int 1) rfl rfl (by simp) (hb hby u_n4_d48) fun T h3 S K O => ?_
  replace O : Ob Z a0 h3 x "java/lang/String" [("java/lang/String", "value", "[B", v0), ("java/lang/String", "coder", "B", (.int 1))] := O
  show F T (mkF m 51 #[.val (.ref x), .val (.ref b), .val (.int 0), .val (.int (Int32.ofNat cs.length)), .val (.null), .val (.ref u)] [])
  replace KK := KK.trans K (qk1 (by first | (refine Or.inl ?_; simp; done) | (refine Or.inr ?_; omega)))
  replace Vu := Vu.keep K (nin1 (by omega))
  refine B (fun tgt kt => XS.aloadN S.here S.hx rfl (hb hby u_n4_d51) rfl rfl kt) ?_
  show F T (mkF m 52 #[.val (.ref x), .val (.ref b), .val (.int 0), .val (.int (Int32.ofNat cs.length)), .val (.null), .val (.ref u)] [(.ref x)])
  refine B (fun tgt kt => XS.aload S.here S.hx rfl (hb hby u_n4_d52) rfl rfl kt) ?_
  show F T (mkF m 54 #[.val (.ref x), .val (.ref b), .val (.int 0), .val (.int (Int32.ofNat cs.length)), .val (.null), .val (.ref u)] [(.ref u), (.ref x)])
  refine Sp.putO B S (hw _ (List.mem_of_getElem? (i := 29) rfl)) O (i := 0) rfl (ns := ["value", "coder"]) rfl (by decide) (Or.inr ⟨(hw _ (List.mem_of_getElem? (i := 30) rfl)), rfl, hnm⟩) (hw _ (List.mem_of_getElem? (i := 3) rfl)) (ty := (.array .byte)) (by decide) (v' := .ref u) rfl rfl (by simp) (hb hby u_n4_d54) fun T h4 S K O => ?_
  replace O : Ob Z a0 h4 x "java/lang/String" [("java/lang/String", "value", "[B", (.ref u)), ("java/lang/String", "coder", "B", (.int 1))] := O
  show F T (mkF m 57 #[.val (.ref x), .val (.ref b), .val (.int 0), .val (.int (Int32.ofNat cs.length)), .val (.null), .val (.ref u)] [])
  replace KK := KK.trans K (qk1 (by first | (refine Or.inl ?_; simp; done) | (refine Or.inr ?_; omega)))
  replace Vu := Vu.keep K (nin1 (by omega))
  exact hF (S.ret hr hlk (hb hby u_n4_d57) (nw := []) ⟨rfl, rfl, KK, u, ku, gu, O, Vu⟩ (by simp))
theorem u_n1_d0 : decode jdk_42_method_3_code 0 = .ok (.aload_n 0, 1) := by decide +kernel
theorem u_n1_d1 : decode jdk_42_method_3_code 1 = .ok (.aload_n 1, 1) := by decide +kernel
theorem u_n1_d2 : decode jdk_42_method_3_code 2 = .ok (.iconst 0, 1) := by decide +kernel
theorem u_n1_d3 : decode jdk_42_method_3_code 3 = .ok (.aload_n 1, 1) := by decide +kernel
theorem u_n1_d4 : decode jdk_42_method_3_code 4 = .ok (.arraylength, 1) := by decide +kernel
theorem u_n1_d5 : decode jdk_42_method_3_code 5 = .ok (.aconst_null, 1) := by decide +kernel
theorem u_n1_d6 : decode jdk_42_method_3_code 6 = .ok (.invokespecial 27, 3) := by decide +kernel
theorem u_n1_d9 : decode jdk_42_method_3_code 9 = .ok (.return_, 1) := by decide +kernel
theorem u_n1_p27 : parseMethodDescriptor "([CIILjava/lang/Void;)V" = some ⟨[(.array .char), .int, .int, (.object "java/lang/Void")], none⟩ := by decide +kernel
theorem u_n1_ef (m : MethodId) (x b : Addr) : entryFrame m #[(.ref x), (.ref b)] 2 = mkF m 0 #[.val (.ref x), .val (.ref b)] [] := by first | (simp [entryFrame, mkF, argsToLocals, Value.category]; done) | rfl
theorem u_n1_pn : plainFor (⟨"java/lang/String", "<init>", "([C)V"⟩ : MethodName) = true := by first | exact plainFor_of_name (by first | (simp [plainName, overriddenIn]; done) | decide +kernel) | decide +kernel
set_option maxRecDepth 65536 in
set_option maxHeartbeats 40000000 in
theorem u_n1 (l : Launch) (Z : State) (a0 : Array Value) (EL : List (String × Nat)) (hw : ∀ d ∈ tables_1, d.before a0 Z = true) (hEW : EW Z a0 EL) (h : Heap) (zc : Int32) (CS : Sta Z Z.heap "java/lang/String" "COMPACT_STRINGS" "Z" (.int zc)) (hzc : ¬ zc = 0) (AD : Sta Z Z.heap "java/lang/StringUTF16" "$assertionsDisabled" "Z" (.int 1)) (HI : Sta Z Z.heap "java/lang/StringUTF16" "HI_BYTE_SHIFT" "I" (.int 0)) (LO : Sta Z Z.heap "java/lang/StringUTF16" "LO_BYTE_SHIFT" "I" (.int 8)) (cs : List Int32) (hn : cs.length ≤ 8) (hbd : ∀ c ∈ cs, ¬ c < 0 ∧ ¬ (65535 : Int32) < c) (hex : ∃ j, 0 ≤ j ∧ j < cs.length ∧ (255 : Int32) < cs.getD j 0) (x b : Addr) (hxb : x ≠ b) (v0 c0 : Value) (O : Ob Z a0 h x "java/lang/String" [("java/lang/String", "value", "[B", v0), ("java/lang/String", "coder", "B", c0)]) (kb : ClassId) (dv : Value) (V : Arv Z h b kb .char (Int32.ofNat cs.length) (cs.map Value.int) dv) :
    Con l Z EL (⟨"java/lang/String", "<init>", "([C)V"⟩ : MethodName) jdk_42_method_3_code 2 none ({ frames := 5, cells := 2, slots := 24, locals := 74 } : Room) #[(.ref x), (.ref b)] h [x] (fun v h' nw => v = none ∧ nw = [] ∧ Keep h h' [x] ∧ ∃ t kb, h.size ≤ t ∧ Ob Z a0 h' x "java/lang/String" [("java/lang/String", "value", "[B", (.ref t)), ("java/lang/String", "coder", "B", (.int 1))] ∧ Arv Z h' t kb .byte (Int32.ofNat (2 * cs.length)) (StrChars.Road.wideBytes cs) (.int 0)) := by
  refine Con.of u_n1_pn hEW ?_
  intro p e s m below meth c T F B hF hby hml hr hlk hnm S
  rw [u_n1_ef]
  show F T (mkF m 0 #[.val (.ref x), .val (.ref b)] [])
  refine B (fun tgt kt => XS.aloadN S.here S.hx rfl (hb hby u_n1_d0) rfl rfl kt) ?_
  show F T (mkF m 1 #[.val (.ref x), .val (.ref b)] [(.ref x)])
  refine B (fun tgt kt => XS.aloadN S.here S.hx rfl (hb hby u_n1_d1) rfl rfl kt) ?_
  show F T (mkF m 2 #[.val (.ref x), .val (.ref b)] [(.ref b), (.ref x)])
  refine B (fun tgt kt => XS.iconst S.here S.hx rfl (hb hby u_n1_d2) kt) ?_
  show F T (mkF m 3 #[.val (.ref x), .val (.ref b)] [(.int (0 : Int32)), (.ref b), (.ref x)])
  refine B (fun tgt kt => XS.aloadN S.here S.hx rfl (hb hby u_n1_d3) rfl rfl kt) ?_
  show F T (mkF m 4 #[.val (.ref x), .val (.ref b)] [(.ref b), (.int (0 : Int32)), (.ref b), (.ref x)])
  refine Sp.alen B S V (hb hby u_n1_d4) ?_
  show F T (mkF m 5 #[.val (.ref x), .val (.ref b)] [(.int (Int32.ofNat cs.length)), (.int (0 : Int32)), (.ref b), (.ref x)])
  refine B (fun tgt kt => XS.aconstNull S.here S.hx rfl (hb hby u_n1_d5) kt) ?_
  show F T (mkF m 6 #[.val (.ref x), .val (.ref b)] [(.null), (.int (Int32.ofNat cs.length)), (.int (0 : Int32)), (.ref b), (.ref x)])
  refine Sp.special B S (y := (⟨"java/lang/String", "<init>", "([CIILjava/lang/Void;)V"⟩ : MethodName)) (argsL := [(.ref b), (.int (0 : Int32)), (.int (Int32.ofNat cs.length)), (.null)]) (rest := []) rfl (hw _ (List.mem_of_getElem? (i := 8) rfl)) (hw _ (List.mem_of_getElem? (i := 9) rfl)) (hw _ (List.mem_of_getElem? (i := 11) rfl)) (by decide) (Call.con (W := 0) (u_n4 l Z a0 EL hw hEW h zc CS hzc AD HI LO cs hn hbd hex x b hxb v0 c0 O kb dv V) (hw _ (List.mem_of_getElem? (i := 11) rfl)) (hw _ (List.mem_of_getElem? (i := 4) rfl)) (by decide) (by decide)) (by simp) (by decide) (by decide) (by rw [hml]; rfl) (lenOf u_n1_p27 rfl) rfl (Nat.le_of_eq rfl) (hb hby u_n1_d6) fun v T h1 nw S hQ => ?_
  obtain ⟨rfl, rfl, KK, t, kt, gt, O, Vt⟩ := hQ
  show F T (mkF m 9 #[.val (.ref x), .val (.ref b)] [])
  exact hF (S.ret hr hlk (hb hby u_n1_d9) (nw := []) ⟨rfl, rfl, KK, t, kt, gt, O, Vt⟩ (by simp))
set_option maxRecDepth 65536 in
set_option maxHeartbeats 40000000 in
theorem own_new {p : Program} {l : Launch} {e : Env} {R : Room} {s : State} {args : Array Value} {below : List Frame} {W : Nat} (Z : State) (a0 : Array Value) (EL : List (String × Nat)) (hw : ∀ d ∈ tables_1, d.before a0 Z = true) (hEW : EW Z a0 EL) (h : Heap) (hS : ∀ d ∈ Bundle.stringAtoms, d.before a0 Z = true) (hmem : ("java/lang/String", 7) ∈ EL) (zc : Int32) (CS : Sta Z Z.heap "java/lang/String" "COMPACT_STRINGS" "Z" (.int zc)) (hzc : ¬ zc = 0) (AD : Sta Z Z.heap "java/lang/StringUTF16" "$assertionsDisabled" "Z" (.int 1)) (HI : Sta Z Z.heap "java/lang/StringUTF16" "HI_BYTE_SHIFT" "I" (.int 0)) (LO : Sta Z Z.heap "java/lang/StringUTF16" "LO_BYTE_SHIFT" "I" (.int 8)) (cs : List Int32) (hn : cs.length ≤ 8) (hbd : ∀ c ∈ cs, ¬ c < 0 ∧ ¬ (65535 : Int32) < c) (x b : Addr) (hxb : x ≠ b) (hx0 : Z.heap.size ≤ x) (hE : Ext Z.heap h) (v0 c0 : Value) (O : Ob Z a0 h x "java/lang/String" [("java/lang/String", "value", "[B", v0), ("java/lang/String", "coder", "B", c0)]) (kb : ClassId) (dv : Value) (V : Arv Z h b kb .char (Int32.ofNat cs.length) (cs.map Value.int) dv) (hfr : 6 ≤ R.frames) (hlo : W + 87 ≤ R.locals) :
    Call l R p e below s args Z a0 EL (⟨"java/lang/String", "<init>", "([C)V"⟩ : MethodName) 3 W #[.ref x, .ref b] h [x] 4 24 (fun v h' nw => v = none ∧ nw = [] ∧ Keep h h' [x] ∧ ∃ t, t ≠ x ∧ own_Str Z a0 h' x t cs) := by
  have hws : ∀ d ∈ StrChars.Road.words, d.before a0 Z = true := fun d hd => hw d ((by decide +kernel : ∀ d ∈ StrChars.Road.words, d ∈ tables_1) d hd)
  have lx := O.lt
  by_cases h0 : cs = []
  · subst h0
    refine Call.imp (Call.mono (Call.con (W := W) (e_n1 l Z a0 EL hw hEW h hS hmem x b v0 c0 O kb _ dv V) (hw _ (List.mem_of_getElem? (i := 7) rfl)) (hw _ (List.mem_of_getElem? (i := 4) rfl)) (by show 2 + 1 ≤ _; omega) (by show W + (2 + 11) + 29 ≤ _; omega)) (by decide) (by decide)) ?_
    rintro v h' nw ⟨rfl, rfl, K, t, kt, ne, O, Vt⟩
    exact ⟨rfl, rfl, K, t, ne, kt, 0, 0, [], O, Vt, Or.inl ⟨rfl, rfl, rfl, by simp⟩, by simp, by decide⟩
  have h1 : 0 < cs.length := List.length_pos_iff.mpr h0
  by_cases hlat : ∀ c ∈ cs, ¬ c < 0 ∧ ¬ (255 : Int32) < c
  · refine Call.imp (Call.mono (Call.back (ws := [x]) (kc := 1) (ks := cs.length) (by simp) (fun s' hZ => StrChars.Road.backArv (W := W) hZ hws (kI := 4) (hw _ (List.mem_of_getElem? (i := 3) rfl)) O.1 (O.f (i := 0) rfl) (O.f (i := 1) rfl) V (CS.ext hE) hzc (own_cl _ (by omega)) h1 (by omega) (fun c hc => (hlat c hc).2) (by omega) (by omega)) (Qb := fun v h' L => StrChars.Road.QA Z x (Int32.ofNat cs.length) cs h v h' L) (Q := fun v h' nw => (∃ L, StrChars.Road.QA Z x (Int32.ofNat cs.length) cs h v h' L) ∧ nw = []) (fun v h' L q => ⟨fun y hy => by rw [q.2.1 y hy]; exact hx0, q.2.2.1, [], ⟨⟨L, q⟩, rfl⟩, fun _ z => nomatch z⟩)) (by decide) (by omega)) ?_
    rintro v h' nw ⟨⟨L, q1, q2, q3, q4, q5, q6, q7, ⟨kt, -, Vt⟩, q9⟩, rfl⟩
    exact ⟨q1, rfl, q3, h.size, natne (by omega), kt, 0, _, _, ⟨q5, all_cons ⟨O.laid (i := 0) (x := ("java/lang/String", "value", "[B", v0)) rfl, ⟨_, (by decide : parseFieldDescriptor "[B" = some (.array .byte))⟩, q6⟩ (all_cons ⟨O.laid (i := 1) (x := ("java/lang/String", "coder", "B", c0)) rfl, ⟨_, (by decide : parseFieldDescriptor "B" = some .byte)⟩, q7⟩ all_nil)⟩, Vt, Or.inl ⟨rfl, rfl, rfl, fun c hc => (hlat c hc).2⟩, fun c hc => ⟨(hlat c hc).1, fun q => (hlat c hc).2 (Int32.lt_trans (by decide) q)⟩, by omega⟩
  have hex : ∃ j, 0 ≤ j ∧ j < cs.length ∧ (255 : Int32) < cs.getD j 0 := by
    refine Classical.byContradiction fun hno => hlat fun c hc => ⟨(hbd c hc).1, fun hb => hno ?_⟩
    obtain ⟨j, hj, rfl⟩ := List.getElem_of_mem hc
    exact ⟨j, Nat.zero_le _, hj, by rw [List.getD_eq_getElem?_getD, List.getElem?_eq_getElem hj]; exact hb⟩
  refine Call.imp (Call.mono (Call.con (W := W) (u_n1 l Z a0 EL hw hEW h zc CS hzc AD HI LO cs hn hbd hex x b hxb v0 c0 O kb dv V) (hw _ (List.mem_of_getElem? (i := 7) rfl)) (hw _ (List.mem_of_getElem? (i := 4) rfl)) (by show 5 + 1 ≤ _; omega) (by show W + (2 + 11) + 74 ≤ _; omega)) (by decide) (by decide)) ?_
  rintro v h' nw ⟨rfl, rfl, K, t, kt, gt, O, Vt⟩
  obtain ⟨j, -, hj, hjb⟩ := hex
  exact ⟨rfl, rfl, K, t, natne (by omega), kt, 1, _, _, O, Vt, Or.inr ⟨rfl, rfl, rfl, _, (by rw [List.getD_eq_getElem?_getD, List.getElem?_eq_getElem hj]; exact List.getElem_mem hj : cs.getD j 0 ∈ cs), hjb⟩, hbd, by omega⟩
theorem own_shr1 (n : Nat) (hn : n ≤ 8) : Int32.ofNat (2 * n) >>> ((1 : Int32) &&& 31) = Int32.ofNat n := (by decide : ∀ k : Fin 9, Int32.ofNat (2 * k.1) >>> ((1 : Int32) &&& 31) = Int32.ofNat k.1) ⟨n, by omega⟩
theorem own_sub0 (a : Int32) : a - (0 : Int32) = a := by simp
theorem own_or (n : Nat) (hn : n ≤ 8) : ¬ ((Int32.ofNat n ||| (0 : Int32)) ||| Int32.ofNat n) < 0 := (by decide : ∀ k : Fin 9, ¬ ((Int32.ofNat k.1 ||| (0 : Int32)) ||| Int32.ofNat k.1) < 0) ⟨n, by omega⟩
theorem own_narc {c : Int32} (h : ¬ c < 0 ∧ ¬ (65535 : Int32) < c) : nar .char c = c := by
  have q := StrChars.narrow_ch h.1 h.2
  injection q
theorem own_c16 (x : Int32) : ¬ (x.toUInt32.toUInt16.toUInt32.toInt32) < 0 ∧ ¬ (65535 : Int32) < x.toUInt32.toUInt16.toUInt32.toInt32 := by
  have q := c_i2c x
  have z : (0 : Int32).toInt = 0 := by decide
  have m : (65535 : Int32).toInt = 65535 := by decide
  constructor <;> (rw [Int32.lt_iff_toInt_lt]; omega)
theorem own_mem {cs : List Int32} {i : Nat} (h : i < cs.length) : cs.getD i 0 ∈ cs := by rw [List.getD_eq_getElem?_getD, List.getElem?_eq_getElem h]; exact List.getElem_mem h
theorem own_set1 (vs : List Value) (a u : Value) : (vs ++ [a]).set vs.length u = vs ++ [u] := by rw [List.set_append_right _ _ (Nat.le_refl _)]; simp
theorem own_take1 {cs : List Int32} {i : Nat} (h : i < cs.length) : ((cs.take i).map Value.int ++ List.replicate 1 (Value.int 0)).set i (.int (cs.getD i 0)) = (cs.take (i + 1)).map Value.int := by
  have e : i = ((cs.take i).map Value.int).length := by rw [List.length_map, List.length_take]; omega
  rw [own_take h, List.map_append]
  conv => lhs; rw [show (List.replicate 1 (Value.int 0)) = [Value.int 0] from rfl]; arg 2; rw [e]
  exact own_set1 _ _ _
def own_fold (c : Int32) : Int32 := if c < 65 then c else if 90 < c then c else (c + 32).toUInt32.toUInt16.toUInt32.toInt32
theorem own_foldb {c : Int32} (h : ¬ c < 0 ∧ ¬ (65535 : Int32) < c) : ¬ own_fold c < 0 ∧ ¬ (65535 : Int32) < own_fold c := by
  unfold own_fold
  split
  · exact h
  · split
    · exact h
    · exact own_c16 _
def own_vs (cs : List Int32) (i : Nat) : List Int32 := (cs.take i).map own_fold ++ cs.drop i
theorem own_vs0 (cs : List Int32) : own_vs cs 0 = cs := by simp [own_vs]
theorem own_vsn (cs : List Int32) : own_vs cs cs.length = cs.map own_fold := by simp [own_vs]
theorem own_vslen (cs : List Int32) (i : Nat) : (own_vs cs i).length = cs.length := by simp only [own_vs, List.length_append, List.length_map, List.length_take, List.length_drop]; omega
theorem own_dropc {cs : List Int32} {i : Nat} (h : i < cs.length) : cs.drop i = cs.getD i 0 :: cs.drop (i + 1) := by
  rw [List.drop_eq_getElem_cons h]; simp [List.getD_eq_getElem?_getD, h]
theorem own_vsat {cs : List Int32} {i : Nat} (h : i < cs.length) : (own_vs cs i).getD i 0 = cs.getD i 0 := by
  have e : ((cs.take i).map own_fold).length = i := by rw [List.length_map, List.length_take]; omega
  rw [own_vs, own_dropc h, List.getD_eq_getElem?_getD, List.getElem?_append_right (by omega), e]; simp
theorem own_vsset {cs : List Int32} {i : Nat} (h : i < cs.length) : (own_vs cs i).set i (own_fold (cs.getD i 0)) = own_vs cs (i + 1) := by
  have e : ((cs.take i).map own_fold).length = i := by rw [List.length_map, List.length_take]; omega
  rw [own_vs, own_vs, own_dropc h, List.set_append_right _ _ (by omega), e, own_take h]; simp
theorem own_vssame {cs : List Int32} {i : Nat} (h : i < cs.length) (hf : own_fold (cs.getD i 0) = cs.getD i 0) : own_vs cs i = own_vs cs (i + 1) := by
  rw [own_vs, own_vs, own_take h, own_dropc h]; simp only [List.map_append, List.map_cons, List.map_nil, hf, List.append_assoc, List.singleton_append]
theorem own_vmap {vs : List Int32} {i : Nat} (h : i < vs.length) (hn : vs.length ≤ 4000) (d : Value) : (vs.map Value.int).getD (Int32.ofNat i).toNatClampNeg d = .int (vs.getD i 0) := own_getD h hn d
theorem own_sh (c : Int32) : c - 65 + 97 = c + 32 := by rw [Int32.sub_eq_add_neg, Int32.add_assoc]; rfl
theorem y_inf_d0 : decode jdk_43_method_49_code 0 = .ok (.iconst 0, 1) := by decide +kernel
theorem y_inf_d1 : decode jdk_43_method_49_code 1 = .ok (.istore 5, 2) := by decide +kernel
theorem y_inf_d3 : decode jdk_43_method_49_code 3 = .ok (.iload 5, 2) := by decide +kernel
theorem y_inf_d5 : decode jdk_43_method_49_code 5 = .ok (.iload 4, 2) := by decide +kernel
theorem y_inf_d7 : decode jdk_43_method_49_code 7 = .ok (.if_icmp .ge 26, 3) := by decide +kernel
theorem y_inf_d10 : decode jdk_43_method_49_code 10 = .ok (.aload_n 2, 1) := by decide +kernel
theorem y_inf_d11 : decode jdk_43_method_49_code 11 = .ok (.iload_n 3, 1) := by decide +kernel
theorem y_inf_d12 : decode jdk_43_method_49_code 12 = .ok (.iinc 3 1, 3) := by decide +kernel
theorem y_inf_d15 : decode jdk_43_method_49_code 15 = .ok (.aload_n 0, 1) := by decide +kernel
theorem y_inf_d16 : decode jdk_43_method_49_code 16 = .ok (.iload_n 1, 1) := by decide +kernel
theorem y_inf_d17 : decode jdk_43_method_49_code 17 = .ok (.iinc 1 1, 3) := by decide +kernel
theorem y_inf_d20 : decode jdk_43_method_49_code 20 = .ok (.baload, 1) := by decide +kernel
theorem y_inf_d21 : decode jdk_43_method_49_code 21 = .ok (.sipush 255, 3) := by decide +kernel
theorem y_inf_d24 : decode jdk_43_method_49_code 24 = .ok (.iand, 1) := by decide +kernel
theorem y_inf_d25 : decode jdk_43_method_49_code 25 = .ok (.i2c, 1) := by decide +kernel
theorem y_inf_d26 : decode jdk_43_method_49_code 26 = .ok (.castore, 1) := by decide +kernel
theorem y_inf_d27 : decode jdk_43_method_49_code 27 = .ok (.iinc 5 1, 3) := by decide +kernel
theorem y_inf_d30 : decode jdk_43_method_49_code 30 = .ok (.goto (-27), 3) := by decide +kernel
theorem y_inf_d33 : decode jdk_43_method_49_code 33 = .ok (.return_, 1) := by decide +kernel
set_option maxRecDepth 65536 in
set_option maxHeartbeats 40000000 in
theorem y_infl {p : Program} {l : Launch} {e : Env} {s : State} {m : MethodId} {args : Array Value} {below : List Frame} {meth : Method} {c : Code} {Z : State} {a0 : Array Value} {EL : List (String × Nat)} {F : State → JFrame → Prop} {sf : List Addr} {lt : List (String × Nat × Addr)} {kq nq : Nat} (hw : ∀ q ∈ tables_1, q.before a0 Z = true) (hEW : EW Z a0 EL)  (B : Bw p e below F) (hby : c.code = jdk_43_method_49_code) (hml : c.maxLocals = 6) (cs : List Int32) (hn : cs.length ≤ 8) (hlat : ∀ q ∈ cs, ¬ q < 0 ∧ ¬ (255 : Int32) < q) (t d : Addr) (kb kd : ClassId) (htd : t ≠ d) (hd : d ∈ sf)  :
    ∀ (k i : Nat) (T : State) (h : Heap), i + k = cs.length → Sp p l e ({ frames := 0, cells := 0, slots := 0, locals := 0 } : Room) s m args below meth c Z a0 EL "java/lang/StringLatin1" T h sf lt kq nq → Arv Z h t kb .byte (Int32.ofNat cs.length) (cs.map fun q => Value.int (StrChars.lo8 q)) (.int 0) → Arv Z h d kd .char (Int32.ofNat cs.length) ((cs.take i).map Value.int) (.int 0) →
      (∀ (T' : State) (h' : Heap), Sp p l e ({ frames := 0, cells := 0, slots := 0, locals := 0 } : Room) s m args below meth c Z a0 EL "java/lang/StringLatin1" T' h' sf lt kq nq → Keep h h' [d] → Arv Z h' d kd .char (Int32.ofNat cs.length) ((cs.take cs.length).map Value.int) (.int 0) → F T' (mkF m 33 #[.val (.ref t), .val (.int (Int32.ofNat cs.length)), .val (.ref d), .val (.int (Int32.ofNat cs.length)), .val (.int (Int32.ofNat cs.length)), .val (.int (Int32.ofNat cs.length))] [])) → F T (mkF m 3 #[.val (.ref t), .val (.int (Int32.ofNat i)), .val (.ref d), .val (.int (Int32.ofNat i)), .val (.int (Int32.ofNat cs.length)), .val (.int (Int32.ofNat i))] []) := by
  intro k
  induction k with
  | zero =>
    intro i T h hik S V Vd K
    have hi : i = cs.length := by omega
    subst hi
    show F T (mkF m 3 #[.val (.ref t), .val (.int (Int32.ofNat cs.length)), .val (.ref d), .val (.int (Int32.ofNat cs.length)), .val (.int (Int32.ofNat cs.length)), .val (.int (Int32.ofNat cs.length))] [])
    refine B (fun tgt kt => XS.iload S.here S.hx rfl (hb hby y_inf_d3) rfl kt) ?_
    show F T (mkF m 5 #[.val (.ref t), .val (.int (Int32.ofNat cs.length)), .val (.ref d), .val (.int (Int32.ofNat cs.length)), .val (.int (Int32.ofNat cs.length)), .val (.int (Int32.ofNat cs.length))] [(.int (Int32.ofNat cs.length))])
    refine B (fun tgt kt => XS.iload S.here S.hx rfl (hb hby y_inf_d5) rfl kt) ?_
    show F T (mkF m 7 #[.val (.ref t), .val (.int (Int32.ofNat cs.length)), .val (.ref d), .val (.int (Int32.ofNat cs.length)), .val (.int (Int32.ofNat cs.length)), .val (.int (Int32.ofNat cs.length))] [(.int (Int32.ofNat cs.length)), (.int (Int32.ofNat cs.length))])
    refine B (fun tgt kt => XS.icmpYes S.here S.hx rfl (pc0 := 7) (pc' := 33) rfl (hb hby y_inf_d7) rfl (ii_ge_t (own_irr _)) (by decide) (by decide) kt) ?_
    show F T (mkF m 33 #[.val (.ref t), .val (.int (Int32.ofNat cs.length)), .val (.ref d), .val (.int (Int32.ofNat cs.length)), .val (.int (Int32.ofNat cs.length)), .val (.int (Int32.ofNat cs.length))] [])
    exact K _ _ S (Keep.refl _ _) Vd
  | succ k ih =>
    intro i T h hik S V Vd K
    have hi : i < cs.length := by omega
    show F T (mkF m 3 #[.val (.ref t), .val (.int (Int32.ofNat i)), .val (.ref d), .val (.int (Int32.ofNat i)), .val (.int (Int32.ofNat cs.length)), .val (.int (Int32.ofNat i))] [])
    refine B (fun tgt kt => XS.iload S.here S.hx rfl (hb hby y_inf_d3) rfl kt) ?_
    show F T (mkF m 5 #[.val (.ref t), .val (.int (Int32.ofNat i)), .val (.ref d), .val (.int (Int32.ofNat i)), .val (.int (Int32.ofNat cs.length)), .val (.int (Int32.ofNat i))] [(.int (Int32.ofNat i))])
    refine B (fun tgt kt => XS.iload S.here S.hx rfl (hb hby y_inf_d5) rfl kt) ?_
    show F T (mkF m 7 #[.val (.ref t), .val (.int (Int32.ofNat i)), .val (.ref d), .val (.int (Int32.ofNat i)), .val (.int (Int32.ofNat cs.length)), .val (.int (Int32.ofNat i))] [(.int (Int32.ofNat cs.length)), (.int (Int32.ofNat i))])
    refine B (fun tgt kt => XS.icmpNo S.here S.hx rfl (hb hby y_inf_d7) rfl (ii_ge_f (own_sm hi (by omega))) kt) ?_
    show F T (mkF m 10 #[.val (.ref t), .val (.int (Int32.ofNat i)), .val (.ref d), .val (.int (Int32.ofNat i)), .val (.int (Int32.ofNat cs.length)), .val (.int (Int32.ofNat i))] [])
    refine B (fun tgt kt => XS.aloadN S.here S.hx rfl (hb hby y_inf_d10) rfl rfl kt) ?_
    show F T (mkF m 11 #[.val (.ref t), .val (.int (Int32.ofNat i)), .val (.ref d), .val (.int (Int32.ofNat i)), .val (.int (Int32.ofNat cs.length)), .val (.int (Int32.ofNat i))] [(.ref d)])
    refine B (fun tgt kt => XS.iloadN S.here S.hx rfl (hb hby y_inf_d11) rfl kt) ?_
    show F T (mkF m 12 #[.val (.ref t), .val (.int (Int32.ofNat i)), .val (.ref d), .val (.int (Int32.ofNat i)), .val (.int (Int32.ofNat cs.length)), .val (.int (Int32.ofNat i))] [(.int (Int32.ofNat i)), (.ref d)])
    refine B (fun tgt kt => XS.iinc S.here S.hx rfl (hb hby y_inf_d12) rfl (l' := #[.val (.ref t), .val (.int (Int32.ofNat i)), .val (.ref d), .val (.int ((Int32.ofNat i) + (1 : Int32))), .val (.int (Int32.ofNat cs.length)), .val (.int (Int32.ofNat i))]) rfl kt) ?_
    show F T (mkF m 15 #[.val (.ref t), .val (.int (Int32.ofNat i)), .val (.ref d), .val (.int ((Int32.ofNat i) + (1 : Int32))), .val (.int (Int32.ofNat cs.length)), .val (.int (Int32.ofNat i))] [(.int (Int32.ofNat i)), (.ref d)])
    refine B (fun tgt kt => XS.aloadN S.here S.hx rfl (hb hby y_inf_d15) rfl rfl kt) ?_
    show F T (mkF m 16 #[.val (.ref t), .val (.int (Int32.ofNat i)), .val (.ref d), .val (.int ((Int32.ofNat i) + (1 : Int32))), .val (.int (Int32.ofNat cs.length)), .val (.int (Int32.ofNat i))] [(.ref t), (.int (Int32.ofNat i)), (.ref d)])
    refine B (fun tgt kt => XS.iloadN S.here S.hx rfl (hb hby y_inf_d16) rfl kt) ?_
    show F T (mkF m 17 #[.val (.ref t), .val (.int (Int32.ofNat i)), .val (.ref d), .val (.int ((Int32.ofNat i) + (1 : Int32))), .val (.int (Int32.ofNat cs.length)), .val (.int (Int32.ofNat i))] [(.int (Int32.ofNat i)), (.ref t), (.int (Int32.ofNat i)), (.ref d)])
    refine B (fun tgt kt => XS.iinc S.here S.hx rfl (hb hby y_inf_d17) rfl (l' := #[.val (.ref t), .val (.int ((Int32.ofNat i) + (1 : Int32))), .val (.ref d), .val (.int ((Int32.ofNat i) + (1 : Int32))), .val (.int (Int32.ofNat cs.length)), .val (.int (Int32.ofNat i))]) rfl kt) ?_
    show F T (mkF m 20 #[.val (.ref t), .val (.int ((Int32.ofNat i) + (1 : Int32))), .val (.ref d), .val (.int ((Int32.ofNat i) + (1 : Int32))), .val (.int (Int32.ofNat cs.length)), .val (.int (Int32.ofNat i))] [(.int (Int32.ofNat i)), (.ref t), (.int (Int32.ofNat i)), (.ref d)])
    refine Sp.bald B S V (own_in hi (by omega)) (by rw [own_cl _ (by omega)]; exact StrChars.Road.low_at _ _ _ hi) (hb hby y_inf_d20) ?_
    show F T (mkF m 21 #[.val (.ref t), .val (.int ((Int32.ofNat i) + (1 : Int32))), .val (.ref d), .val (.int ((Int32.ofNat i) + (1 : Int32))), .val (.int (Int32.ofNat cs.length)), .val (.int (Int32.ofNat i))] [(.int (StrChars.lo8 (cs.getD i 0))), (.int (Int32.ofNat i)), (.ref d)])
    refine B (fun tgt kt => XS.sipush S.here S.hx rfl (hb hby y_inf_d21) kt) ?_
    show F T (mkF m 24 #[.val (.ref t), .val (.int ((Int32.ofNat i) + (1 : Int32))), .val (.ref d), .val (.int ((Int32.ofNat i) + (1 : Int32))), .val (.int (Int32.ofNat cs.length)), .val (.int (Int32.ofNat i))] [(.int (255 : Int32)), (.int (StrChars.lo8 (cs.getD i 0))), (.int (Int32.ofNat i)), (.ref d)])
    refine B (fun tgt kt => XS.iand S.here S.hx rfl (hb hby y_inf_d24) rfl kt) ?_
    show F T (mkF m 25 #[.val (.ref t), .val (.int ((Int32.ofNat i) + (1 : Int32))), .val (.ref d), .val (.int ((Int32.ofNat i) + (1 : Int32))), .val (.int (Int32.ofNat cs.length)), .val (.int (Int32.ofNat i))] [(.int ((StrChars.lo8 (cs.getD i 0)) &&& (255 : Int32))), (.int (Int32.ofNat i)), (.ref d)])
    refine B (fun tgt kt => XT.i2c S.here S.hx rfl (hb hby y_inf_d25) rfl kt) ?_
    show F T (mkF m 26 #[.val (.ref t), .val (.int ((Int32.ofNat i) + (1 : Int32))), .val (.ref d), .val (.int ((Int32.ofNat i) + (1 : Int32))), .val (.int (Int32.ofNat cs.length)), .val (.int (Int32.ofNat i))] [(.int ((StrChars.lo8 (cs.getD i 0)) &&& (255 : Int32)).toUInt32.toUInt16.toUInt32.toInt32), (.int (Int32.ofNat i)), (.ref d)])
    have e8 : ((StrChars.lo8 (cs.getD i 0)) &&& (255 : Int32)).toUInt32.toUInt16.toUInt32.toInt32 = cs.getD i 0 := StrChars.chr8_lo8 (hlat _ (own_mem hi)).1 (hlat _ (own_mem hi)).2
    rw [e8]
    show F T (mkF m 26 #[.val (.ref t), .val (.int ((Int32.ofNat i) + (1 : Int32))), .val (.ref d), .val (.int ((Int32.ofNat i) + (1 : Int32))), .val (.int (Int32.ofNat cs.length)), .val (.int (Int32.ofNat i))] [(.int (cs.getD i 0)), (.int (Int32.ofNat i)), (.ref d)])
    replace Vd := Vd.pad (pad_rep _ (.int 0) 1)
    have hbq := hlat _ (own_mem hi)
    refine Sp.stC B S Vd (i := i) (own_in hi (by omega)) (own_cl _ (by omega)) (by simp only [List.length_append, List.length_map, List.length_take, List.length_replicate]; omega) (own_narc ⟨hbq.1, fun q => hbq.2 (Int32.lt_trans (by decide) q)⟩) hd (hb hby y_inf_d26) fun T h1 S W Vd => ?_
    rw [own_take1 hi] at Vd
    show F T (mkF m 27 #[.val (.ref t), .val (.int ((Int32.ofNat i) + (1 : Int32))), .val (.ref d), .val (.int ((Int32.ofNat i) + (1 : Int32))), .val (.int (Int32.ofNat cs.length)), .val (.int (Int32.ofNat i))] [])
    refine B (fun tgt kt => XS.iinc S.here S.hx rfl (hb hby y_inf_d27) rfl (l' := #[.val (.ref t), .val (.int ((Int32.ofNat i) + (1 : Int32))), .val (.ref d), .val (.int ((Int32.ofNat i) + (1 : Int32))), .val (.int (Int32.ofNat cs.length)), .val (.int ((Int32.ofNat i) + (1 : Int32)))]) rfl kt) ?_
    show F T (mkF m 30 #[.val (.ref t), .val (.int ((Int32.ofNat i) + (1 : Int32))), .val (.ref d), .val (.int ((Int32.ofNat i) + (1 : Int32))), .val (.int (Int32.ofNat cs.length)), .val (.int ((Int32.ofNat i) + (1 : Int32)))] [])
    refine B (fun tgt kt => XS.goto S.here S.hx rfl (pc0 := 30) (pc' := 3) rfl (hb hby y_inf_d30) (by decide) (by decide) kt) ?_
    show F T (mkF m 3 #[.val (.ref t), .val (.int ((Int32.ofNat i) + (1 : Int32))), .val (.ref d), .val (.int ((Int32.ofNat i) + (1 : Int32))), .val (.int (Int32.ofNat cs.length)), .val (.int ((Int32.ofNat i) + (1 : Int32)))] [])
    rw [own_inc i]
    show F T (mkF m 3 #[.val (.ref t), .val (.int (Int32.ofNat (i + 1))), .val (.ref d), .val (.int (Int32.ofNat (i + 1))), .val (.int (Int32.ofNat cs.length)), .val (.int (Int32.ofNat (i + 1)))] [])
    exact ih (i + 1) _ _ (by omega) S (V.other W htd) Vd fun T' h' S' K2 V2 => K T' h' S' ((Keep.of_wr W).trans K2 (fun x hx => Or.inl hx)) V2
theorem y_inf_ef (m : MethodId) (t d : Addr) (cs : List Int32) : entryFrame m #[(.ref t), (.int 0), (.ref d), (.int 0), (.int (Int32.ofNat cs.length))] 6 = mkF m 0 #[.val (.ref t), .val (.int 0), .val (.ref d), .val (.int 0), .val (.int (Int32.ofNat cs.length)), .unset] [] := by first | (simp [entryFrame, mkF, argsToLocals, Value.category]; done) | rfl
theorem y_inf_pn : plainFor (⟨"java/lang/StringLatin1", "inflate", "([BI[CII)V"⟩ : MethodName) = true := by first | exact plainFor_of_name (by first | (simp [plainName, overriddenIn]; done) | decide +kernel) | decide +kernel
set_option maxRecDepth 65536 in
set_option maxHeartbeats 40000000 in
theorem y_inf (l : Launch) (Z : State) (a0 : Array Value) (EL : List (String × Nat)) (hw : ∀ d ∈ tables_1, d.before a0 Z = true) (hEW : EW Z a0 EL) (h : Heap) (cs : List Int32) (hn : cs.length ≤ 8) (hlat : ∀ q ∈ cs, ¬ q < 0 ∧ ¬ (255 : Int32) < q) (t d : Addr) (kb kd : ClassId) (htd : t ≠ d) (V : Arv Z h t kb .byte (Int32.ofNat cs.length) (cs.map fun q => Value.int (StrChars.lo8 q)) (.int 0)) (Vd : Arv Z h d kd .char (Int32.ofNat cs.length) [] (.int 0)) :
    Con l Z EL (⟨"java/lang/StringLatin1", "inflate", "([BI[CII)V"⟩ : MethodName) jdk_43_method_49_code 6 none ({ frames := 0, cells := 0, slots := 0, locals := 0 } : Room) #[(.ref t), (.int 0), (.ref d), (.int 0), (.int (Int32.ofNat cs.length))] h [d] (fun v h' nw => v = none ∧ nw = [] ∧ Keep h h' [d] ∧ Arv Z h' d kd .char (Int32.ofNat cs.length) (cs.map Value.int) (.int 0)) := by
  refine Con.of y_inf_pn hEW ?_
  intro p e s m below meth c T F B hF hby hml hr hlk hnm S
  rw [y_inf_ef]
  show F T (mkF m 0 #[.val (.ref t), .val (.int 0), .val (.ref d), .val (.int 0), .val (.int (Int32.ofNat cs.length)), .unset] [])
  refine B (fun tgt kt => XS.iconst S.here S.hx rfl (hb hby y_inf_d0) kt) ?_
  show F T (mkF m 1 #[.val (.ref t), .val (.int 0), .val (.ref d), .val (.int 0), .val (.int (Int32.ofNat cs.length)), .unset] [(.int (0 : Int32))])
  refine B (fun tgt kt => XS.istore S.here S.hx rfl (hb hby y_inf_d1) rfl (l' := #[.val (.ref t), .val (.int 0), .val (.ref d), .val (.int 0), .val (.int (Int32.ofNat cs.length)), .val (.int (0 : Int32))]) rfl kt) ?_
  show F T (mkF m 3 #[.val (.ref t), .val (.int 0), .val (.ref d), .val (.int 0), .val (.int (Int32.ofNat cs.length)), .val (.int (0 : Int32))] [])
  show F T (mkF m 3 #[.val (.ref t), .val (.int (Int32.ofNat 0)), .val (.ref d), .val (.int (Int32.ofNat 0)), .val (.int (Int32.ofNat cs.length)), .val (.int (Int32.ofNat 0))] [])
  refine y_infl hw hEW B hby hml cs hn hlat t d kb kd htd (by simp) cs.length 0 T _ (by omega) S V (by simpa using Vd) fun T h2 S K V2 => ?_
  rw [List.take_length] at V2
  exact hF (S.ret hr hlk (hb hby y_inf_d33) (nw := []) ⟨rfl, rfl, K, V2⟩ (by simp))
theorem y_tc_d0 : decode jdk_43_method_9_code 0 = .ok (.aload_n 0, 1) := by decide +kernel
theorem y_tc_d1 : decode jdk_43_method_9_code 1 = .ok (.arraylength, 1) := by decide +kernel
theorem y_tc_d2 : decode jdk_43_method_9_code 2 = .ok (.newarray .char, 2) := by decide +kernel
theorem y_tc_d4 : decode jdk_43_method_9_code 4 = .ok (.astore_n 1, 1) := by decide +kernel
theorem y_tc_d5 : decode jdk_43_method_9_code 5 = .ok (.aload_n 0, 1) := by decide +kernel
theorem y_tc_d6 : decode jdk_43_method_9_code 6 = .ok (.iconst 0, 1) := by decide +kernel
theorem y_tc_d7 : decode jdk_43_method_9_code 7 = .ok (.aload_n 1, 1) := by decide +kernel
theorem y_tc_d8 : decode jdk_43_method_9_code 8 = .ok (.iconst 0, 1) := by decide +kernel
theorem y_tc_d9 : decode jdk_43_method_9_code 9 = .ok (.aload_n 0, 1) := by decide +kernel
theorem y_tc_d10 : decode jdk_43_method_9_code 10 = .ok (.arraylength, 1) := by decide +kernel
theorem y_tc_d11 : decode jdk_43_method_9_code 11 = .ok (.invokestatic 13, 3) := by decide +kernel
theorem y_tc_d14 : decode jdk_43_method_9_code 14 = .ok (.aload_n 1, 1) := by decide +kernel
theorem y_tc_d15 : decode jdk_43_method_9_code 15 = .ok (.areturn, 1) := by decide +kernel
theorem y_tc_p13 : parseMethodDescriptor "([BI[CII)V" = some ⟨[(.array .byte), .int, (.array .char), .int, .int], none⟩ := by decide +kernel
theorem y_tc_ef (m : MethodId) (t : Addr) : entryFrame m #[(.ref t)] 2 = mkF m 0 #[.val (.ref t), .unset] [] := by first | (simp [entryFrame, mkF, argsToLocals, Value.category]; done) | rfl
theorem y_tc_pn : plainFor (⟨"java/lang/StringLatin1", "toChars", "([B)[C"⟩ : MethodName) = true := by first | exact plainFor_of_name (by first | (simp [plainName, overriddenIn]; done) | decide +kernel) | decide +kernel
set_option maxRecDepth 65536 in
set_option maxHeartbeats 40000000 in
theorem y_tc (l : Launch) (Z : State) (a0 : Array Value) (EL : List (String × Nat)) (hw : ∀ d ∈ tables_1, d.before a0 Z = true) (hEW : EW Z a0 EL) (h : Heap) (cs : List Int32) (hn : cs.length ≤ 8) (hlat : ∀ q ∈ cs, ¬ q < 0 ∧ ¬ (255 : Int32) < q) (t : Addr) (kb : ClassId) (V : Arv Z h t kb .byte (Int32.ofNat cs.length) (cs.map fun q => Value.int (StrChars.lo8 q)) (.int 0)) :
    Con l Z EL (⟨"java/lang/StringLatin1", "toChars", "([B)[C"⟩ : MethodName) jdk_43_method_9_code 2 (some (.array .char)) ({ frames := 1, cells := 1, slots := 8, locals := 17 } : Room) #[(.ref t)] h [] (fun v h' nw => ∃ d kd, v = some (.ref d) ∧ nw = [d] ∧ h.size ≤ d ∧ Keep h h' [] ∧ Arv Z h' d kd .char (Int32.ofNat cs.length) (cs.map Value.int) (.int 0)) := by
  refine Con.of y_tc_pn hEW ?_
  intro p e s m below meth c T F B hF hby hml hr hlk hnm S
  rw [y_tc_ef]
  show F T (mkF m 0 #[.val (.ref t), .unset] [])
  have lt0 := natlt V.lt
  have KK := Keep.refl h []
  refine B (fun tgt kt => XS.aloadN S.here S.hx rfl (hb hby y_tc_d0) rfl rfl kt) ?_
  show F T (mkF m 1 #[.val (.ref t), .unset] [(.ref t)])
  refine Sp.alen B S V (hb hby y_tc_d1) ?_
  show F T (mkF m 2 #[.val (.ref t), .unset] [(.int (Int32.ofNat cs.length))])
  refine Sp.newP B S (cap := 8) (hw _ (List.mem_of_getElem? (i := 1) rfl)) (hb hby y_tc_d2) (own_nn _ (by omega)) (by rw [own_cl _ (by omega)]; omega) (by decide) (by decide) (by decide) (ad := "[C") (by decide) fun T h1 d kd S E gd Xd Vd => ?_
  show F T (mkF m 4 #[.val (.ref t), .unset] [(.ref d)])
  replace V := V.ext E
  replace KK := KK.ext E
  have ld := natlt Vd.lt
  refine B (fun tgt kt => XS.astoreN S.here S.hx rfl (hb hby y_tc_d4) rfl rfl (l' := #[.val (.ref t), .val (.ref d)]) rfl kt) ?_
  show F T (mkF m 5 #[.val (.ref t), .val (.ref d)] [])
  refine B (fun tgt kt => XS.aloadN S.here S.hx rfl (hb hby y_tc_d5) rfl rfl kt) ?_
  show F T (mkF m 6 #[.val (.ref t), .val (.ref d)] [(.ref t)])
  refine B (fun tgt kt => XS.iconst S.here S.hx rfl (hb hby y_tc_d6) kt) ?_
  show F T (mkF m 7 #[.val (.ref t), .val (.ref d)] [(.int (0 : Int32)), (.ref t)])
  refine B (fun tgt kt => XS.aloadN S.here S.hx rfl (hb hby y_tc_d7) rfl rfl kt) ?_
  show F T (mkF m 8 #[.val (.ref t), .val (.ref d)] [(.ref d), (.int (0 : Int32)), (.ref t)])
  refine B (fun tgt kt => XS.iconst S.here S.hx rfl (hb hby y_tc_d8) kt) ?_
  show F T (mkF m 9 #[.val (.ref t), .val (.ref d)] [(.int (0 : Int32)), (.ref d), (.int (0 : Int32)), (.ref t)])
  refine B (fun tgt kt => XS.aloadN S.here S.hx rfl (hb hby y_tc_d9) rfl rfl kt) ?_
  show F T (mkF m 10 #[.val (.ref t), .val (.ref d)] [(.ref t), (.int (0 : Int32)), (.ref d), (.int (0 : Int32)), (.ref t)])
  refine Sp.alen B S V (hb hby y_tc_d10) ?_
  show F T (mkF m 11 #[.val (.ref t), .val (.ref d)] [(.int (Int32.ofNat cs.length)), (.int (0 : Int32)), (.ref d), (.int (0 : Int32)), (.ref t)])
  refine Sp.static B S (y := (⟨"java/lang/StringLatin1", "inflate", "([BI[CII)V"⟩ : MethodName)) (argsL := [(.ref t), (.int (0 : Int32)), (.ref d), (.int (0 : Int32)), (.int (Int32.ofNat cs.length))]) (rest := []) (hw _ (List.mem_of_getElem? (i := 49) rfl)) (hw _ (List.mem_of_getElem? (i := 50) rfl)) (hw _ (List.mem_of_getElem? (i := 47) rfl)) (hw _ (List.mem_of_getElem? (i := 51) rfl)) (by decide) (Call.con (W := 0) (y_inf l Z a0 EL hw hEW h1 cs hn hlat t d kb kd (natne (by omega)) V Vd) (hw _ (List.mem_of_getElem? (i := 51) rfl)) (hw _ (List.mem_of_getElem? (i := 47) rfl)) (by decide) (by decide)) (by simp) (by decide) (by decide) (by rw [hml]; rfl) (lenOf y_tc_p13 rfl) rfl (Nat.le_of_eq rfl) (hb hby y_tc_d11) fun v T h2 nw S hQ => ?_
  obtain ⟨rfl, rfl, K, Vd⟩ := hQ
  replace KK := KK.trans K (qk1 (by first | (refine Or.inl ?_; simp; done) | (refine Or.inr ?_; omega)))
  show F T (mkF m 14 #[.val (.ref t), .val (.ref d)] [])
  refine B (fun tgt kt => XS.aloadN S.here S.hx rfl (hb hby y_tc_d14) rfl rfl kt) ?_
  show F T (mkF m 15 #[.val (.ref t), .val (.ref d)] [(.ref d)])
  exact hF (S.retA hr hlk rfl rfl (hb hby y_tc_d15) (nw := [d]) ⟨d, kd, rfl, rfl, gd, KK, Vd⟩ (by simp))
theorem x_ul_d0 : decode jdk_52_method_6_code 0 = .ok (.aload_n 0, 1) := by decide +kernel
theorem x_ul_d1 : decode jdk_52_method_6_code 1 = .ok (.arraylength, 1) := by decide +kernel
theorem x_ul_d2 : decode jdk_52_method_6_code 2 = .ok (.iconst 1, 1) := by decide +kernel
theorem x_ul_d3 : decode jdk_52_method_6_code 3 = .ok (.ishr, 1) := by decide +kernel
theorem x_ul_d4 : decode jdk_52_method_6_code 4 = .ok (.ireturn, 1) := by decide +kernel
theorem x_ul_ef (m : MethodId) (t : Addr) : entryFrame m #[(.ref t)] 1 = mkF m 0 #[.val (.ref t)] [] := by first | (simp [entryFrame, mkF, argsToLocals, Value.category]; done) | rfl
theorem x_ul_pn : plainFor (⟨"java/lang/StringUTF16", "length", "([B)I"⟩ : MethodName) = true := by first | exact plainFor_of_name (by first | (simp [plainName, overriddenIn]; done) | decide +kernel) | decide +kernel
set_option maxRecDepth 65536 in
set_option maxHeartbeats 40000000 in
theorem x_ul (l : Launch) (Z : State) (a0 : Array Value) (EL : List (String × Nat)) (hw : ∀ d ∈ tables_1, d.before a0 Z = true) (hEW : EW Z a0 EL) (h : Heap) (n : Nat) (hn : n ≤ 8) (t : Addr) (kb : ClassId) (vs : List Value) (V : Arv Z h t kb .byte (Int32.ofNat (2 * n)) vs (.int 0)) :
    Con l Z EL (⟨"java/lang/StringUTF16", "length", "([B)I"⟩ : MethodName) jdk_52_method_6_code 1 (some .int) ({ frames := 0, cells := 0, slots := 0, locals := 0 } : Room) #[(.ref t)] h [] (fun v h' nw => v = some (.int (Int32.ofNat n)) ∧ nw = [] ∧ h = h') := by
  refine Con.of x_ul_pn hEW ?_
  intro p e s m below meth c T F B hF hby hml hr hlk hnm S
  rw [x_ul_ef]
  show F T (mkF m 0 #[.val (.ref t)] [])
  refine B (fun tgt kt => XS.aloadN S.here S.hx rfl (hb hby x_ul_d0) rfl rfl kt) ?_
  show F T (mkF m 1 #[.val (.ref t)] [(.ref t)])
  refine Sp.alen B S V (hb hby x_ul_d1) ?_
  show F T (mkF m 2 #[.val (.ref t)] [(.int (Int32.ofNat (2 * n)))])
  refine B (fun tgt kt => XS.iconst S.here S.hx rfl (hb hby x_ul_d2) kt) ?_
  show F T (mkF m 3 #[.val (.ref t)] [(.int (1 : Int32)), (.int (Int32.ofNat (2 * n)))])
  refine B (fun tgt kt => XT.ishr S.here S.hx rfl (hb hby x_ul_d3) rfl kt) ?_
  show F T (mkF m 4 #[.val (.ref t)] [(.int ((Int32.ofNat (2 * n)) >>> ((1 : Int32) &&& 31)))])
  rw [own_shr1 n hn]
  exact hF (S.retI hr hlk (by simp) rfl (hb hby x_ul_d4) (nw := []) ⟨rfl, rfl, rfl⟩ (by simp))
theorem y_pz0_d0 : decode jdk_41_method_13_code 0 = .ok (.iload_n 2, 1) := by decide +kernel
theorem y_pz0_d1 : decode jdk_41_method_13_code 1 = .ok (.iload_n 0, 1) := by decide +kernel
theorem y_pz0_d2 : decode jdk_41_method_13_code 2 = .ok (.ior, 1) := by decide +kernel
theorem y_pz0_d3 : decode jdk_41_method_13_code 3 = .ok (.iload_n 1, 1) := by decide +kernel
theorem y_pz0_d4 : decode jdk_41_method_13_code 4 = .ok (.ior, 1) := by decide +kernel
theorem y_pz0_d5 : decode jdk_41_method_13_code 5 = .ok (.ifCond .lt 10, 3) := by decide +kernel
theorem y_pz0_d8 : decode jdk_41_method_13_code 8 = .ok (.iload_n 1, 1) := by decide +kernel
theorem y_pz0_d9 : decode jdk_41_method_13_code 9 = .ok (.iload_n 2, 1) := by decide +kernel
theorem y_pz0_d10 : decode jdk_41_method_13_code 10 = .ok (.iload_n 0, 1) := by decide +kernel
theorem y_pz0_d11 : decode jdk_41_method_13_code 11 = .ok (.isub, 1) := by decide +kernel
theorem y_pz0_d12 : decode jdk_41_method_13_code 12 = .ok (.if_icmp .le 11, 3) := by decide +kernel
theorem y_pz0_d23 : decode jdk_41_method_13_code 23 = .ok (.iload_n 0, 1) := by decide +kernel
theorem y_pz0_d24 : decode jdk_41_method_13_code 24 = .ok (.ireturn, 1) := by decide +kernel
theorem y_pz0_ef (m : MethodId) (n : Nat) : entryFrame m #[(.int 0), (.int (Int32.ofNat n)), (.int (Int32.ofNat n)), (.null)] 4 = mkF m 0 #[.val (.int 0), .val (.int (Int32.ofNat n)), .val (.int (Int32.ofNat n)), .val (.null)] [] := by first | (simp [entryFrame, mkF, argsToLocals, Value.category]; done) | rfl
theorem y_pz0_pn : plainFor (⟨"jdk/internal/util/Preconditions", "checkFromIndexSize", "(IIILjava/util/function/BiFunction;)I"⟩ : MethodName) = true := by first | exact plainFor_of_name (by first | (simp [plainName, overriddenIn]; done) | decide +kernel) | decide +kernel
set_option maxRecDepth 65536 in
set_option maxHeartbeats 40000000 in
theorem y_pz0 (l : Launch) (Z : State) (a0 : Array Value) (EL : List (String × Nat)) (hw : ∀ d ∈ tables_1, d.before a0 Z = true) (hEW : EW Z a0 EL) (h : Heap) (n : Nat) (hn : n ≤ 8) :
    Con l Z EL (⟨"jdk/internal/util/Preconditions", "checkFromIndexSize", "(IIILjava/util/function/BiFunction;)I"⟩ : MethodName) jdk_41_method_13_code 4 (some .int) ({ frames := 0, cells := 0, slots := 0, locals := 0 } : Room) #[(.int 0), (.int (Int32.ofNat n)), (.int (Int32.ofNat n)), (.null)] h [] (fun v h' nw => v = some (.int 0) ∧ nw = [] ∧ h = h') := by
  refine Con.of y_pz0_pn hEW ?_
  intro p e s m below meth c T F B hF hby hml hr hlk hnm S
  rw [y_pz0_ef]
  show F T (mkF m 0 #[.val (.int 0), .val (.int (Int32.ofNat n)), .val (.int (Int32.ofNat n)), .val (.null)] [])
  refine B (fun tgt kt => XS.iloadN S.here S.hx rfl (hb hby y_pz0_d0) rfl kt) ?_
  show F T (mkF m 1 #[.val (.int 0), .val (.int (Int32.ofNat n)), .val (.int (Int32.ofNat n)), .val (.null)] [(.int (Int32.ofNat n))])
  refine B (fun tgt kt => XS.iloadN S.here S.hx rfl (hb hby y_pz0_d1) rfl kt) ?_
  show F T (mkF m 2 #[.val (.int 0), .val (.int (Int32.ofNat n)), .val (.int (Int32.ofNat n)), .val (.null)] [(.int 0), (.int (Int32.ofNat n))])
  refine B (fun tgt kt => XT.ior S.here S.hx rfl (hb hby y_pz0_d2) rfl kt) ?_
  show F T (mkF m 3 #[.val (.int 0), .val (.int (Int32.ofNat n)), .val (.int (Int32.ofNat n)), .val (.null)] [(.int ((Int32.ofNat n) ||| (0 : Int32)))])
  refine B (fun tgt kt => XS.iloadN S.here S.hx rfl (hb hby y_pz0_d3) rfl kt) ?_
  show F T (mkF m 4 #[.val (.int 0), .val (.int (Int32.ofNat n)), .val (.int (Int32.ofNat n)), .val (.null)] [(.int (Int32.ofNat n)), (.int ((Int32.ofNat n) ||| (0 : Int32)))])
  refine B (fun tgt kt => XT.ior S.here S.hx rfl (hb hby y_pz0_d4) rfl kt) ?_
  show F T (mkF m 5 #[.val (.int 0), .val (.int (Int32.ofNat n)), .val (.int (Int32.ofNat n)), .val (.null)] [(.int (((Int32.ofNat n) ||| (0 : Int32)) ||| (Int32.ofNat n)))])
  refine B (fun tgt kt => XS.ifNo S.here S.hx rfl (hb hby y_pz0_d5) rfl (i0_lt_f (own_or n hn)) kt) ?_
  show F T (mkF m 8 #[.val (.int 0), .val (.int (Int32.ofNat n)), .val (.int (Int32.ofNat n)), .val (.null)] [])
  refine B (fun tgt kt => XS.iloadN S.here S.hx rfl (hb hby y_pz0_d8) rfl kt) ?_
  show F T (mkF m 9 #[.val (.int 0), .val (.int (Int32.ofNat n)), .val (.int (Int32.ofNat n)), .val (.null)] [(.int (Int32.ofNat n))])
  refine B (fun tgt kt => XS.iloadN S.here S.hx rfl (hb hby y_pz0_d9) rfl kt) ?_
  show F T (mkF m 10 #[.val (.int 0), .val (.int (Int32.ofNat n)), .val (.int (Int32.ofNat n)), .val (.null)] [(.int (Int32.ofNat n)), (.int (Int32.ofNat n))])
  refine B (fun tgt kt => XS.iloadN S.here S.hx rfl (hb hby y_pz0_d10) rfl kt) ?_
  show F T (mkF m 11 #[.val (.int 0), .val (.int (Int32.ofNat n)), .val (.int (Int32.ofNat n)), .val (.null)] [(.int 0), (.int (Int32.ofNat n)), (.int (Int32.ofNat n))])
  refine B (fun tgt kt => XS.isub S.here S.hx rfl (hb hby y_pz0_d11) rfl kt) ?_
  show F T (mkF m 12 #[.val (.int 0), .val (.int (Int32.ofNat n)), .val (.int (Int32.ofNat n)), .val (.null)] [(.int ((Int32.ofNat n) - (0 : Int32))), (.int (Int32.ofNat n))])
  refine B (fun tgt kt => XS.icmpYes S.here S.hx rfl (pc0 := 12) (pc' := 23) rfl (hb hby y_pz0_d12) rfl (ii_le_t (by rw [own_sub0]; exact own_irr n)) (by decide) (by decide) kt) ?_
  show F T (mkF m 23 #[.val (.int 0), .val (.int (Int32.ofNat n)), .val (.int (Int32.ofNat n)), .val (.null)] [])
  refine B (fun tgt kt => XS.iloadN S.here S.hx rfl (hb hby y_pz0_d23) rfl kt) ?_
  show F T (mkF m 24 #[.val (.int 0), .val (.int (Int32.ofNat n)), .val (.int (Int32.ofNat n)), .val (.null)] [(.int 0)])
  exact hF (S.retI hr hlk (by simp) rfl (hb hby y_pz0_d24) (nw := []) ⟨rfl, rfl, rfl⟩ (by simp))
theorem y_pi0_d0 : decode jdk_41_method_11_code 0 = .ok (.iload_n 0, 1) := by decide +kernel
theorem y_pi0_d1 : decode jdk_41_method_11_code 1 = .ok (.ifCond .lt 8, 3) := by decide +kernel
theorem y_pi0_d4 : decode jdk_41_method_11_code 4 = .ok (.iload_n 0, 1) := by decide +kernel
theorem y_pi0_d5 : decode jdk_41_method_11_code 5 = .ok (.iload_n 1, 1) := by decide +kernel
theorem y_pi0_d6 : decode jdk_41_method_11_code 6 = .ok (.if_icmp .lt 10, 3) := by decide +kernel
theorem y_pi0_d16 : decode jdk_41_method_11_code 16 = .ok (.iload_n 0, 1) := by decide +kernel
theorem y_pi0_d17 : decode jdk_41_method_11_code 17 = .ok (.ireturn, 1) := by decide +kernel
theorem y_pi0_ef (m : MethodId) (i n : Nat) : entryFrame m #[(.int (Int32.ofNat i)), (.int (Int32.ofNat n)), (.null)] 3 = mkF m 0 #[.val (.int (Int32.ofNat i)), .val (.int (Int32.ofNat n)), .val (.null)] [] := by first | (simp [entryFrame, mkF, argsToLocals, Value.category]; done) | rfl
theorem y_pi0_pn : plainFor (⟨"jdk/internal/util/Preconditions", "checkIndex", "(IILjava/util/function/BiFunction;)I"⟩ : MethodName) = true := by first | exact plainFor_of_name (by first | (simp [plainName, overriddenIn]; done) | decide +kernel) | decide +kernel
set_option maxRecDepth 65536 in
set_option maxHeartbeats 40000000 in
theorem y_pi0 (l : Launch) (Z : State) (a0 : Array Value) (EL : List (String × Nat)) (hw : ∀ d ∈ tables_1, d.before a0 Z = true) (hEW : EW Z a0 EL) (h : Heap) (i n : Nat) (hi : i < n) (hn : n ≤ 8) :
    Con l Z EL (⟨"jdk/internal/util/Preconditions", "checkIndex", "(IILjava/util/function/BiFunction;)I"⟩ : MethodName) jdk_41_method_11_code 3 (some .int) ({ frames := 0, cells := 0, slots := 0, locals := 0 } : Room) #[(.int (Int32.ofNat i)), (.int (Int32.ofNat n)), (.null)] h [] (fun v h' nw => v = some (.int (Int32.ofNat i)) ∧ nw = [] ∧ h = h') := by
  refine Con.of y_pi0_pn hEW ?_
  intro p e s m below meth c T F B hF hby hml hr hlk hnm S
  rw [y_pi0_ef]
  show F T (mkF m 0 #[.val (.int (Int32.ofNat i)), .val (.int (Int32.ofNat n)), .val (.null)] [])
  refine B (fun tgt kt => XS.iloadN S.here S.hx rfl (hb hby y_pi0_d0) rfl kt) ?_
  show F T (mkF m 1 #[.val (.int (Int32.ofNat i)), .val (.int (Int32.ofNat n)), .val (.null)] [(.int (Int32.ofNat i))])
  refine B (fun tgt kt => XS.ifNo S.here S.hx rfl (hb hby y_pi0_d1) rfl (i0_lt_f (own_nn i (by omega))) kt) ?_
  show F T (mkF m 4 #[.val (.int (Int32.ofNat i)), .val (.int (Int32.ofNat n)), .val (.null)] [])
  refine B (fun tgt kt => XS.iloadN S.here S.hx rfl (hb hby y_pi0_d4) rfl kt) ?_
  show F T (mkF m 5 #[.val (.int (Int32.ofNat i)), .val (.int (Int32.ofNat n)), .val (.null)] [(.int (Int32.ofNat i))])
  refine B (fun tgt kt => XS.iloadN S.here S.hx rfl (hb hby y_pi0_d5) rfl kt) ?_
  show F T (mkF m 6 #[.val (.int (Int32.ofNat i)), .val (.int (Int32.ofNat n)), .val (.null)] [(.int (Int32.ofNat n)), (.int (Int32.ofNat i))])
  refine B (fun tgt kt => XS.icmpYes S.here S.hx rfl (pc0 := 6) (pc' := 16) rfl (hb hby y_pi0_d6) rfl (ii_lt_t (own_sm hi (by omega))) (by decide) (by decide) kt) ?_
  show F T (mkF m 16 #[.val (.int (Int32.ofNat i)), .val (.int (Int32.ofNat n)), .val (.null)] [])
  refine B (fun tgt kt => XS.iloadN S.here S.hx rfl (hb hby y_pi0_d16) rfl kt) ?_
  show F T (mkF m 17 #[.val (.int (Int32.ofNat i)), .val (.int (Int32.ofNat n)), .val (.null)] [(.int (Int32.ofNat i))])
  exact hF (S.retI hr hlk (by simp) rfl (hb hby y_pi0_d17) (nw := []) ⟨rfl, rfl, rfl⟩ (by simp))
theorem y_pz1_d0 : decode jdk_41_method_13_code 0 = .ok (.iload_n 2, 1) := by decide +kernel
theorem y_pz1_d1 : decode jdk_41_method_13_code 1 = .ok (.iload_n 0, 1) := by decide +kernel
theorem y_pz1_d2 : decode jdk_41_method_13_code 2 = .ok (.ior, 1) := by decide +kernel
theorem y_pz1_d3 : decode jdk_41_method_13_code 3 = .ok (.iload_n 1, 1) := by decide +kernel
theorem y_pz1_d4 : decode jdk_41_method_13_code 4 = .ok (.ior, 1) := by decide +kernel
theorem y_pz1_d5 : decode jdk_41_method_13_code 5 = .ok (.ifCond .lt 10, 3) := by decide +kernel
theorem y_pz1_d8 : decode jdk_41_method_13_code 8 = .ok (.iload_n 1, 1) := by decide +kernel
theorem y_pz1_d9 : decode jdk_41_method_13_code 9 = .ok (.iload_n 2, 1) := by decide +kernel
theorem y_pz1_d10 : decode jdk_41_method_13_code 10 = .ok (.iload_n 0, 1) := by decide +kernel
theorem y_pz1_d11 : decode jdk_41_method_13_code 11 = .ok (.isub, 1) := by decide +kernel
theorem y_pz1_d12 : decode jdk_41_method_13_code 12 = .ok (.if_icmp .le 11, 3) := by decide +kernel
theorem y_pz1_d23 : decode jdk_41_method_13_code 23 = .ok (.iload_n 0, 1) := by decide +kernel
theorem y_pz1_d24 : decode jdk_41_method_13_code 24 = .ok (.ireturn, 1) := by decide +kernel
theorem y_pz1_ef (m : MethodId) (n : Nat) (fa : Addr) : entryFrame m #[(.int 0), (.int (Int32.ofNat n)), (.int (Int32.ofNat n)), (.ref fa)] 4 = mkF m 0 #[.val (.int 0), .val (.int (Int32.ofNat n)), .val (.int (Int32.ofNat n)), .val (.ref fa)] [] := by first | (simp [entryFrame, mkF, argsToLocals, Value.category]; done) | rfl
theorem y_pz1_pn : plainFor (⟨"jdk/internal/util/Preconditions", "checkFromIndexSize", "(IIILjava/util/function/BiFunction;)I"⟩ : MethodName) = true := by first | exact plainFor_of_name (by first | (simp [plainName, overriddenIn]; done) | decide +kernel) | decide +kernel
set_option maxRecDepth 65536 in
set_option maxHeartbeats 40000000 in
theorem y_pz1 (l : Launch) (Z : State) (a0 : Array Value) (EL : List (String × Nat)) (hw : ∀ d ∈ tables_1, d.before a0 Z = true) (hEW : EW Z a0 EL) (h : Heap) (n : Nat) (hn : n ≤ 8) (fa : Addr) :
    Con l Z EL (⟨"jdk/internal/util/Preconditions", "checkFromIndexSize", "(IIILjava/util/function/BiFunction;)I"⟩ : MethodName) jdk_41_method_13_code 4 (some .int) ({ frames := 0, cells := 0, slots := 0, locals := 0 } : Room) #[(.int 0), (.int (Int32.ofNat n)), (.int (Int32.ofNat n)), (.ref fa)] h [] (fun v h' nw => v = some (.int 0) ∧ nw = [] ∧ h = h') := by
  refine Con.of y_pz1_pn hEW ?_
  intro p e s m below meth c T F B hF hby hml hr hlk hnm S
  rw [y_pz1_ef]
  show F T (mkF m 0 #[.val (.int 0), .val (.int (Int32.ofNat n)), .val (.int (Int32.ofNat n)), .val (.ref fa)] [])
  refine B (fun tgt kt => XS.iloadN S.here S.hx rfl (hb hby y_pz1_d0) rfl kt) ?_
  show F T (mkF m 1 #[.val (.int 0), .val (.int (Int32.ofNat n)), .val (.int (Int32.ofNat n)), .val (.ref fa)] [(.int (Int32.ofNat n))])
  refine B (fun tgt kt => XS.iloadN S.here S.hx rfl (hb hby y_pz1_d1) rfl kt) ?_
  show F T (mkF m 2 #[.val (.int 0), .val (.int (Int32.ofNat n)), .val (.int (Int32.ofNat n)), .val (.ref fa)] [(.int 0), (.int (Int32.ofNat n))])
  refine B (fun tgt kt => XT.ior S.here S.hx rfl (hb hby y_pz1_d2) rfl kt) ?_
  show F T (mkF m 3 #[.val (.int 0), .val (.int (Int32.ofNat n)), .val (.int (Int32.ofNat n)), .val (.ref fa)] [(.int ((Int32.ofNat n) ||| (0 : Int32)))])
  refine B (fun tgt kt => XS.iloadN S.here S.hx rfl (hb hby y_pz1_d3) rfl kt) ?_
  show F T (mkF m 4 #[.val (.int 0), .val (.int (Int32.ofNat n)), .val (.int (Int32.ofNat n)), .val (.ref fa)] [(.int (Int32.ofNat n)), (.int ((Int32.ofNat n) ||| (0 : Int32)))])
  refine B (fun tgt kt => XT.ior S.here S.hx rfl (hb hby y_pz1_d4) rfl kt) ?_
  show F T (mkF m 5 #[.val (.int 0), .val (.int (Int32.ofNat n)), .val (.int (Int32.ofNat n)), .val (.ref fa)] [(.int (((Int32.ofNat n) ||| (0 : Int32)) ||| (Int32.ofNat n)))])
  refine B (fun tgt kt => XS.ifNo S.here S.hx rfl (hb hby y_pz1_d5) rfl (i0_lt_f (own_or n hn)) kt) ?_
  show F T (mkF m 8 #[.val (.int 0), .val (.int (Int32.ofNat n)), .val (.int (Int32.ofNat n)), .val (.ref fa)] [])
  refine B (fun tgt kt => XS.iloadN S.here S.hx rfl (hb hby y_pz1_d8) rfl kt) ?_
  show F T (mkF m 9 #[.val (.int 0), .val (.int (Int32.ofNat n)), .val (.int (Int32.ofNat n)), .val (.ref fa)] [(.int (Int32.ofNat n))])
  refine B (fun tgt kt => XS.iloadN S.here S.hx rfl (hb hby y_pz1_d9) rfl kt) ?_
  show F T (mkF m 10 #[.val (.int 0), .val (.int (Int32.ofNat n)), .val (.int (Int32.ofNat n)), .val (.ref fa)] [(.int (Int32.ofNat n)), (.int (Int32.ofNat n))])
  refine B (fun tgt kt => XS.iloadN S.here S.hx rfl (hb hby y_pz1_d10) rfl kt) ?_
  show F T (mkF m 11 #[.val (.int 0), .val (.int (Int32.ofNat n)), .val (.int (Int32.ofNat n)), .val (.ref fa)] [(.int 0), (.int (Int32.ofNat n)), (.int (Int32.ofNat n))])
  refine B (fun tgt kt => XS.isub S.here S.hx rfl (hb hby y_pz1_d11) rfl kt) ?_
  show F T (mkF m 12 #[.val (.int 0), .val (.int (Int32.ofNat n)), .val (.int (Int32.ofNat n)), .val (.ref fa)] [(.int ((Int32.ofNat n) - (0 : Int32))), (.int (Int32.ofNat n))])
  refine B (fun tgt kt => XS.icmpYes S.here S.hx rfl (pc0 := 12) (pc' := 23) rfl (hb hby y_pz1_d12) rfl (ii_le_t (by rw [own_sub0]; exact own_irr n)) (by decide) (by decide) kt) ?_
  show F T (mkF m 23 #[.val (.int 0), .val (.int (Int32.ofNat n)), .val (.int (Int32.ofNat n)), .val (.ref fa)] [])
  refine B (fun tgt kt => XS.iloadN S.here S.hx rfl (hb hby y_pz1_d23) rfl kt) ?_
  show F T (mkF m 24 #[.val (.int 0), .val (.int (Int32.ofNat n)), .val (.int (Int32.ofNat n)), .val (.ref fa)] [(.int 0)])
  exact hF (S.retI hr hlk (by simp) rfl (hb hby y_pz1_d24) (nw := []) ⟨rfl, rfl, rfl⟩ (by simp))
theorem y_pi1_d0 : decode jdk_41_method_11_code 0 = .ok (.iload_n 0, 1) := by decide +kernel
theorem y_pi1_d1 : decode jdk_41_method_11_code 1 = .ok (.ifCond .lt 8, 3) := by decide +kernel
theorem y_pi1_d4 : decode jdk_41_method_11_code 4 = .ok (.iload_n 0, 1) := by decide +kernel
theorem y_pi1_d5 : decode jdk_41_method_11_code 5 = .ok (.iload_n 1, 1) := by decide +kernel
theorem y_pi1_d6 : decode jdk_41_method_11_code 6 = .ok (.if_icmp .lt 10, 3) := by decide +kernel
theorem y_pi1_d16 : decode jdk_41_method_11_code 16 = .ok (.iload_n 0, 1) := by decide +kernel
theorem y_pi1_d17 : decode jdk_41_method_11_code 17 = .ok (.ireturn, 1) := by decide +kernel
theorem y_pi1_ef (m : MethodId) (i n : Nat) (fa : Addr) : entryFrame m #[(.int (Int32.ofNat i)), (.int (Int32.ofNat n)), (.ref fa)] 3 = mkF m 0 #[.val (.int (Int32.ofNat i)), .val (.int (Int32.ofNat n)), .val (.ref fa)] [] := by first | (simp [entryFrame, mkF, argsToLocals, Value.category]; done) | rfl
theorem y_pi1_pn : plainFor (⟨"jdk/internal/util/Preconditions", "checkIndex", "(IILjava/util/function/BiFunction;)I"⟩ : MethodName) = true := by first | exact plainFor_of_name (by first | (simp [plainName, overriddenIn]; done) | decide +kernel) | decide +kernel
set_option maxRecDepth 65536 in
set_option maxHeartbeats 40000000 in
theorem y_pi1 (l : Launch) (Z : State) (a0 : Array Value) (EL : List (String × Nat)) (hw : ∀ d ∈ tables_1, d.before a0 Z = true) (hEW : EW Z a0 EL) (h : Heap) (i n : Nat) (hi : i < n) (hn : n ≤ 8) (fa : Addr) :
    Con l Z EL (⟨"jdk/internal/util/Preconditions", "checkIndex", "(IILjava/util/function/BiFunction;)I"⟩ : MethodName) jdk_41_method_11_code 3 (some .int) ({ frames := 0, cells := 0, slots := 0, locals := 0 } : Room) #[(.int (Int32.ofNat i)), (.int (Int32.ofNat n)), (.ref fa)] h [] (fun v h' nw => v = some (.int (Int32.ofNat i)) ∧ nw = [] ∧ h = h') := by
  refine Con.of y_pi1_pn hEW ?_
  intro p e s m below meth c T F B hF hby hml hr hlk hnm S
  rw [y_pi1_ef]
  show F T (mkF m 0 #[.val (.int (Int32.ofNat i)), .val (.int (Int32.ofNat n)), .val (.ref fa)] [])
  refine B (fun tgt kt => XS.iloadN S.here S.hx rfl (hb hby y_pi1_d0) rfl kt) ?_
  show F T (mkF m 1 #[.val (.int (Int32.ofNat i)), .val (.int (Int32.ofNat n)), .val (.ref fa)] [(.int (Int32.ofNat i))])
  refine B (fun tgt kt => XS.ifNo S.here S.hx rfl (hb hby y_pi1_d1) rfl (i0_lt_f (own_nn i (by omega))) kt) ?_
  show F T (mkF m 4 #[.val (.int (Int32.ofNat i)), .val (.int (Int32.ofNat n)), .val (.ref fa)] [])
  refine B (fun tgt kt => XS.iloadN S.here S.hx rfl (hb hby y_pi1_d4) rfl kt) ?_
  show F T (mkF m 5 #[.val (.int (Int32.ofNat i)), .val (.int (Int32.ofNat n)), .val (.ref fa)] [(.int (Int32.ofNat i))])
  refine B (fun tgt kt => XS.iloadN S.here S.hx rfl (hb hby y_pi1_d5) rfl kt) ?_
  show F T (mkF m 6 #[.val (.int (Int32.ofNat i)), .val (.int (Int32.ofNat n)), .val (.ref fa)] [(.int (Int32.ofNat n)), (.int (Int32.ofNat i))])
  refine B (fun tgt kt => XS.icmpYes S.here S.hx rfl (pc0 := 6) (pc' := 16) rfl (hb hby y_pi1_d6) rfl (ii_lt_t (own_sm hi (by omega))) (by decide) (by decide) kt) ?_
  show F T (mkF m 16 #[.val (.int (Int32.ofNat i)), .val (.int (Int32.ofNat n)), .val (.ref fa)] [])
  refine B (fun tgt kt => XS.iloadN S.here S.hx rfl (hb hby y_pi1_d16) rfl kt) ?_
  show F T (mkF m 17 #[.val (.int (Int32.ofNat i)), .val (.int (Int32.ofNat n)), .val (.ref fa)] [(.int (Int32.ofNat i))])
  exact hF (S.retI hr hlk (by simp) rfl (hb hby y_pi1_d17) (nw := []) ⟨rfl, rfl, rfl⟩ (by simp))
theorem y_sb_d0 : decode jdk_42_method_157_code 0 = .ok (.iload_n 0, 1) := by decide +kernel
theorem y_sb_d1 : decode jdk_42_method_157_code 1 = .ok (.iload_n 1, 1) := by decide +kernel
theorem y_sb_d2 : decode jdk_42_method_157_code 2 = .ok (.iload_n 2, 1) := by decide +kernel
theorem y_sb_d3 : decode jdk_42_method_157_code 3 = .ok (.getstatic 1053, 3) := by decide +kernel
theorem y_sb_d6 : decode jdk_42_method_157_code 6 = .ok (.invokestatic 1065, 3) := by decide +kernel
theorem y_sb_d9 : decode jdk_42_method_157_code 9 = .ok (.ireturn, 1) := by decide +kernel
theorem y_sb_p1065 : parseMethodDescriptor "(IIILjava/util/function/BiFunction;)I" = some ⟨[.int, .int, .int, (.object "java/util/function/BiFunction")], (some .int)⟩ := by decide +kernel
theorem y_sb_ef (m : MethodId) (n : Nat) : entryFrame m #[(.int 0), (.int (Int32.ofNat n)), (.int (Int32.ofNat n))] 3 = mkF m 0 #[.val (.int 0), .val (.int (Int32.ofNat n)), .val (.int (Int32.ofNat n))] [] := by first | (simp [entryFrame, mkF, argsToLocals, Value.category]; done) | rfl
theorem y_sb_pn : plainFor (⟨"java/lang/String", "checkBoundsOffCount", "(III)I"⟩ : MethodName) = true := by first | exact plainFor_of_name (by first | (simp [plainName, overriddenIn]; done) | decide +kernel) | decide +kernel
set_option maxRecDepth 65536 in
set_option maxHeartbeats 40000000 in
theorem y_sb (l : Launch) (Z : State) (a0 : Array Value) (EL : List (String × Nat)) (hw : ∀ d ∈ tables_1, d.before a0 Z = true) (hEW : EW Z a0 EL) (h : Heap) (fm : Value) (SF : Sta Z Z.heap "jdk/internal/util/Preconditions" "SIOOBE_FORMATTER" "Ljava/util/function/BiFunction;" fm) (hfm : fm.isRef = true) (n : Nat) (hn : n ≤ 8) :
    Con l Z EL (⟨"java/lang/String", "checkBoundsOffCount", "(III)I"⟩ : MethodName) jdk_42_method_157_code 3 (some .int) ({ frames := 1, cells := 0, slots := 0, locals := 15 } : Room) #[(.int 0), (.int (Int32.ofNat n)), (.int (Int32.ofNat n))] h [] (fun v h' nw => v = some (.int 0) ∧ nw = [] ∧ h = h') := by
  refine Con.of y_sb_pn hEW ?_
  intro p e s m below meth c T F B hF hby hml hr hlk hnm S
  rw [y_sb_ef]
  show F T (mkF m 0 #[.val (.int 0), .val (.int (Int32.ofNat n)), .val (.int (Int32.ofNat n))] [])
  rcases ref_cases hfm with rfl | ⟨fa, rfl⟩
  ·
    show F T (mkF m 0 #[.val (.int 0), .val (.int (Int32.ofNat n)), .val (.int (Int32.ofNat n))] [])
    refine B (fun tgt kt => XS.iloadN S.here S.hx rfl (hb hby y_sb_d0) rfl kt) ?_
    show F T (mkF m 1 #[.val (.int 0), .val (.int (Int32.ofNat n)), .val (.int (Int32.ofNat n))] [(.int 0)])
    refine B (fun tgt kt => XS.iloadN S.here S.hx rfl (hb hby y_sb_d1) rfl kt) ?_
    show F T (mkF m 2 #[.val (.int 0), .val (.int (Int32.ofNat n)), .val (.int (Int32.ofNat n))] [(.int (Int32.ofNat n)), (.int 0)])
    refine B (fun tgt kt => XS.iloadN S.here S.hx rfl (hb hby y_sb_d2) rfl kt) ?_
    show F T (mkF m 3 #[.val (.int 0), .val (.int (Int32.ofNat n)), .val (.int (Int32.ofNat n))] [(.int (Int32.ofNat n)), (.int (Int32.ofNat n)), (.int 0)])
    refine Sp.getS B S (hw _ (List.mem_of_getElem? (i := 75) rfl)) Via.refl SF (hb hby y_sb_d3) fun T S => ?_
    show F T (mkF m 6 #[.val (.int 0), .val (.int (Int32.ofNat n)), .val (.int (Int32.ofNat n))] [(.null), (.int (Int32.ofNat n)), (.int (Int32.ofNat n)), (.int 0)])
    refine Sp.static B S (y := (⟨"jdk/internal/util/Preconditions", "checkFromIndexSize", "(IIILjava/util/function/BiFunction;)I"⟩ : MethodName)) (argsL := [(.int 0), (.int (Int32.ofNat n)), (.int (Int32.ofNat n)), (.null)]) (rest := []) (hw _ (List.mem_of_getElem? (i := 126) rfl)) (hw _ (List.mem_of_getElem? (i := 127) rfl)) (hw _ (List.mem_of_getElem? (i := 76) rfl)) (hw _ (List.mem_of_getElem? (i := 128) rfl)) (by decide) (Call.con (W := 0) (y_pz0 l Z a0 EL hw hEW h n hn) (hw _ (List.mem_of_getElem? (i := 128) rfl)) (hw _ (List.mem_of_getElem? (i := 76) rfl)) (by decide) (by decide)) (by simp) (by decide) (by decide) (by rw [hml]; rfl) (lenOf y_sb_p1065 rfl) rfl (Nat.le_of_eq rfl) (hb hby y_sb_d6) fun v T h1 nw S hQ => ?_
    obtain ⟨rfl, rfl, rfl⟩ := hQ
    show F T (mkF m 9 #[.val (.int 0), .val (.int (Int32.ofNat n)), .val (.int (Int32.ofNat n))] [(.int 0)])
    exact hF (S.retI hr hlk (by simp) rfl (hb hby y_sb_d9) (nw := []) ⟨rfl, rfl, rfl⟩ (by simp))
  ·
    show F T (mkF m 0 #[.val (.int 0), .val (.int (Int32.ofNat n)), .val (.int (Int32.ofNat n))] [])
    refine B (fun tgt kt => XS.iloadN S.here S.hx rfl (hb hby y_sb_d0) rfl kt) ?_
    show F T (mkF m 1 #[.val (.int 0), .val (.int (Int32.ofNat n)), .val (.int (Int32.ofNat n))] [(.int 0)])
    refine B (fun tgt kt => XS.iloadN S.here S.hx rfl (hb hby y_sb_d1) rfl kt) ?_
    show F T (mkF m 2 #[.val (.int 0), .val (.int (Int32.ofNat n)), .val (.int (Int32.ofNat n))] [(.int (Int32.ofNat n)), (.int 0)])
    refine B (fun tgt kt => XS.iloadN S.here S.hx rfl (hb hby y_sb_d2) rfl kt) ?_
    show F T (mkF m 3 #[.val (.int 0), .val (.int (Int32.ofNat n)), .val (.int (Int32.ofNat n))] [(.int (Int32.ofNat n)), (.int (Int32.ofNat n)), (.int 0)])
    refine Sp.getS B S (hw _ (List.mem_of_getElem? (i := 75) rfl)) Via.refl SF (hb hby y_sb_d3) fun T S => ?_
    show F T (mkF m 6 #[.val (.int 0), .val (.int (Int32.ofNat n)), .val (.int (Int32.ofNat n))] [(.ref fa), (.int (Int32.ofNat n)), (.int (Int32.ofNat n)), (.int 0)])
    refine Sp.static B S (y := (⟨"jdk/internal/util/Preconditions", "checkFromIndexSize", "(IIILjava/util/function/BiFunction;)I"⟩ : MethodName)) (argsL := [(.int 0), (.int (Int32.ofNat n)), (.int (Int32.ofNat n)), (.ref fa)]) (rest := []) (hw _ (List.mem_of_getElem? (i := 126) rfl)) (hw _ (List.mem_of_getElem? (i := 127) rfl)) (hw _ (List.mem_of_getElem? (i := 76) rfl)) (hw _ (List.mem_of_getElem? (i := 128) rfl)) (by decide) (Call.con (W := 0) (y_pz1 l Z a0 EL hw hEW h n hn fa) (hw _ (List.mem_of_getElem? (i := 128) rfl)) (hw _ (List.mem_of_getElem? (i := 76) rfl)) (by decide) (by decide)) (by simp) (by decide) (by decide) (by rw [hml]; rfl) (lenOf y_sb_p1065 rfl) rfl (Nat.le_of_eq rfl) (hb hby y_sb_d6) fun v T h2 nw S hQ => ?_
    obtain ⟨rfl, rfl, rfl⟩ := hQ
    show F T (mkF m 9 #[.val (.int 0), .val (.int (Int32.ofNat n)), .val (.int (Int32.ofNat n))] [(.int 0)])
    exact hF (S.retI hr hlk (by simp) rfl (hb hby y_sb_d9) (nw := []) ⟨rfl, rfl, rfl⟩ (by simp))
theorem y_si_d0 : decode jdk_42_method_155_code 0 = .ok (.iload_n 0, 1) := by decide +kernel
theorem y_si_d1 : decode jdk_42_method_155_code 1 = .ok (.iload_n 1, 1) := by decide +kernel
theorem y_si_d2 : decode jdk_42_method_155_code 2 = .ok (.getstatic 1053, 3) := by decide +kernel
theorem y_si_d5 : decode jdk_42_method_155_code 5 = .ok (.invokestatic 1059, 3) := by decide +kernel
theorem y_si_d8 : decode jdk_42_method_155_code 8 = .ok (.pop, 1) := by decide +kernel
theorem y_si_d9 : decode jdk_42_method_155_code 9 = .ok (.return_, 1) := by decide +kernel
theorem y_si_p1059 : parseMethodDescriptor "(IILjava/util/function/BiFunction;)I" = some ⟨[.int, .int, (.object "java/util/function/BiFunction")], (some .int)⟩ := by decide +kernel
theorem y_si_ef (m : MethodId) (i n : Nat) : entryFrame m #[(.int (Int32.ofNat i)), (.int (Int32.ofNat n))] 2 = mkF m 0 #[.val (.int (Int32.ofNat i)), .val (.int (Int32.ofNat n))] [] := by first | (simp [entryFrame, mkF, argsToLocals, Value.category]; done) | rfl
theorem y_si_pn : plainFor (⟨"java/lang/String", "checkIndex", "(II)V"⟩ : MethodName) = true := by first | exact plainFor_of_name (by first | (simp [plainName, overriddenIn]; done) | decide +kernel) | decide +kernel
set_option maxRecDepth 65536 in
set_option maxHeartbeats 40000000 in
theorem y_si (l : Launch) (Z : State) (a0 : Array Value) (EL : List (String × Nat)) (hw : ∀ d ∈ tables_1, d.before a0 Z = true) (hEW : EW Z a0 EL) (h : Heap) (fm : Value) (SF : Sta Z Z.heap "jdk/internal/util/Preconditions" "SIOOBE_FORMATTER" "Ljava/util/function/BiFunction;" fm) (hfm : fm.isRef = true) (i n : Nat) (hi : i < n) (hn : n ≤ 8) :
    Con l Z EL (⟨"java/lang/String", "checkIndex", "(II)V"⟩ : MethodName) jdk_42_method_155_code 2 none ({ frames := 1, cells := 0, slots := 0, locals := 14 } : Room) #[(.int (Int32.ofNat i)), (.int (Int32.ofNat n))] h [] (fun v h' nw => v = none ∧ nw = [] ∧ h = h') := by
  refine Con.of y_si_pn hEW ?_
  intro p e s m below meth c T F B hF hby hml hr hlk hnm S
  rw [y_si_ef]
  show F T (mkF m 0 #[.val (.int (Int32.ofNat i)), .val (.int (Int32.ofNat n))] [])
  rcases ref_cases hfm with rfl | ⟨fa, rfl⟩
  ·
    show F T (mkF m 0 #[.val (.int (Int32.ofNat i)), .val (.int (Int32.ofNat n))] [])
    refine B (fun tgt kt => XS.iloadN S.here S.hx rfl (hb hby y_si_d0) rfl kt) ?_
    show F T (mkF m 1 #[.val (.int (Int32.ofNat i)), .val (.int (Int32.ofNat n))] [(.int (Int32.ofNat i))])
    refine B (fun tgt kt => XS.iloadN S.here S.hx rfl (hb hby y_si_d1) rfl kt) ?_
    show F T (mkF m 2 #[.val (.int (Int32.ofNat i)), .val (.int (Int32.ofNat n))] [(.int (Int32.ofNat n)), (.int (Int32.ofNat i))])
    refine Sp.getS B S (hw _ (List.mem_of_getElem? (i := 75) rfl)) Via.refl SF (hb hby y_si_d2) fun T S => ?_
    show F T (mkF m 5 #[.val (.int (Int32.ofNat i)), .val (.int (Int32.ofNat n))] [(.null), (.int (Int32.ofNat n)), (.int (Int32.ofNat i))])
    refine Sp.static B S (y := (⟨"jdk/internal/util/Preconditions", "checkIndex", "(IILjava/util/function/BiFunction;)I"⟩ : MethodName)) (argsL := [(.int (Int32.ofNat i)), (.int (Int32.ofNat n)), (.null)]) (rest := []) (hw _ (List.mem_of_getElem? (i := 77) rfl)) (hw _ (List.mem_of_getElem? (i := 78) rfl)) (hw _ (List.mem_of_getElem? (i := 76) rfl)) (hw _ (List.mem_of_getElem? (i := 79) rfl)) (by decide) (Call.con (W := 0) (y_pi0 l Z a0 EL hw hEW h i n hi hn) (hw _ (List.mem_of_getElem? (i := 79) rfl)) (hw _ (List.mem_of_getElem? (i := 76) rfl)) (by decide) (by decide)) (by simp) (by decide) (by decide) (by rw [hml]; rfl) (lenOf y_si_p1059 rfl) rfl (Nat.le_of_eq rfl) (hb hby y_si_d5) fun v T h1 nw S hQ => ?_
    obtain ⟨rfl, rfl, rfl⟩ := hQ
    show F T (mkF m 8 #[.val (.int (Int32.ofNat i)), .val (.int (Int32.ofNat n))] [(.int (Int32.ofNat i))])
    refine B (fun tgt kt => XT.pop S.here S.hx rfl (hb hby y_si_d8) rfl rfl kt) ?_
    show F T (mkF m 9 #[.val (.int (Int32.ofNat i)), .val (.int (Int32.ofNat n))] [])
    exact hF (S.ret hr hlk (hb hby y_si_d9) (nw := []) ⟨rfl, rfl, rfl⟩ (by simp))
  ·
    show F T (mkF m 0 #[.val (.int (Int32.ofNat i)), .val (.int (Int32.ofNat n))] [])
    refine B (fun tgt kt => XS.iloadN S.here S.hx rfl (hb hby y_si_d0) rfl kt) ?_
    show F T (mkF m 1 #[.val (.int (Int32.ofNat i)), .val (.int (Int32.ofNat n))] [(.int (Int32.ofNat i))])
    refine B (fun tgt kt => XS.iloadN S.here S.hx rfl (hb hby y_si_d1) rfl kt) ?_
    show F T (mkF m 2 #[.val (.int (Int32.ofNat i)), .val (.int (Int32.ofNat n))] [(.int (Int32.ofNat n)), (.int (Int32.ofNat i))])
    refine Sp.getS B S (hw _ (List.mem_of_getElem? (i := 75) rfl)) Via.refl SF (hb hby y_si_d2) fun T S => ?_
    show F T (mkF m 5 #[.val (.int (Int32.ofNat i)), .val (.int (Int32.ofNat n))] [(.ref fa), (.int (Int32.ofNat n)), (.int (Int32.ofNat i))])
    refine Sp.static B S (y := (⟨"jdk/internal/util/Preconditions", "checkIndex", "(IILjava/util/function/BiFunction;)I"⟩ : MethodName)) (argsL := [(.int (Int32.ofNat i)), (.int (Int32.ofNat n)), (.ref fa)]) (rest := []) (hw _ (List.mem_of_getElem? (i := 77) rfl)) (hw _ (List.mem_of_getElem? (i := 78) rfl)) (hw _ (List.mem_of_getElem? (i := 76) rfl)) (hw _ (List.mem_of_getElem? (i := 79) rfl)) (by decide) (Call.con (W := 0) (y_pi1 l Z a0 EL hw hEW h i n hi hn fa) (hw _ (List.mem_of_getElem? (i := 79) rfl)) (hw _ (List.mem_of_getElem? (i := 76) rfl)) (by decide) (by decide)) (by simp) (by decide) (by decide) (by rw [hml]; rfl) (lenOf y_si_p1059 rfl) rfl (Nat.le_of_eq rfl) (hb hby y_si_d5) fun v T h2 nw S hQ => ?_
    obtain ⟨rfl, rfl, rfl⟩ := hQ
    show F T (mkF m 8 #[.val (.int (Int32.ofNat i)), .val (.int (Int32.ofNat n))] [(.int (Int32.ofNat i))])
    refine B (fun tgt kt => XT.pop S.here S.hx rfl (hb hby y_si_d8) rfl rfl kt) ?_
    show F T (mkF m 9 #[.val (.int (Int32.ofNat i)), .val (.int (Int32.ofNat n))] [])
    exact hF (S.ret hr hlk (hb hby y_si_d9) (nw := []) ⟨rfl, rfl, rfl⟩ (by simp))
theorem y_ub_d0 : decode jdk_52_method_94_code 0 = .ok (.iload_n 0, 1) := by decide +kernel
theorem y_ub_d1 : decode jdk_52_method_94_code 1 = .ok (.iload_n 1, 1) := by decide +kernel
theorem y_ub_d2 : decode jdk_52_method_94_code 2 = .ok (.aload_n 2, 1) := by decide +kernel
theorem y_ub_d3 : decode jdk_52_method_94_code 3 = .ok (.invokestatic 48, 3) := by decide +kernel
theorem y_ub_d6 : decode jdk_52_method_94_code 6 = .ok (.invokestatic 419, 3) := by decide +kernel
theorem y_ub_d9 : decode jdk_52_method_94_code 9 = .ok (.pop, 1) := by decide +kernel
theorem y_ub_d10 : decode jdk_52_method_94_code 10 = .ok (.return_, 1) := by decide +kernel
theorem y_ub_p48 : parseMethodDescriptor "([B)I" = some ⟨[(.array .byte)], (some .int)⟩ := by decide +kernel
theorem y_ub_p419 : parseMethodDescriptor "(III)I" = some ⟨[.int, .int, .int], (some .int)⟩ := by decide +kernel
theorem y_ub_ef (m : MethodId) (t : Addr) (cs : List Int32) : entryFrame m #[(.int 0), (.int (Int32.ofNat cs.length)), (.ref t)] 3 = mkF m 0 #[.val (.int 0), .val (.int (Int32.ofNat cs.length)), .val (.ref t)] [] := by first | (simp [entryFrame, mkF, argsToLocals, Value.category]; done) | rfl
theorem y_ub_pn : plainFor (⟨"java/lang/StringUTF16", "checkBoundsOffCount", "(II[B)V"⟩ : MethodName) = true := by first | exact plainFor_of_name (by first | (simp [plainName, overriddenIn]; done) | decide +kernel) | decide +kernel
set_option maxRecDepth 65536 in
set_option maxHeartbeats 40000000 in
theorem y_ub (l : Launch) (Z : State) (a0 : Array Value) (EL : List (String × Nat)) (hw : ∀ d ∈ tables_1, d.before a0 Z = true) (hEW : EW Z a0 EL) (h : Heap) (fm : Value) (SF : Sta Z Z.heap "jdk/internal/util/Preconditions" "SIOOBE_FORMATTER" "Ljava/util/function/BiFunction;" fm) (hfm : fm.isRef = true) (cs : List Int32) (hn : cs.length ≤ 8) (t : Addr) (kb : ClassId) (V : Arv Z h t kb .byte (Int32.ofNat (2 * cs.length)) (StrChars.Road.wideBytes cs) (.int 0)) :
    Con l Z EL (⟨"java/lang/StringUTF16", "checkBoundsOffCount", "(II[B)V"⟩ : MethodName) jdk_52_method_94_code 3 none ({ frames := 2, cells := 0, slots := 0, locals := 29 } : Room) #[(.int 0), (.int (Int32.ofNat cs.length)), (.ref t)] h [] (fun v h' nw => v = none ∧ nw = [] ∧ h = h') := by
  refine Con.of y_ub_pn hEW ?_
  intro p e s m below meth c T F B hF hby hml hr hlk hnm S
  rw [y_ub_ef]
  show F T (mkF m 0 #[.val (.int 0), .val (.int (Int32.ofNat cs.length)), .val (.ref t)] [])
  refine B (fun tgt kt => XS.iloadN S.here S.hx rfl (hb hby y_ub_d0) rfl kt) ?_
  show F T (mkF m 1 #[.val (.int 0), .val (.int (Int32.ofNat cs.length)), .val (.ref t)] [(.int 0)])
  refine B (fun tgt kt => XS.iloadN S.here S.hx rfl (hb hby y_ub_d1) rfl kt) ?_
  show F T (mkF m 2 #[.val (.int 0), .val (.int (Int32.ofNat cs.length)), .val (.ref t)] [(.int (Int32.ofNat cs.length)), (.int 0)])
  refine B (fun tgt kt => XS.aloadN S.here S.hx rfl (hb hby y_ub_d2) rfl rfl kt) ?_
  show F T (mkF m 3 #[.val (.int 0), .val (.int (Int32.ofNat cs.length)), .val (.ref t)] [(.ref t), (.int (Int32.ofNat cs.length)), (.int 0)])
  refine Sp.static B S (y := (⟨"java/lang/StringUTF16", "length", "([B)I"⟩ : MethodName)) (argsL := [(.ref t)]) (rest := [(.int (Int32.ofNat cs.length)), (.int 0)]) (hw _ (List.mem_of_getElem? (i := 120) rfl)) (hw _ (List.mem_of_getElem? (i := 121) rfl)) (hw _ (List.mem_of_getElem? (i := 18) rfl)) (hw _ (List.mem_of_getElem? (i := 122) rfl)) (by decide) (Call.con (W := 2) (x_ul l Z a0 EL hw hEW h cs.length hn t kb _ V) (hw _ (List.mem_of_getElem? (i := 122) rfl)) (hw _ (List.mem_of_getElem? (i := 18) rfl)) (by decide) (by decide)) (by simp) (by decide) (by decide) (by rw [hml]; rfl) (lenOf y_ub_p48 rfl) rfl (Nat.le_of_eq rfl) (hb hby y_ub_d3) fun v T h1 nw S hQ => ?_
  obtain ⟨rfl, rfl, rfl⟩ := hQ
  show F T (mkF m 6 #[.val (.int 0), .val (.int (Int32.ofNat cs.length)), .val (.ref t)] [(.int (Int32.ofNat cs.length)), (.int (Int32.ofNat cs.length)), (.int 0)])
  refine Sp.static B S (y := (⟨"java/lang/String", "checkBoundsOffCount", "(III)I"⟩ : MethodName)) (argsL := [(.int 0), (.int (Int32.ofNat cs.length)), (.int (Int32.ofNat cs.length))]) (rest := []) (hw _ (List.mem_of_getElem? (i := 123) rfl)) (hw _ (List.mem_of_getElem? (i := 124) rfl)) (hw _ (List.mem_of_getElem? (i := 4) rfl)) (hw _ (List.mem_of_getElem? (i := 125) rfl)) (by decide) (Call.con (W := 0) (y_sb l Z a0 EL hw hEW h fm SF hfm cs.length hn) (hw _ (List.mem_of_getElem? (i := 125) rfl)) (hw _ (List.mem_of_getElem? (i := 4) rfl)) (by decide) (by decide)) (by simp) (by decide) (by decide) (by rw [hml]; rfl) (lenOf y_ub_p419 rfl) rfl (Nat.le_of_eq rfl) (hb hby y_ub_d6) fun v T h2 nw S hQ => ?_
  obtain ⟨rfl, rfl, rfl⟩ := hQ
  show F T (mkF m 9 #[.val (.int 0), .val (.int (Int32.ofNat cs.length)), .val (.ref t)] [(.int 0)])
  refine B (fun tgt kt => XT.pop S.here S.hx rfl (hb hby y_ub_d9) rfl rfl kt) ?_
  show F T (mkF m 10 #[.val (.int 0), .val (.int (Int32.ofNat cs.length)), .val (.ref t)] [])
  exact hF (S.ret hr hlk (hb hby y_ub_d10) (nw := []) ⟨rfl, rfl, rfl⟩ (by simp))
theorem y_ui_d0 : decode jdk_52_method_91_code 0 = .ok (.iload_n 0, 1) := by decide +kernel
theorem y_ui_d1 : decode jdk_52_method_91_code 1 = .ok (.aload_n 1, 1) := by decide +kernel
theorem y_ui_d2 : decode jdk_52_method_91_code 2 = .ok (.invokestatic 48, 3) := by decide +kernel
theorem y_ui_d5 : decode jdk_52_method_91_code 5 = .ok (.invokestatic 414, 3) := by decide +kernel
theorem y_ui_d8 : decode jdk_52_method_91_code 8 = .ok (.return_, 1) := by decide +kernel
theorem y_ui_p48 : parseMethodDescriptor "([B)I" = some ⟨[(.array .byte)], (some .int)⟩ := by decide +kernel
theorem y_ui_p414 : parseMethodDescriptor "(II)V" = some ⟨[.int, .int], none⟩ := by decide +kernel
theorem y_ui_ef (m : MethodId) (t : Addr) (i : Nat) : entryFrame m #[(.int (Int32.ofNat i)), (.ref t)] 2 = mkF m 0 #[.val (.int (Int32.ofNat i)), .val (.ref t)] [] := by first | (simp [entryFrame, mkF, argsToLocals, Value.category]; done) | rfl
theorem y_ui_pn : plainFor (⟨"java/lang/StringUTF16", "checkIndex", "(I[B)V"⟩ : MethodName) = true := by first | exact plainFor_of_name (by first | (simp [plainName, overriddenIn]; done) | decide +kernel) | decide +kernel
set_option maxRecDepth 65536 in
set_option maxHeartbeats 40000000 in
theorem y_ui (l : Launch) (Z : State) (a0 : Array Value) (EL : List (String × Nat)) (hw : ∀ d ∈ tables_1, d.before a0 Z = true) (hEW : EW Z a0 EL) (h : Heap) (fm : Value) (SF : Sta Z Z.heap "jdk/internal/util/Preconditions" "SIOOBE_FORMATTER" "Ljava/util/function/BiFunction;" fm) (hfm : fm.isRef = true) (cs : List Int32) (hn : cs.length ≤ 8) (i : Nat) (hi : i < cs.length) (t : Addr) (kb : ClassId) (V : Arv Z h t kb .byte (Int32.ofNat (2 * cs.length)) (StrChars.Road.wideBytes cs) (.int 0)) :
    Con l Z EL (⟨"java/lang/StringUTF16", "checkIndex", "(I[B)V"⟩ : MethodName) jdk_52_method_91_code 2 none ({ frames := 2, cells := 0, slots := 0, locals := 27 } : Room) #[(.int (Int32.ofNat i)), (.ref t)] h [] (fun v h' nw => v = none ∧ nw = [] ∧ h = h') := by
  refine Con.of y_ui_pn hEW ?_
  intro p e s m below meth c T F B hF hby hml hr hlk hnm S
  rw [y_ui_ef]
  show F T (mkF m 0 #[.val (.int (Int32.ofNat i)), .val (.ref t)] [])
  refine B (fun tgt kt => XS.iloadN S.here S.hx rfl (hb hby y_ui_d0) rfl kt) ?_
  show F T (mkF m 1 #[.val (.int (Int32.ofNat i)), .val (.ref t)] [(.int (Int32.ofNat i))])
  refine B (fun tgt kt => XS.aloadN S.here S.hx rfl (hb hby y_ui_d1) rfl rfl kt) ?_
  show F T (mkF m 2 #[.val (.int (Int32.ofNat i)), .val (.ref t)] [(.ref t), (.int (Int32.ofNat i))])
  refine Sp.static B S (y := (⟨"java/lang/StringUTF16", "length", "([B)I"⟩ : MethodName)) (argsL := [(.ref t)]) (rest := [(.int (Int32.ofNat i))]) (hw _ (List.mem_of_getElem? (i := 120) rfl)) (hw _ (List.mem_of_getElem? (i := 121) rfl)) (hw _ (List.mem_of_getElem? (i := 18) rfl)) (hw _ (List.mem_of_getElem? (i := 122) rfl)) (by decide) (Call.con (W := 1) (x_ul l Z a0 EL hw hEW h cs.length hn t kb _ V) (hw _ (List.mem_of_getElem? (i := 122) rfl)) (hw _ (List.mem_of_getElem? (i := 18) rfl)) (by decide) (by decide)) (by simp) (by decide) (by decide) (by rw [hml]; rfl) (lenOf y_ui_p48 rfl) rfl (Nat.le_of_eq rfl) (hb hby y_ui_d2) fun v T h1 nw S hQ => ?_
  obtain ⟨rfl, rfl, rfl⟩ := hQ
  show F T (mkF m 5 #[.val (.int (Int32.ofNat i)), .val (.ref t)] [(.int (Int32.ofNat cs.length)), (.int (Int32.ofNat i))])
  refine Sp.static B S (y := (⟨"java/lang/String", "checkIndex", "(II)V"⟩ : MethodName)) (argsL := [(.int (Int32.ofNat i)), (.int (Int32.ofNat cs.length))]) (rest := []) (hw _ (List.mem_of_getElem? (i := 135) rfl)) (hw _ (List.mem_of_getElem? (i := 73) rfl)) (hw _ (List.mem_of_getElem? (i := 4) rfl)) (hw _ (List.mem_of_getElem? (i := 74) rfl)) (by decide) (Call.con (W := 0) (y_si l Z a0 EL hw hEW h fm SF hfm i cs.length hi hn) (hw _ (List.mem_of_getElem? (i := 74) rfl)) (hw _ (List.mem_of_getElem? (i := 4) rfl)) (by decide) (by decide)) (by simp) (by decide) (by decide) (by rw [hml]; rfl) (lenOf y_ui_p414 rfl) rfl (Nat.le_of_eq rfl) (hb hby y_ui_d5) fun v T h2 nw S hQ => ?_
  obtain ⟨rfl, rfl, rfl⟩ := hQ
  show F T (mkF m 8 #[.val (.int (Int32.ofNat i)), .val (.ref t)] [])
  exact hF (S.ret hr hlk (hb hby y_ui_d8) (nw := []) ⟨rfl, rfl, rfl⟩ (by simp))
theorem y_gs_d0 : decode jdk_52_method_26_code 0 = .ok (.iload_n 1, 1) := by decide +kernel
theorem y_gs_d1 : decode jdk_52_method_26_code 1 = .ok (.iload_n 2, 1) := by decide +kernel
theorem y_gs_d2 : decode jdk_52_method_26_code 2 = .ok (.if_icmp .ge 11, 3) := by decide +kernel
theorem y_gs_d5 : decode jdk_52_method_26_code 5 = .ok (.iload_n 1, 1) := by decide +kernel
theorem y_gs_d6 : decode jdk_52_method_26_code 6 = .ok (.iload_n 2, 1) := by decide +kernel
theorem y_gs_d7 : decode jdk_52_method_26_code 7 = .ok (.iload_n 1, 1) := by decide +kernel
theorem y_gs_d8 : decode jdk_52_method_26_code 8 = .ok (.isub, 1) := by decide +kernel
theorem y_gs_d9 : decode jdk_52_method_26_code 9 = .ok (.aload_n 0, 1) := by decide +kernel
theorem y_gs_d10 : decode jdk_52_method_26_code 10 = .ok (.invokestatic 173, 3) := by decide +kernel
theorem y_gs_d13 : decode jdk_52_method_26_code 13 = .ok (.iload_n 1, 1) := by decide +kernel
theorem y_gs_d14 : decode jdk_52_method_26_code 14 = .ok (.istore 5, 2) := by decide +kernel
theorem y_gs_d16 : decode jdk_52_method_26_code 16 = .ok (.iload 5, 2) := by decide +kernel
theorem y_gs_d18 : decode jdk_52_method_26_code 18 = .ok (.iload_n 2, 1) := by decide +kernel
theorem y_gs_d19 : decode jdk_52_method_26_code 19 = .ok (.if_icmp .ge 22, 3) := by decide +kernel
theorem y_gs_d22 : decode jdk_52_method_26_code 22 = .ok (.aload_n 3, 1) := by decide +kernel
theorem y_gs_d23 : decode jdk_52_method_26_code 23 = .ok (.iload 4, 2) := by decide +kernel
theorem y_gs_d25 : decode jdk_52_method_26_code 25 = .ok (.iinc 4 1, 3) := by decide +kernel
theorem y_gs_d28 : decode jdk_52_method_26_code 28 = .ok (.aload_n 0, 1) := by decide +kernel
theorem y_gs_d29 : decode jdk_52_method_26_code 29 = .ok (.iload 5, 2) := by decide +kernel
theorem y_gs_d31 : decode jdk_52_method_26_code 31 = .ok (.invokestatic 71, 3) := by decide +kernel
theorem y_gs_d34 : decode jdk_52_method_26_code 34 = .ok (.castore, 1) := by decide +kernel
theorem y_gs_d35 : decode jdk_52_method_26_code 35 = .ok (.iinc 5 1, 3) := by decide +kernel
theorem y_gs_d38 : decode jdk_52_method_26_code 38 = .ok (.goto (-22), 3) := by decide +kernel
theorem y_gs_d41 : decode jdk_52_method_26_code 41 = .ok (.return_, 1) := by decide +kernel
theorem y_gs_p71 : parseMethodDescriptor "([BI)C" = some ⟨[(.array .byte), .int], (some .char)⟩ := by decide +kernel
theorem y_gs_p173 : parseMethodDescriptor "(II[B)V" = some ⟨[.int, .int, (.array .byte)], none⟩ := by decide +kernel
set_option maxRecDepth 65536 in
set_option maxHeartbeats 40000000 in
theorem y_gsl {p : Program} {l : Launch} {e : Env} {s : State} {m : MethodId} {args : Array Value} {below : List Frame} {meth : Method} {c : Code} {Z : State} {a0 : Array Value} {EL : List (String × Nat)} {F : State → JFrame → Prop} {sf : List Addr} {lt : List (String × Nat × Addr)} {kq nq : Nat} (hw : ∀ q ∈ tables_1, q.before a0 Z = true) (hEW : EW Z a0 EL) (AD : Sta Z Z.heap "java/lang/StringUTF16" "$assertionsDisabled" "Z" (.int 1)) (HI : Sta Z Z.heap "java/lang/StringUTF16" "HI_BYTE_SHIFT" "I" (.int 0)) (LO : Sta Z Z.heap "java/lang/StringUTF16" "LO_BYTE_SHIFT" "I" (.int 8)) (B : Bw p e below F) (hby : c.code = jdk_52_method_26_code) (hml : c.maxLocals = 6) (cs : List Int32) (hn : cs.length ≤ 8) (hbd : ∀ q ∈ cs, ¬ q < 0 ∧ ¬ (65535 : Int32) < q) (t d : Addr) (kb kd : ClassId) (htd : t ≠ d) (hd : d ∈ sf) (hkq : kq + 0 ≤ 0) (hnq : nq + 0 ≤ 0) :
    ∀ (k i : Nat) (T : State) (h : Heap), i + k = cs.length → Sp p l e ({ frames := 3, cells := 0, slots := 0, locals := 43 } : Room) s m args below meth c Z a0 EL "java/lang/StringUTF16" T h sf lt kq nq → Arv Z h t kb .byte (Int32.ofNat (2 * cs.length)) (StrChars.Road.wideBytes cs) (.int 0) → Arv Z h d kd .char (Int32.ofNat cs.length) ((cs.take i).map Value.int) (.int 0) →
      (∀ (T' : State) (h' : Heap), Sp p l e ({ frames := 3, cells := 0, slots := 0, locals := 43 } : Room) s m args below meth c Z a0 EL "java/lang/StringUTF16" T' h' sf lt kq nq → Keep h h' [d] → Arv Z h' d kd .char (Int32.ofNat cs.length) ((cs.take cs.length).map Value.int) (.int 0) → F T' (mkF m 41 #[.val (.ref t), .val (.int 0), .val (.int (Int32.ofNat cs.length)), .val (.ref d), .val (.int (Int32.ofNat cs.length)), .val (.int (Int32.ofNat cs.length))] [])) → F T (mkF m 16 #[.val (.ref t), .val (.int 0), .val (.int (Int32.ofNat cs.length)), .val (.ref d), .val (.int (Int32.ofNat i)), .val (.int (Int32.ofNat i))] []) := by
  intro k
  induction k with
  | zero =>
    intro i T h hik S V Vd K
    have hi : i = cs.length := by omega
    subst hi
    show F T (mkF m 16 #[.val (.ref t), .val (.int 0), .val (.int (Int32.ofNat cs.length)), .val (.ref d), .val (.int (Int32.ofNat cs.length)), .val (.int (Int32.ofNat cs.length))] [])
    refine B (fun tgt kt => XS.iload S.here S.hx rfl (hb hby y_gs_d16) rfl kt) ?_
    show F T (mkF m 18 #[.val (.ref t), .val (.int 0), .val (.int (Int32.ofNat cs.length)), .val (.ref d), .val (.int (Int32.ofNat cs.length)), .val (.int (Int32.ofNat cs.length))] [(.int (Int32.ofNat cs.length))])
    refine B (fun tgt kt => XS.iloadN S.here S.hx rfl (hb hby y_gs_d18) rfl kt) ?_
    show F T (mkF m 19 #[.val (.ref t), .val (.int 0), .val (.int (Int32.ofNat cs.length)), .val (.ref d), .val (.int (Int32.ofNat cs.length)), .val (.int (Int32.ofNat cs.length))] [(.int (Int32.ofNat cs.length)), (.int (Int32.ofNat cs.length))])
    refine B (fun tgt kt => XS.icmpYes S.here S.hx rfl (pc0 := 19) (pc' := 41) rfl (hb hby y_gs_d19) rfl (ii_ge_t (own_irr _)) (by decide) (by decide) kt) ?_
    show F T (mkF m 41 #[.val (.ref t), .val (.int 0), .val (.int (Int32.ofNat cs.length)), .val (.ref d), .val (.int (Int32.ofNat cs.length)), .val (.int (Int32.ofNat cs.length))] [])
    exact K _ _ S (Keep.refl _ _) Vd
  | succ k ih =>
    intro i T h hik S V Vd K
    have hi : i < cs.length := by omega
    show F T (mkF m 16 #[.val (.ref t), .val (.int 0), .val (.int (Int32.ofNat cs.length)), .val (.ref d), .val (.int (Int32.ofNat i)), .val (.int (Int32.ofNat i))] [])
    refine B (fun tgt kt => XS.iload S.here S.hx rfl (hb hby y_gs_d16) rfl kt) ?_
    show F T (mkF m 18 #[.val (.ref t), .val (.int 0), .val (.int (Int32.ofNat cs.length)), .val (.ref d), .val (.int (Int32.ofNat i)), .val (.int (Int32.ofNat i))] [(.int (Int32.ofNat i))])
    refine B (fun tgt kt => XS.iloadN S.here S.hx rfl (hb hby y_gs_d18) rfl kt) ?_
    show F T (mkF m 19 #[.val (.ref t), .val (.int 0), .val (.int (Int32.ofNat cs.length)), .val (.ref d), .val (.int (Int32.ofNat i)), .val (.int (Int32.ofNat i))] [(.int (Int32.ofNat cs.length)), (.int (Int32.ofNat i))])
    refine B (fun tgt kt => XS.icmpNo S.here S.hx rfl (hb hby y_gs_d19) rfl (ii_ge_f (own_sm hi (by omega))) kt) ?_
    show F T (mkF m 22 #[.val (.ref t), .val (.int 0), .val (.int (Int32.ofNat cs.length)), .val (.ref d), .val (.int (Int32.ofNat i)), .val (.int (Int32.ofNat i))] [])
    refine B (fun tgt kt => XS.aloadN S.here S.hx rfl (hb hby y_gs_d22) rfl rfl kt) ?_
    show F T (mkF m 23 #[.val (.ref t), .val (.int 0), .val (.int (Int32.ofNat cs.length)), .val (.ref d), .val (.int (Int32.ofNat i)), .val (.int (Int32.ofNat i))] [(.ref d)])
    refine B (fun tgt kt => XS.iload S.here S.hx rfl (hb hby y_gs_d23) rfl kt) ?_
    show F T (mkF m 25 #[.val (.ref t), .val (.int 0), .val (.int (Int32.ofNat cs.length)), .val (.ref d), .val (.int (Int32.ofNat i)), .val (.int (Int32.ofNat i))] [(.int (Int32.ofNat i)), (.ref d)])
    refine B (fun tgt kt => XS.iinc S.here S.hx rfl (hb hby y_gs_d25) rfl (l' := #[.val (.ref t), .val (.int 0), .val (.int (Int32.ofNat cs.length)), .val (.ref d), .val (.int ((Int32.ofNat i) + (1 : Int32))), .val (.int (Int32.ofNat i))]) rfl kt) ?_
    show F T (mkF m 28 #[.val (.ref t), .val (.int 0), .val (.int (Int32.ofNat cs.length)), .val (.ref d), .val (.int ((Int32.ofNat i) + (1 : Int32))), .val (.int (Int32.ofNat i))] [(.int (Int32.ofNat i)), (.ref d)])
    refine B (fun tgt kt => XS.aloadN S.here S.hx rfl (hb hby y_gs_d28) rfl rfl kt) ?_
    show F T (mkF m 29 #[.val (.ref t), .val (.int 0), .val (.int (Int32.ofNat cs.length)), .val (.ref d), .val (.int ((Int32.ofNat i) + (1 : Int32))), .val (.int (Int32.ofNat i))] [(.ref t), (.int (Int32.ofNat i)), (.ref d)])
    refine B (fun tgt kt => XS.iload S.here S.hx rfl (hb hby y_gs_d29) rfl kt) ?_
    show F T (mkF m 31 #[.val (.ref t), .val (.int 0), .val (.int (Int32.ofNat cs.length)), .val (.ref d), .val (.int ((Int32.ofNat i) + (1 : Int32))), .val (.int (Int32.ofNat i))] [(.int (Int32.ofNat i)), (.ref t), (.int (Int32.ofNat i)), (.ref d)])
    refine Sp.static B S (y := (⟨"java/lang/StringUTF16", "getChar", "([BI)C"⟩ : MethodName)) (argsL := [(.ref t), (.int (Int32.ofNat i))]) (rest := [(.int (Int32.ofNat i)), (.ref d)]) (hw _ (List.mem_of_getElem? (i := 108) rfl)) (hw _ (List.mem_of_getElem? (i := 109) rfl)) (hw _ (List.mem_of_getElem? (i := 18) rfl)) (hw _ (List.mem_of_getElem? (i := 110) rfl)) (by decide) (Call.con (W := 2) (u_gc l Z a0 EL hw hEW h AD HI LO cs hn i hi (hbd _ (own_mem hi)) t kb V) (hw _ (List.mem_of_getElem? (i := 110) rfl)) (hw _ (List.mem_of_getElem? (i := 18) rfl)) (by decide) (by decide)) (by simp) hkq hnq (by rw [hml]; rfl) (lenOf y_gs_p71 rfl) rfl (Nat.le_of_eq rfl) (hb hby y_gs_d31) fun v T h1 nw S hQ => ?_
    obtain ⟨rfl, rfl, rfl⟩ := hQ
    show F T (mkF m 34 #[.val (.ref t), .val (.int 0), .val (.int (Int32.ofNat cs.length)), .val (.ref d), .val (.int ((Int32.ofNat i) + (1 : Int32))), .val (.int (Int32.ofNat i))] [(.int (cs.getD i 0)), (.int (Int32.ofNat i)), (.ref d)])
    replace Vd := Vd.pad (pad_rep _ (.int 0) 1)
    refine Sp.stC B S Vd (i := i) (own_in hi (by omega)) (own_cl _ (by omega)) (by simp only [List.length_append, List.length_map, List.length_take, List.length_replicate]; omega) (own_narc (hbd _ (own_mem hi))) (by simpa using hd) (hb hby y_gs_d34) fun T h2 S W Vd => ?_
    rw [own_take1 hi] at Vd
    show F T (mkF m 35 #[.val (.ref t), .val (.int 0), .val (.int (Int32.ofNat cs.length)), .val (.ref d), .val (.int ((Int32.ofNat i) + (1 : Int32))), .val (.int (Int32.ofNat i))] [])
    refine B (fun tgt kt => XS.iinc S.here S.hx rfl (hb hby y_gs_d35) rfl (l' := #[.val (.ref t), .val (.int 0), .val (.int (Int32.ofNat cs.length)), .val (.ref d), .val (.int ((Int32.ofNat i) + (1 : Int32))), .val (.int ((Int32.ofNat i) + (1 : Int32)))]) rfl kt) ?_
    show F T (mkF m 38 #[.val (.ref t), .val (.int 0), .val (.int (Int32.ofNat cs.length)), .val (.ref d), .val (.int ((Int32.ofNat i) + (1 : Int32))), .val (.int ((Int32.ofNat i) + (1 : Int32)))] [])
    refine B (fun tgt kt => XS.goto S.here S.hx rfl (pc0 := 38) (pc' := 16) rfl (hb hby y_gs_d38) (by decide) (by decide) kt) ?_
    show F T (mkF m 16 #[.val (.ref t), .val (.int 0), .val (.int (Int32.ofNat cs.length)), .val (.ref d), .val (.int ((Int32.ofNat i) + (1 : Int32))), .val (.int ((Int32.ofNat i) + (1 : Int32)))] [])
    rw [own_inc i]
    show F T (mkF m 16 #[.val (.ref t), .val (.int 0), .val (.int (Int32.ofNat cs.length)), .val (.ref d), .val (.int (Int32.ofNat (i + 1))), .val (.int (Int32.ofNat (i + 1)))] [])
    exact ih (i + 1) _ _ (by omega) S (V.other W htd) Vd fun T' h' S' K2 V2 => K T' h' S' ((Keep.of_wr W).trans K2 (fun x hx => Or.inl hx)) V2
theorem y_gs_ef (m : MethodId) (t d : Addr) (cs : List Int32) : entryFrame m #[(.ref t), (.int 0), (.int (Int32.ofNat cs.length)), (.ref d), (.int 0)] 6 = mkF m 0 #[.val (.ref t), .val (.int 0), .val (.int (Int32.ofNat cs.length)), .val (.ref d), .val (.int 0), .unset] [] := by first | (simp [entryFrame, mkF, argsToLocals, Value.category]; done) | rfl
theorem y_gs_pn : plainFor (⟨"java/lang/StringUTF16", "getChars", "([BII[CI)V"⟩ : MethodName) = true := by first | exact plainFor_of_name (by first | (simp [plainName, overriddenIn]; done) | decide +kernel) | decide +kernel
set_option maxRecDepth 65536 in
set_option maxHeartbeats 40000000 in
theorem y_gs (l : Launch) (Z : State) (a0 : Array Value) (EL : List (String × Nat)) (hw : ∀ d ∈ tables_1, d.before a0 Z = true) (hEW : EW Z a0 EL) (h : Heap) (fm : Value) (SF : Sta Z Z.heap "jdk/internal/util/Preconditions" "SIOOBE_FORMATTER" "Ljava/util/function/BiFunction;" fm) (hfm : fm.isRef = true) (AD : Sta Z Z.heap "java/lang/StringUTF16" "$assertionsDisabled" "Z" (.int 1)) (HI : Sta Z Z.heap "java/lang/StringUTF16" "HI_BYTE_SHIFT" "I" (.int 0)) (LO : Sta Z Z.heap "java/lang/StringUTF16" "LO_BYTE_SHIFT" "I" (.int 8)) (cs : List Int32) (hn : cs.length ≤ 8) (h0 : 0 < cs.length) (hbd : ∀ q ∈ cs, ¬ q < 0 ∧ ¬ (65535 : Int32) < q) (t d : Addr) (kb kd : ClassId) (htd : t ≠ d) (V : Arv Z h t kb .byte (Int32.ofNat (2 * cs.length)) (StrChars.Road.wideBytes cs) (.int 0)) (Vd : Arv Z h d kd .char (Int32.ofNat cs.length) [] (.int 0)) :
    Con l Z EL (⟨"java/lang/StringUTF16", "getChars", "([BII[CI)V"⟩ : MethodName) jdk_52_method_26_code 6 none ({ frames := 3, cells := 0, slots := 0, locals := 43 } : Room) #[(.ref t), (.int 0), (.int (Int32.ofNat cs.length)), (.ref d), (.int 0)] h [d] (fun v h' nw => v = none ∧ nw = [] ∧ Keep h h' [d] ∧ Arv Z h' d kd .char (Int32.ofNat cs.length) (cs.map Value.int) (.int 0)) := by
  refine Con.of y_gs_pn hEW ?_
  intro p e s m below meth c T F B hF hby hml hr hlk hnm S
  rw [y_gs_ef]
  show F T (mkF m 0 #[.val (.ref t), .val (.int 0), .val (.int (Int32.ofNat cs.length)), .val (.ref d), .val (.int 0), .unset] [])
  refine B (fun tgt kt => XS.iloadN S.here S.hx rfl (hb hby y_gs_d0) rfl kt) ?_
  show F T (mkF m 1 #[.val (.ref t), .val (.int 0), .val (.int (Int32.ofNat cs.length)), .val (.ref d), .val (.int 0), .unset] [(.int 0)])
  refine B (fun tgt kt => XS.iloadN S.here S.hx rfl (hb hby y_gs_d1) rfl kt) ?_
  show F T (mkF m 2 #[.val (.ref t), .val (.int 0), .val (.int (Int32.ofNat cs.length)), .val (.ref d), .val (.int 0), .unset] [(.int (Int32.ofNat cs.length)), (.int 0)])
  refine B (fun tgt kt => XS.icmpNo S.here S.hx rfl (hb hby y_gs_d2) rfl (ii_ge_f (own_sm (i := 0) h0 (by omega))) kt) ?_
  show F T (mkF m 5 #[.val (.ref t), .val (.int 0), .val (.int (Int32.ofNat cs.length)), .val (.ref d), .val (.int 0), .unset] [])
  refine B (fun tgt kt => XS.iloadN S.here S.hx rfl (hb hby y_gs_d5) rfl kt) ?_
  show F T (mkF m 6 #[.val (.ref t), .val (.int 0), .val (.int (Int32.ofNat cs.length)), .val (.ref d), .val (.int 0), .unset] [(.int 0)])
  refine B (fun tgt kt => XS.iloadN S.here S.hx rfl (hb hby y_gs_d6) rfl kt) ?_
  show F T (mkF m 7 #[.val (.ref t), .val (.int 0), .val (.int (Int32.ofNat cs.length)), .val (.ref d), .val (.int 0), .unset] [(.int (Int32.ofNat cs.length)), (.int 0)])
  refine B (fun tgt kt => XS.iloadN S.here S.hx rfl (hb hby y_gs_d7) rfl kt) ?_
  show F T (mkF m 8 #[.val (.ref t), .val (.int 0), .val (.int (Int32.ofNat cs.length)), .val (.ref d), .val (.int 0), .unset] [(.int 0), (.int (Int32.ofNat cs.length)), (.int 0)])
  refine B (fun tgt kt => XS.isub S.here S.hx rfl (hb hby y_gs_d8) rfl kt) ?_
  show F T (mkF m 9 #[.val (.ref t), .val (.int 0), .val (.int (Int32.ofNat cs.length)), .val (.ref d), .val (.int 0), .unset] [(.int ((Int32.ofNat cs.length) - (0 : Int32))), (.int 0)])
  rw [own_sub0]
  show F T (mkF m 9 #[.val (.ref t), .val (.int 0), .val (.int (Int32.ofNat cs.length)), .val (.ref d), .val (.int 0), .unset] [(.int (Int32.ofNat cs.length)), (.int 0)])
  refine B (fun tgt kt => XS.aloadN S.here S.hx rfl (hb hby y_gs_d9) rfl rfl kt) ?_
  show F T (mkF m 10 #[.val (.ref t), .val (.int 0), .val (.int (Int32.ofNat cs.length)), .val (.ref d), .val (.int 0), .unset] [(.ref t), (.int (Int32.ofNat cs.length)), (.int 0)])
  refine Sp.static B S (y := (⟨"java/lang/StringUTF16", "checkBoundsOffCount", "(II[B)V"⟩ : MethodName)) (argsL := [(.int 0), (.int (Int32.ofNat cs.length)), (.ref t)]) (rest := []) (hw _ (List.mem_of_getElem? (i := 117) rfl)) (hw _ (List.mem_of_getElem? (i := 118) rfl)) (hw _ (List.mem_of_getElem? (i := 18) rfl)) (hw _ (List.mem_of_getElem? (i := 119) rfl)) (by decide) (Call.con (W := 0) (y_ub l Z a0 EL hw hEW h fm SF hfm cs hn t kb V) (hw _ (List.mem_of_getElem? (i := 119) rfl)) (hw _ (List.mem_of_getElem? (i := 18) rfl)) (by decide) (by decide)) (by simp) (by decide) (by decide) (by rw [hml]; rfl) (lenOf y_gs_p173 rfl) rfl (Nat.le_of_eq rfl) (hb hby y_gs_d10) fun v T h1 nw S hQ => ?_
  obtain ⟨rfl, rfl, rfl⟩ := hQ
  show F T (mkF m 13 #[.val (.ref t), .val (.int 0), .val (.int (Int32.ofNat cs.length)), .val (.ref d), .val (.int 0), .unset] [])
  refine B (fun tgt kt => XS.iloadN S.here S.hx rfl (hb hby y_gs_d13) rfl kt) ?_
  show F T (mkF m 14 #[.val (.ref t), .val (.int 0), .val (.int (Int32.ofNat cs.length)), .val (.ref d), .val (.int 0), .unset] [(.int 0)])
  refine B (fun tgt kt => XS.istore S.here S.hx rfl (hb hby y_gs_d14) rfl (l' := #[.val (.ref t), .val (.int 0), .val (.int (Int32.ofNat cs.length)), .val (.ref d), .val (.int 0), .val (.int 0)]) rfl kt) ?_
  show F T (mkF m 16 #[.val (.ref t), .val (.int 0), .val (.int (Int32.ofNat cs.length)), .val (.ref d), .val (.int 0), .val (.int 0)] [])
  show F T (mkF m 16 #[.val (.ref t), .val (.int 0), .val (.int (Int32.ofNat cs.length)), .val (.ref d), .val (.int (Int32.ofNat 0)), .val (.int (Int32.ofNat 0))] [])
  refine y_gsl hw hEW AD HI LO B hby hml cs hn hbd t d kb kd htd (by simp) (by decide) (by decide) cs.length 0 T _ (by omega) S V (by simpa using Vd) fun T h2 S K V2 => ?_
  rw [List.take_length] at V2
  exact hF (S.ret hr hlk (hb hby y_gs_d41) (nw := []) ⟨rfl, rfl, K, V2⟩ (by simp))
theorem y_ut_d0 : decode jdk_52_method_13_code 0 = .ok (.aload_n 0, 1) := by decide +kernel
theorem y_ut_d1 : decode jdk_52_method_13_code 1 = .ok (.arraylength, 1) := by decide +kernel
theorem y_ut_d2 : decode jdk_52_method_13_code 2 = .ok (.iconst 1, 1) := by decide +kernel
theorem y_ut_d3 : decode jdk_52_method_13_code 3 = .ok (.ishr, 1) := by decide +kernel
theorem y_ut_d4 : decode jdk_52_method_13_code 4 = .ok (.newarray .char, 2) := by decide +kernel
theorem y_ut_d6 : decode jdk_52_method_13_code 6 = .ok (.astore_n 1, 1) := by decide +kernel
theorem y_ut_d7 : decode jdk_52_method_13_code 7 = .ok (.aload_n 0, 1) := by decide +kernel
theorem y_ut_d8 : decode jdk_52_method_13_code 8 = .ok (.iconst 0, 1) := by decide +kernel
theorem y_ut_d9 : decode jdk_52_method_13_code 9 = .ok (.aload_n 1, 1) := by decide +kernel
theorem y_ut_d10 : decode jdk_52_method_13_code 10 = .ok (.arraylength, 1) := by decide +kernel
theorem y_ut_d11 : decode jdk_52_method_13_code 11 = .ok (.aload_n 1, 1) := by decide +kernel
theorem y_ut_d12 : decode jdk_52_method_13_code 12 = .ok (.iconst 0, 1) := by decide +kernel
theorem y_ut_d13 : decode jdk_52_method_13_code 13 = .ok (.invokestatic 103, 3) := by decide +kernel
theorem y_ut_d16 : decode jdk_52_method_13_code 16 = .ok (.aload_n 1, 1) := by decide +kernel
theorem y_ut_d17 : decode jdk_52_method_13_code 17 = .ok (.areturn, 1) := by decide +kernel
theorem y_ut_p103 : parseMethodDescriptor "([BII[CI)V" = some ⟨[(.array .byte), .int, .int, (.array .char), .int], none⟩ := by decide +kernel
theorem y_ut_ef (m : MethodId) (t : Addr) : entryFrame m #[(.ref t)] 2 = mkF m 0 #[.val (.ref t), .unset] [] := by first | (simp [entryFrame, mkF, argsToLocals, Value.category]; done) | rfl
theorem y_ut_pn : plainFor (⟨"java/lang/StringUTF16", "toChars", "([B)[C"⟩ : MethodName) = true := by first | exact plainFor_of_name (by first | (simp [plainName, overriddenIn]; done) | decide +kernel) | decide +kernel
set_option maxRecDepth 65536 in
set_option maxHeartbeats 40000000 in
theorem y_ut (l : Launch) (Z : State) (a0 : Array Value) (EL : List (String × Nat)) (hw : ∀ d ∈ tables_1, d.before a0 Z = true) (hEW : EW Z a0 EL) (h : Heap) (fm : Value) (SF : Sta Z Z.heap "jdk/internal/util/Preconditions" "SIOOBE_FORMATTER" "Ljava/util/function/BiFunction;" fm) (hfm : fm.isRef = true) (AD : Sta Z Z.heap "java/lang/StringUTF16" "$assertionsDisabled" "Z" (.int 1)) (HI : Sta Z Z.heap "java/lang/StringUTF16" "HI_BYTE_SHIFT" "I" (.int 0)) (LO : Sta Z Z.heap "java/lang/StringUTF16" "LO_BYTE_SHIFT" "I" (.int 8)) (cs : List Int32) (hn : cs.length ≤ 8) (h0 : 0 < cs.length) (hbd : ∀ q ∈ cs, ¬ q < 0 ∧ ¬ (65535 : Int32) < q) (t : Addr) (kb : ClassId) (V : Arv Z h t kb .byte (Int32.ofNat (2 * cs.length)) (StrChars.Road.wideBytes cs) (.int 0)) :
    Con l Z EL (⟨"java/lang/StringUTF16", "toChars", "([B)[C"⟩ : MethodName) jdk_52_method_13_code 2 (some (.array .char)) ({ frames := 4, cells := 1, slots := 8, locals := 60 } : Room) #[(.ref t)] h [] (fun v h' nw => ∃ d kd, v = some (.ref d) ∧ nw = [d] ∧ h.size ≤ d ∧ Keep h h' [] ∧ Arv Z h' d kd .char (Int32.ofNat cs.length) (cs.map Value.int) (.int 0)) := by
  refine Con.of y_ut_pn hEW ?_
  intro p e s m below meth c T F B hF hby hml hr hlk hnm S
  rw [y_ut_ef]
  show F T (mkF m 0 #[.val (.ref t), .unset] [])
  have lt0 := natlt V.lt
  have KK := Keep.refl h []
  refine B (fun tgt kt => XS.aloadN S.here S.hx rfl (hb hby y_ut_d0) rfl rfl kt) ?_
  show F T (mkF m 1 #[.val (.ref t), .unset] [(.ref t)])
  refine Sp.alen B S V (hb hby y_ut_d1) ?_
  show F T (mkF m 2 #[.val (.ref t), .unset] [(.int (Int32.ofNat (2 * cs.length)))])
  refine B (fun tgt kt => XS.iconst S.here S.hx rfl (hb hby y_ut_d2) kt) ?_
  show F T (mkF m 3 #[.val (.ref t), .unset] [(.int (1 : Int32)), (.int (Int32.ofNat (2 * cs.length)))])
  refine B (fun tgt kt => XT.ishr S.here S.hx rfl (hb hby y_ut_d3) rfl kt) ?_
  show F T (mkF m 4 #[.val (.ref t), .unset] [(.int ((Int32.ofNat (2 * cs.length)) >>> ((1 : Int32) &&& 31)))])
  rw [own_shr1 cs.length hn]
  show F T (mkF m 4 #[.val (.ref t), .unset] [(.int (Int32.ofNat cs.length))])
  refine Sp.newP B S (cap := 8) (hw _ (List.mem_of_getElem? (i := 1) rfl)) (hb hby y_ut_d4) (own_nn _ (by omega)) (by rw [own_cl _ (by omega)]; omega) (by decide) (by decide) (by decide) (ad := "[C") (by decide) fun T h1 d kd S E gd Xd Vd => ?_
  show F T (mkF m 6 #[.val (.ref t), .unset] [(.ref d)])
  replace V := V.ext E
  replace KK := KK.ext E
  have ld := natlt Vd.lt
  refine B (fun tgt kt => XS.astoreN S.here S.hx rfl (hb hby y_ut_d6) rfl rfl (l' := #[.val (.ref t), .val (.ref d)]) rfl kt) ?_
  show F T (mkF m 7 #[.val (.ref t), .val (.ref d)] [])
  refine B (fun tgt kt => XS.aloadN S.here S.hx rfl (hb hby y_ut_d7) rfl rfl kt) ?_
  show F T (mkF m 8 #[.val (.ref t), .val (.ref d)] [(.ref t)])
  refine B (fun tgt kt => XS.iconst S.here S.hx rfl (hb hby y_ut_d8) kt) ?_
  show F T (mkF m 9 #[.val (.ref t), .val (.ref d)] [(.int (0 : Int32)), (.ref t)])
  refine B (fun tgt kt => XS.aloadN S.here S.hx rfl (hb hby y_ut_d9) rfl rfl kt) ?_
  show F T (mkF m 10 #[.val (.ref t), .val (.ref d)] [(.ref d), (.int (0 : Int32)), (.ref t)])
  refine Sp.alen B S Vd (hb hby y_ut_d10) ?_
  show F T (mkF m 11 #[.val (.ref t), .val (.ref d)] [(.int (Int32.ofNat cs.length)), (.int (0 : Int32)), (.ref t)])
  refine B (fun tgt kt => XS.aloadN S.here S.hx rfl (hb hby y_ut_d11) rfl rfl kt) ?_
  show F T (mkF m 12 #[.val (.ref t), .val (.ref d)] [(.ref d), (.int (Int32.ofNat cs.length)), (.int (0 : Int32)), (.ref t)])
  refine B (fun tgt kt => XS.iconst S.here S.hx rfl (hb hby y_ut_d12) kt) ?_
  show F T (mkF m 13 #[.val (.ref t), .val (.ref d)] [(.int (0 : Int32)), (.ref d), (.int (Int32.ofNat cs.length)), (.int (0 : Int32)), (.ref t)])
  refine Sp.static B S (y := (⟨"java/lang/StringUTF16", "getChars", "([BII[CI)V"⟩ : MethodName)) (argsL := [(.ref t), (.int (0 : Int32)), (.int (Int32.ofNat cs.length)), (.ref d), (.int (0 : Int32))]) (rest := []) (hw _ (List.mem_of_getElem? (i := 114) rfl)) (hw _ (List.mem_of_getElem? (i := 115) rfl)) (hw _ (List.mem_of_getElem? (i := 18) rfl)) (hw _ (List.mem_of_getElem? (i := 116) rfl)) (by decide) (Call.con (W := 0) (y_gs l Z a0 EL hw hEW h1 fm SF hfm AD HI LO cs hn h0 hbd t d kb kd (natne (by omega)) V Vd) (hw _ (List.mem_of_getElem? (i := 116) rfl)) (hw _ (List.mem_of_getElem? (i := 18) rfl)) (by decide) (by decide)) (by simp) (by decide) (by decide) (by rw [hml]; rfl) (lenOf y_ut_p103 rfl) rfl (Nat.le_of_eq rfl) (hb hby y_ut_d13) fun v T h2 nw S hQ => ?_
  obtain ⟨rfl, rfl, K, Vd⟩ := hQ
  replace KK := KK.trans K (qk1 (by first | (refine Or.inl ?_; simp; done) | (refine Or.inr ?_; omega)))
  show F T (mkF m 16 #[.val (.ref t), .val (.ref d)] [])
  refine B (fun tgt kt => XS.aloadN S.here S.hx rfl (hb hby y_ut_d16) rfl rfl kt) ?_
  show F T (mkF m 17 #[.val (.ref t), .val (.ref d)] [(.ref d)])
  exact hF (S.retA hr hlk rfl rfl (hb hby y_ut_d17) (nw := [d]) ⟨d, kd, rfl, rfl, gd, KK, Vd⟩ (by simp))
theorem x_is0_d0 : decode jdk_42_method_154_code 0 = .ok (.getstatic 38, 3) := by decide +kernel
theorem x_is0_d3 : decode jdk_42_method_154_code 3 = .ok (.ifCond .eq 14, 3) := by decide +kernel
theorem x_is0_d6 : decode jdk_42_method_154_code 6 = .ok (.aload_n 0, 1) := by decide +kernel
theorem x_is0_d7 : decode jdk_42_method_154_code 7 = .ok (.getfield 15, 3) := by decide +kernel
theorem x_is0_d10 : decode jdk_42_method_154_code 10 = .ok (.ifCond .ne 7, 3) := by decide +kernel
theorem x_is0_d13 : decode jdk_42_method_154_code 13 = .ok (.iconst 1, 1) := by decide +kernel
theorem x_is0_d14 : decode jdk_42_method_154_code 14 = .ok (.goto 4, 3) := by decide +kernel
theorem x_is0_d18 : decode jdk_42_method_154_code 18 = .ok (.ireturn, 1) := by decide +kernel
theorem x_is0_ef (m : MethodId) (x : Addr) : entryFrame m #[(.ref x)] 1 = mkF m 0 #[.val (.ref x)] [] := by first | (simp [entryFrame, mkF, argsToLocals, Value.category]; done) | rfl
theorem x_is0_pn : plainFor (⟨"java/lang/String", "isLatin1", "()Z"⟩ : MethodName) = true := by first | exact plainFor_of_name (by first | (simp [plainName, overriddenIn]; done) | decide +kernel) | decide +kernel
set_option maxRecDepth 65536 in
set_option maxHeartbeats 40000000 in
theorem x_is0 (l : Launch) (Z : State) (a0 : Array Value) (EL : List (String × Nat)) (hw : ∀ d ∈ tables_1, d.before a0 Z = true) (hEW : EW Z a0 EL) (h : Heap) (zc : Int32) (CS : Sta Z Z.heap "java/lang/String" "COMPACT_STRINGS" "Z" (.int zc)) (hzc : ¬ zc = 0) (x : Addr) (v0 : Value) (O : Ob Z a0 h x "java/lang/String" [("java/lang/String", "value", "[B", v0), ("java/lang/String", "coder", "B", (.int 0))]) :
    Con l Z EL (⟨"java/lang/String", "isLatin1", "()Z"⟩ : MethodName) jdk_42_method_154_code 1 (some .boolean) ({ frames := 0, cells := 0, slots := 0, locals := 0 } : Room) #[(.ref x)] h [] (fun v h' nw => v = some (.int 1) ∧ nw = [] ∧ h = h') := by
  refine Con.of x_is0_pn hEW ?_
  intro p e s m below meth c T F B hF hby hml hr hlk hnm S
  rw [x_is0_ef]
  show F T (mkF m 0 #[.val (.ref x)] [])
  refine Sp.getS B S (hw _ (List.mem_of_getElem? (i := 15) rfl)) Via.refl CS (hb hby x_is0_d0) fun T S => ?_
  show F T (mkF m 3 #[.val (.ref x)] [(.int zc)])
  refine B (fun tgt kt => XS.ifNo S.here S.hx rfl (hb hby x_is0_d3) rfl (i0_eq_f hzc) kt) ?_
  show F T (mkF m 6 #[.val (.ref x)] [])
  refine B (fun tgt kt => XS.aloadN S.here S.hx rfl (hb hby x_is0_d6) rfl rfl kt) ?_
  show F T (mkF m 7 #[.val (.ref x)] [(.ref x)])
  refine Sp.getO B S (hw _ (List.mem_of_getElem? (i := 27) rfl)) O (i := 1) rfl (hb hby x_is0_d7) fun T S => ?_
  show F T (mkF m 10 #[.val (.ref x)] [(.int 0)])
  refine B (fun tgt kt => XS.ifNo S.here S.hx rfl (hb hby x_is0_d10) rfl (i0_ne_f rfl) kt) ?_
  show F T (mkF m 13 #[.val (.ref x)] [])
  refine B (fun tgt kt => XS.iconst S.here S.hx rfl (hb hby x_is0_d13) kt) ?_
  show F T (mkF m 14 #[.val (.ref x)] [(.int (1 : Int32))])
  refine B (fun tgt kt => XS.goto S.here S.hx rfl (pc0 := 14) (pc' := 18) rfl (hb hby x_is0_d14) (by decide) (by decide) kt) ?_
  show F T (mkF m 18 #[.val (.ref x)] [(.int (1 : Int32))])
  exact hF (S.retI hr hlk (by simp) (by decide) (hb hby x_is0_d18) (nw := []) ⟨rfl, rfl, rfl⟩ (by simp))
theorem x_is1_d0 : decode jdk_42_method_154_code 0 = .ok (.getstatic 38, 3) := by decide +kernel
theorem x_is1_d3 : decode jdk_42_method_154_code 3 = .ok (.ifCond .eq 14, 3) := by decide +kernel
theorem x_is1_d6 : decode jdk_42_method_154_code 6 = .ok (.aload_n 0, 1) := by decide +kernel
theorem x_is1_d7 : decode jdk_42_method_154_code 7 = .ok (.getfield 15, 3) := by decide +kernel
theorem x_is1_d10 : decode jdk_42_method_154_code 10 = .ok (.ifCond .ne 7, 3) := by decide +kernel
theorem x_is1_d17 : decode jdk_42_method_154_code 17 = .ok (.iconst 0, 1) := by decide +kernel
theorem x_is1_d18 : decode jdk_42_method_154_code 18 = .ok (.ireturn, 1) := by decide +kernel
theorem x_is1_ef (m : MethodId) (x : Addr) : entryFrame m #[(.ref x)] 1 = mkF m 0 #[.val (.ref x)] [] := by first | (simp [entryFrame, mkF, argsToLocals, Value.category]; done) | rfl
theorem x_is1_pn : plainFor (⟨"java/lang/String", "isLatin1", "()Z"⟩ : MethodName) = true := by first | exact plainFor_of_name (by first | (simp [plainName, overriddenIn]; done) | decide +kernel) | decide +kernel
set_option maxRecDepth 65536 in
set_option maxHeartbeats 40000000 in
theorem x_is1 (l : Launch) (Z : State) (a0 : Array Value) (EL : List (String × Nat)) (hw : ∀ d ∈ tables_1, d.before a0 Z = true) (hEW : EW Z a0 EL) (h : Heap) (zc : Int32) (CS : Sta Z Z.heap "java/lang/String" "COMPACT_STRINGS" "Z" (.int zc)) (hzc : ¬ zc = 0) (x : Addr) (v0 : Value) (O : Ob Z a0 h x "java/lang/String" [("java/lang/String", "value", "[B", v0), ("java/lang/String", "coder", "B", (.int 1))]) :
    Con l Z EL (⟨"java/lang/String", "isLatin1", "()Z"⟩ : MethodName) jdk_42_method_154_code 1 (some .boolean) ({ frames := 0, cells := 0, slots := 0, locals := 0 } : Room) #[(.ref x)] h [] (fun v h' nw => v = some (.int 0) ∧ nw = [] ∧ h = h') := by
  refine Con.of x_is1_pn hEW ?_
  intro p e s m below meth c T F B hF hby hml hr hlk hnm S
  rw [x_is1_ef]
  show F T (mkF m 0 #[.val (.ref x)] [])
  refine Sp.getS B S (hw _ (List.mem_of_getElem? (i := 15) rfl)) Via.refl CS (hb hby x_is1_d0) fun T S => ?_
  show F T (mkF m 3 #[.val (.ref x)] [(.int zc)])
  refine B (fun tgt kt => XS.ifNo S.here S.hx rfl (hb hby x_is1_d3) rfl (i0_eq_f hzc) kt) ?_
  show F T (mkF m 6 #[.val (.ref x)] [])
  refine B (fun tgt kt => XS.aloadN S.here S.hx rfl (hb hby x_is1_d6) rfl rfl kt) ?_
  show F T (mkF m 7 #[.val (.ref x)] [(.ref x)])
  refine Sp.getO B S (hw _ (List.mem_of_getElem? (i := 27) rfl)) O (i := 1) rfl (hb hby x_is1_d7) fun T S => ?_
  show F T (mkF m 10 #[.val (.ref x)] [(.int 1)])
  refine B (fun tgt kt => XS.ifYes S.here S.hx rfl (pc0 := 10) (pc' := 17) rfl (hb hby x_is1_d10) rfl (i0_ne_t (by decide)) (by decide) (by decide) kt) ?_
  show F T (mkF m 17 #[.val (.ref x)] [])
  refine B (fun tgt kt => XS.iconst S.here S.hx rfl (hb hby x_is1_d17) kt) ?_
  show F T (mkF m 18 #[.val (.ref x)] [(.int (0 : Int32))])
  exact hF (S.retI hr hlk (by simp) (by decide) (hb hby x_is1_d18) (nw := []) ⟨rfl, rfl, rfl⟩ (by simp))
theorem y_ta_d0 : decode jdk_42_method_129_code 0 = .ok (.aload_n 0, 1) := by decide +kernel
theorem y_ta_d1 : decode jdk_42_method_129_code 1 = .ok (.invokevirtual 492, 3) := by decide +kernel
theorem y_ta_d4 : decode jdk_42_method_129_code 4 = .ok (.ifCond .eq 13, 3) := by decide +kernel
theorem y_ta_d7 : decode jdk_42_method_129_code 7 = .ok (.aload_n 0, 1) := by decide +kernel
theorem y_ta_d8 : decode jdk_42_method_129_code 8 = .ok (.getfield 9, 3) := by decide +kernel
theorem y_ta_d11 : decode jdk_42_method_129_code 11 = .ok (.invokestatic 299, 3) := by decide +kernel
theorem y_ta_d14 : decode jdk_42_method_129_code 14 = .ok (.goto 10, 3) := by decide +kernel
theorem y_ta_d17 : decode jdk_42_method_129_code 17 = .ok (.aload_n 0, 1) := by decide +kernel
theorem y_ta_d18 : decode jdk_42_method_129_code 18 = .ok (.getfield 9, 3) := by decide +kernel
theorem y_ta_d21 : decode jdk_42_method_129_code 21 = .ok (.invokestatic 303, 3) := by decide +kernel
theorem y_ta_d24 : decode jdk_42_method_129_code 24 = .ok (.areturn, 1) := by decide +kernel
theorem y_ta_p299 : parseMethodDescriptor "([B)[C" = some ⟨[(.array .byte)], (some (.array .char))⟩ := by decide +kernel
theorem y_ta_p303 : parseMethodDescriptor "([B)[C" = some ⟨[(.array .byte)], (some (.array .char))⟩ := by decide +kernel
theorem y_ta_p492 : parseMethodDescriptor "()Z" = some ⟨[], (some .boolean)⟩ := by decide +kernel
theorem y_ta_ef (m : MethodId) (x : Addr) : entryFrame m #[(.ref x)] 1 = mkF m 0 #[.val (.ref x)] [] := by first | (simp [entryFrame, mkF, argsToLocals, Value.category]; done) | rfl
theorem y_ta_pn : plainFor (⟨"java/lang/String", "toCharArray", "()[C"⟩ : MethodName) = true := by first | exact plainFor_of_name (by first | (simp [plainName, overriddenIn]; done) | decide +kernel) | decide +kernel
set_option maxRecDepth 65536 in
set_option maxHeartbeats 40000000 in
theorem y_ta (l : Launch) (Z : State) (a0 : Array Value) (EL : List (String × Nat)) (hw : ∀ d ∈ tables_1, d.before a0 Z = true) (hEW : EW Z a0 EL) (h : Heap) (zc : Int32) (CS : Sta Z Z.heap "java/lang/String" "COMPACT_STRINGS" "Z" (.int zc)) (hzc : ¬ zc = 0) (fm : Value) (SF : Sta Z Z.heap "jdk/internal/util/Preconditions" "SIOOBE_FORMATTER" "Ljava/util/function/BiFunction;" fm) (hfm : fm.isRef = true) (AD : Sta Z Z.heap "java/lang/StringUTF16" "$assertionsDisabled" "Z" (.int 1)) (HI : Sta Z Z.heap "java/lang/StringUTF16" "HI_BYTE_SHIFT" "I" (.int 0)) (LO : Sta Z Z.heap "java/lang/StringUTF16" "LO_BYTE_SHIFT" "I" (.int 8)) (x t : Addr) (cs : List Int32) (hn : cs.length ≤ 8) (G : own_Str Z a0 h x t cs) :
    Con l Z EL (⟨"java/lang/String", "toCharArray", "()[C"⟩ : MethodName) jdk_42_method_129_code 1 (some (.array .char)) ({ frames := 5, cells := 1, slots := 8, locals := 73 } : Room) #[(.ref x)] h [] (fun v h' nw => ∃ d kd, v = some (.ref d) ∧ nw = [d] ∧ h.size ≤ d ∧ Keep h h' [] ∧ Arv Z h' d kd .char (Int32.ofNat cs.length) (cs.map Value.int) (.int 0)) := by
  refine Con.of y_ta_pn hEW ?_
  intro p e s m below meth c T F B hF hby hml hr hlk hnm S
  rw [y_ta_ef]
  show F T (mkF m 0 #[.val (.ref x)] [])
  obtain ⟨kb, cd, N2, vs, O, V, hcd, hbd, hle⟩ := G
  rcases hcd with ⟨rfl, rfl, rfl, hl⟩ | ⟨rfl, rfl, rfl, hl⟩
  ·
    show F T (mkF m 0 #[.val (.ref x)] [])
    refine B (fun tgt kt => XS.aloadN S.here S.hx rfl (hb hby y_ta_d0) rfl rfl kt) ?_
    show F T (mkF m 1 #[.val (.ref x)] [(.ref x)])
    refine Sp.virt B S (y := (⟨"java/lang/String", "isLatin1", "()Z"⟩ : MethodName)) (C := "java/lang/String") (argsL := []) (rest := []) (hw _ (List.mem_of_getElem? (i := 40) rfl)) (hw _ (List.mem_of_getElem? (i := 41) rfl)) (hw _ (List.mem_of_getElem? (i := 43) rfl)) (hw _ (List.mem_of_getElem? (i := 43) rfl)) (hw _ (List.mem_of_getElem? (i := 42) rfl)) (by decide) (Call.con (W := 0) (x_is0 l Z a0 EL hw hEW h zc CS hzc x _ O) (hw _ (List.mem_of_getElem? (i := 44) rfl)) (hw _ (List.mem_of_getElem? (i := 4) rfl)) (by decide) (by decide)) O.1 (by simp) (by decide) (by decide) (by rw [hml]; rfl) (lenOf y_ta_p492 rfl) rfl (Nat.le_of_eq rfl) (hb hby y_ta_d1) fun v T h1 nw S hQ => ?_
    obtain ⟨rfl, rfl, rfl⟩ := hQ
    show F T (mkF m 4 #[.val (.ref x)] [(.int 1)])
    refine B (fun tgt kt => XS.ifNo S.here S.hx rfl (hb hby y_ta_d4) rfl (i0_eq_f (by decide)) kt) ?_
    show F T (mkF m 7 #[.val (.ref x)] [])
    refine B (fun tgt kt => XS.aloadN S.here S.hx rfl (hb hby y_ta_d7) rfl rfl kt) ?_
    show F T (mkF m 8 #[.val (.ref x)] [(.ref x)])
    refine Sp.getO B S (hw _ (List.mem_of_getElem? (i := 29) rfl)) O (i := 0) rfl (hb hby y_ta_d8) fun T S => ?_
    show F T (mkF m 11 #[.val (.ref x)] [(.ref t)])
    refine Sp.static B S (y := (⟨"java/lang/StringLatin1", "toChars", "([B)[C"⟩ : MethodName)) (argsL := [(.ref t)]) (rest := []) (hw _ (List.mem_of_getElem? (i := 45) rfl)) (hw _ (List.mem_of_getElem? (i := 46) rfl)) (hw _ (List.mem_of_getElem? (i := 47) rfl)) (hw _ (List.mem_of_getElem? (i := 48) rfl)) (by decide) (Call.con (W := 0) (y_tc l Z a0 EL hw hEW h cs hn (fun q hq => ⟨(hbd q hq).1, hl q hq⟩) t kb V) (hw _ (List.mem_of_getElem? (i := 48) rfl)) (hw _ (List.mem_of_getElem? (i := 47) rfl)) (by decide) (by decide)) (by simp) (by decide) (by decide) (by rw [hml]; rfl) (lenOf y_ta_p299 rfl) rfl (Nat.le_of_eq rfl) (hb hby y_ta_d11) fun v T h2 nw S hQ => ?_
    obtain ⟨d, kd, rfl, rfl, gd, K, Vd⟩ := hQ
    show F T (mkF m 14 #[.val (.ref x)] [(.ref d)])
    refine B (fun tgt kt => XS.goto S.here S.hx rfl (pc0 := 14) (pc' := 24) rfl (hb hby y_ta_d14) (by decide) (by decide) kt) ?_
    show F T (mkF m 24 #[.val (.ref x)] [(.ref d)])
    exact hF (S.retA hr hlk rfl rfl (hb hby y_ta_d24) (nw := [d]) ⟨d, kd, rfl, rfl, gd, K, Vd⟩ (by simp))
  ·
    show F T (mkF m 0 #[.val (.ref x)] [])
    refine B (fun tgt kt => XS.aloadN S.here S.hx rfl (hb hby y_ta_d0) rfl rfl kt) ?_
    show F T (mkF m 1 #[.val (.ref x)] [(.ref x)])
    refine Sp.virt B S (y := (⟨"java/lang/String", "isLatin1", "()Z"⟩ : MethodName)) (C := "java/lang/String") (argsL := []) (rest := []) (hw _ (List.mem_of_getElem? (i := 40) rfl)) (hw _ (List.mem_of_getElem? (i := 41) rfl)) (hw _ (List.mem_of_getElem? (i := 43) rfl)) (hw _ (List.mem_of_getElem? (i := 43) rfl)) (hw _ (List.mem_of_getElem? (i := 42) rfl)) (by decide) (Call.con (W := 0) (x_is1 l Z a0 EL hw hEW h zc CS hzc x _ O) (hw _ (List.mem_of_getElem? (i := 44) rfl)) (hw _ (List.mem_of_getElem? (i := 4) rfl)) (by decide) (by decide)) O.1 (by simp) (by decide) (by decide) (by rw [hml]; rfl) (lenOf y_ta_p492 rfl) rfl (Nat.le_of_eq rfl) (hb hby y_ta_d1) fun v T h3 nw S hQ => ?_
    obtain ⟨rfl, rfl, rfl⟩ := hQ
    show F T (mkF m 4 #[.val (.ref x)] [(.int 0)])
    refine B (fun tgt kt => XS.ifYes S.here S.hx rfl (pc0 := 4) (pc' := 17) rfl (hb hby y_ta_d4) rfl (i0_eq_t rfl) (by decide) (by decide) kt) ?_
    show F T (mkF m 17 #[.val (.ref x)] [])
    refine B (fun tgt kt => XS.aloadN S.here S.hx rfl (hb hby y_ta_d17) rfl rfl kt) ?_
    show F T (mkF m 18 #[.val (.ref x)] [(.ref x)])
    refine Sp.getO B S (hw _ (List.mem_of_getElem? (i := 29) rfl)) O (i := 0) rfl (hb hby y_ta_d18) fun T S => ?_
    show F T (mkF m 21 #[.val (.ref x)] [(.ref t)])
    have h0 : 0 < cs.length := by obtain ⟨q, hq, _⟩ := hl; exact List.length_pos_of_mem hq
    refine Sp.static B S (y := (⟨"java/lang/StringUTF16", "toChars", "([B)[C"⟩ : MethodName)) (argsL := [(.ref t)]) (rest := []) (hw _ (List.mem_of_getElem? (i := 111) rfl)) (hw _ (List.mem_of_getElem? (i := 112) rfl)) (hw _ (List.mem_of_getElem? (i := 18) rfl)) (hw _ (List.mem_of_getElem? (i := 113) rfl)) (by decide) (Call.con (W := 0) (y_ut l Z a0 EL hw hEW h fm SF hfm AD HI LO cs hn h0 hbd t kb V) (hw _ (List.mem_of_getElem? (i := 113) rfl)) (hw _ (List.mem_of_getElem? (i := 18) rfl)) (by decide) (by decide)) (by simp) (by decide) (by decide) (by rw [hml]; rfl) (lenOf y_ta_p303 rfl) rfl (Nat.le_of_eq rfl) (hb hby y_ta_d21) fun v T h4 nw S hQ => ?_
    obtain ⟨d, kd, rfl, rfl, gd, K, Vd⟩ := hQ
    show F T (mkF m 24 #[.val (.ref x)] [(.ref d)])
    exact hF (S.retA hr hlk rfl rfl (hb hby y_ta_d24) (nw := [d]) ⟨d, kd, rfl, rfl, gd, K, Vd⟩ (by simp))
theorem y_lc_d0 : decode jdk_43_method_2_code 0 = .ok (.iload_n 1, 1) := by decide +kernel
theorem y_lc_d1 : decode jdk_43_method_2_code 1 = .ok (.aload_n 0, 1) := by decide +kernel
theorem y_lc_d2 : decode jdk_43_method_2_code 2 = .ok (.arraylength, 1) := by decide +kernel
theorem y_lc_d3 : decode jdk_43_method_2_code 3 = .ok (.invokestatic 9, 3) := by decide +kernel
theorem y_lc_d6 : decode jdk_43_method_2_code 6 = .ok (.aload_n 0, 1) := by decide +kernel
theorem y_lc_d7 : decode jdk_43_method_2_code 7 = .ok (.iload_n 1, 1) := by decide +kernel
theorem y_lc_d8 : decode jdk_43_method_2_code 8 = .ok (.baload, 1) := by decide +kernel
theorem y_lc_d9 : decode jdk_43_method_2_code 9 = .ok (.sipush 255, 3) := by decide +kernel
theorem y_lc_d12 : decode jdk_43_method_2_code 12 = .ok (.iand, 1) := by decide +kernel
theorem y_lc_d13 : decode jdk_43_method_2_code 13 = .ok (.i2c, 1) := by decide +kernel
theorem y_lc_d14 : decode jdk_43_method_2_code 14 = .ok (.ireturn, 1) := by decide +kernel
theorem y_lc_p9 : parseMethodDescriptor "(II)V" = some ⟨[.int, .int], none⟩ := by decide +kernel
theorem y_lc_ef (m : MethodId) (t : Addr) (i : Nat) : entryFrame m #[(.ref t), (.int (Int32.ofNat i))] 2 = mkF m 0 #[.val (.ref t), .val (.int (Int32.ofNat i))] [] := by first | (simp [entryFrame, mkF, argsToLocals, Value.category]; done) | rfl
theorem y_lc_pn : plainFor (⟨"java/lang/StringLatin1", "charAt", "([BI)C"⟩ : MethodName) = true := by first | exact plainFor_of_name (by first | (simp [plainName, overriddenIn]; done) | decide +kernel) | decide +kernel
set_option maxRecDepth 65536 in
set_option maxHeartbeats 40000000 in
theorem y_lc (l : Launch) (Z : State) (a0 : Array Value) (EL : List (String × Nat)) (hw : ∀ d ∈ tables_1, d.before a0 Z = true) (hEW : EW Z a0 EL) (h : Heap) (fm : Value) (SF : Sta Z Z.heap "jdk/internal/util/Preconditions" "SIOOBE_FORMATTER" "Ljava/util/function/BiFunction;" fm) (hfm : fm.isRef = true) (cs : List Int32) (hn : cs.length ≤ 8) (hlat : ∀ q ∈ cs, ¬ q < 0 ∧ ¬ (255 : Int32) < q) (i : Nat) (hi : i < cs.length) (t : Addr) (kb : ClassId) (V : Arv Z h t kb .byte (Int32.ofNat cs.length) (cs.map fun q => Value.int (StrChars.lo8 q)) (.int 0)) :
    Con l Z EL (⟨"java/lang/StringLatin1", "charAt", "([BI)C"⟩ : MethodName) jdk_43_method_2_code 2 (some .char) ({ frames := 2, cells := 0, slots := 0, locals := 27 } : Room) #[(.ref t), (.int (Int32.ofNat i))] h [] (fun v h' nw => v = some (.int (cs.getD i 0)) ∧ nw = [] ∧ h = h') := by
  refine Con.of y_lc_pn hEW ?_
  intro p e s m below meth c T F B hF hby hml hr hlk hnm S
  rw [y_lc_ef]
  show F T (mkF m 0 #[.val (.ref t), .val (.int (Int32.ofNat i))] [])
  refine B (fun tgt kt => XS.iloadN S.here S.hx rfl (hb hby y_lc_d0) rfl kt) ?_
  show F T (mkF m 1 #[.val (.ref t), .val (.int (Int32.ofNat i))] [(.int (Int32.ofNat i))])
  refine B (fun tgt kt => XS.aloadN S.here S.hx rfl (hb hby y_lc_d1) rfl rfl kt) ?_
  show F T (mkF m 2 #[.val (.ref t), .val (.int (Int32.ofNat i))] [(.ref t), (.int (Int32.ofNat i))])
  refine Sp.alen B S V (hb hby y_lc_d2) ?_
  show F T (mkF m 3 #[.val (.ref t), .val (.int (Int32.ofNat i))] [(.int (Int32.ofNat cs.length)), (.int (Int32.ofNat i))])
  refine Sp.static B S (y := (⟨"java/lang/String", "checkIndex", "(II)V"⟩ : MethodName)) (argsL := [(.int (Int32.ofNat i)), (.int (Int32.ofNat cs.length))]) (rest := []) (hw _ (List.mem_of_getElem? (i := 72) rfl)) (hw _ (List.mem_of_getElem? (i := 73) rfl)) (hw _ (List.mem_of_getElem? (i := 4) rfl)) (hw _ (List.mem_of_getElem? (i := 74) rfl)) (by decide) (Call.con (W := 0) (y_si l Z a0 EL hw hEW h fm SF hfm i cs.length hi hn) (hw _ (List.mem_of_getElem? (i := 74) rfl)) (hw _ (List.mem_of_getElem? (i := 4) rfl)) (by decide) (by decide)) (by simp) (by decide) (by decide) (by rw [hml]; rfl) (lenOf y_lc_p9 rfl) rfl (Nat.le_of_eq rfl) (hb hby y_lc_d3) fun v T h1 nw S hQ => ?_
  obtain ⟨rfl, rfl, rfl⟩ := hQ
  show F T (mkF m 6 #[.val (.ref t), .val (.int (Int32.ofNat i))] [])
  refine B (fun tgt kt => XS.aloadN S.here S.hx rfl (hb hby y_lc_d6) rfl rfl kt) ?_
  show F T (mkF m 7 #[.val (.ref t), .val (.int (Int32.ofNat i))] [(.ref t)])
  refine B (fun tgt kt => XS.iloadN S.here S.hx rfl (hb hby y_lc_d7) rfl kt) ?_
  show F T (mkF m 8 #[.val (.ref t), .val (.int (Int32.ofNat i))] [(.int (Int32.ofNat i)), (.ref t)])
  refine Sp.bald B S V (own_in hi (by omega)) (by rw [own_cl _ (by omega)]; exact StrChars.Road.low_at _ _ _ hi) (hb hby y_lc_d8) ?_
  show F T (mkF m 9 #[.val (.ref t), .val (.int (Int32.ofNat i))] [(.int (StrChars.lo8 (cs.getD i 0)))])
  refine B (fun tgt kt => XS.sipush S.here S.hx rfl (hb hby y_lc_d9) kt) ?_
  show F T (mkF m 12 #[.val (.ref t), .val (.int (Int32.ofNat i))] [(.int (255 : Int32)), (.int (StrChars.lo8 (cs.getD i 0)))])
  refine B (fun tgt kt => XS.iand S.here S.hx rfl (hb hby y_lc_d12) rfl kt) ?_
  show F T (mkF m 13 #[.val (.ref t), .val (.int (Int32.ofNat i))] [(.int ((StrChars.lo8 (cs.getD i 0)) &&& (255 : Int32)))])
  refine B (fun tgt kt => XT.i2c S.here S.hx rfl (hb hby y_lc_d13) rfl kt) ?_
  show F T (mkF m 14 #[.val (.ref t), .val (.int (Int32.ofNat i))] [(.int ((StrChars.lo8 (cs.getD i 0)) &&& (255 : Int32)).toUInt32.toUInt16.toUInt32.toInt32)])
  have hbq := hlat _ (own_mem hi)
  have e8 : ((StrChars.lo8 (cs.getD i 0)) &&& (255 : Int32)).toUInt32.toUInt16.toUInt32.toInt32 = cs.getD i 0 := StrChars.chr8_lo8 hbq.1 hbq.2
  rw [e8]
  exact hF (S.retI hr hlk (by simp) (StrChars.narrow_ch hbq.1 (fun q => hbq.2 (Int32.lt_trans (by decide) q))) (hb hby y_lc_d14) (nw := []) ⟨rfl, rfl, rfl⟩ (by simp))
theorem y_uc_d0 : decode jdk_52_method_83_code 0 = .ok (.iload_n 1, 1) := by decide +kernel
theorem y_uc_d1 : decode jdk_52_method_83_code 1 = .ok (.aload_n 0, 1) := by decide +kernel
theorem y_uc_d2 : decode jdk_52_method_83_code 2 = .ok (.invokestatic 67, 3) := by decide +kernel
theorem y_uc_d5 : decode jdk_52_method_83_code 5 = .ok (.aload_n 0, 1) := by decide +kernel
theorem y_uc_d6 : decode jdk_52_method_83_code 6 = .ok (.iload_n 1, 1) := by decide +kernel
theorem y_uc_d7 : decode jdk_52_method_83_code 7 = .ok (.invokestatic 71, 3) := by decide +kernel
theorem y_uc_d10 : decode jdk_52_method_83_code 10 = .ok (.ireturn, 1) := by decide +kernel
theorem y_uc_p67 : parseMethodDescriptor "(I[B)V" = some ⟨[.int, (.array .byte)], none⟩ := by decide +kernel
theorem y_uc_p71 : parseMethodDescriptor "([BI)C" = some ⟨[(.array .byte), .int], (some .char)⟩ := by decide +kernel
theorem y_uc_ef (m : MethodId) (t : Addr) (i : Nat) : entryFrame m #[(.ref t), (.int (Int32.ofNat i))] 2 = mkF m 0 #[.val (.ref t), .val (.int (Int32.ofNat i))] [] := by first | (simp [entryFrame, mkF, argsToLocals, Value.category]; done) | rfl
theorem y_uc_pn : plainFor (⟨"java/lang/StringUTF16", "charAt", "([BI)C"⟩ : MethodName) = true := by first | exact plainFor_of_name (by first | (simp [plainName, overriddenIn]; done) | decide +kernel) | decide +kernel
set_option maxRecDepth 65536 in
set_option maxHeartbeats 40000000 in
theorem y_uc (l : Launch) (Z : State) (a0 : Array Value) (EL : List (String × Nat)) (hw : ∀ d ∈ tables_1, d.before a0 Z = true) (hEW : EW Z a0 EL) (h : Heap) (fm : Value) (SF : Sta Z Z.heap "jdk/internal/util/Preconditions" "SIOOBE_FORMATTER" "Ljava/util/function/BiFunction;" fm) (hfm : fm.isRef = true) (AD : Sta Z Z.heap "java/lang/StringUTF16" "$assertionsDisabled" "Z" (.int 1)) (HI : Sta Z Z.heap "java/lang/StringUTF16" "HI_BYTE_SHIFT" "I" (.int 0)) (LO : Sta Z Z.heap "java/lang/StringUTF16" "LO_BYTE_SHIFT" "I" (.int 8)) (cs : List Int32) (hn : cs.length ≤ 8) (hbd : ∀ q ∈ cs, ¬ q < 0 ∧ ¬ (65535 : Int32) < q) (i : Nat) (hi : i < cs.length) (t : Addr) (kb : ClassId) (V : Arv Z h t kb .byte (Int32.ofNat (2 * cs.length)) (StrChars.Road.wideBytes cs) (.int 0)) :
    Con l Z EL (⟨"java/lang/StringUTF16", "charAt", "([BI)C"⟩ : MethodName) jdk_52_method_83_code 2 (some .char) ({ frames := 3, cells := 0, slots := 0, locals := 40 } : Room) #[(.ref t), (.int (Int32.ofNat i))] h [] (fun v h' nw => v = some (.int (cs.getD i 0)) ∧ nw = [] ∧ h = h') := by
  refine Con.of y_uc_pn hEW ?_
  intro p e s m below meth c T F B hF hby hml hr hlk hnm S
  rw [y_uc_ef]
  show F T (mkF m 0 #[.val (.ref t), .val (.int (Int32.ofNat i))] [])
  refine B (fun tgt kt => XS.iloadN S.here S.hx rfl (hb hby y_uc_d0) rfl kt) ?_
  show F T (mkF m 1 #[.val (.ref t), .val (.int (Int32.ofNat i))] [(.int (Int32.ofNat i))])
  refine B (fun tgt kt => XS.aloadN S.here S.hx rfl (hb hby y_uc_d1) rfl rfl kt) ?_
  show F T (mkF m 2 #[.val (.ref t), .val (.int (Int32.ofNat i))] [(.ref t), (.int (Int32.ofNat i))])
  refine Sp.static B S (y := (⟨"java/lang/StringUTF16", "checkIndex", "(I[B)V"⟩ : MethodName)) (argsL := [(.int (Int32.ofNat i)), (.ref t)]) (rest := []) (hw _ (List.mem_of_getElem? (i := 132) rfl)) (hw _ (List.mem_of_getElem? (i := 133) rfl)) (hw _ (List.mem_of_getElem? (i := 18) rfl)) (hw _ (List.mem_of_getElem? (i := 134) rfl)) (by decide) (Call.con (W := 0) (y_ui l Z a0 EL hw hEW h fm SF hfm cs hn i hi t kb V) (hw _ (List.mem_of_getElem? (i := 134) rfl)) (hw _ (List.mem_of_getElem? (i := 18) rfl)) (by decide) (by decide)) (by simp) (by decide) (by decide) (by rw [hml]; rfl) (lenOf y_uc_p67 rfl) rfl (Nat.le_of_eq rfl) (hb hby y_uc_d2) fun v T h1 nw S hQ => ?_
  obtain ⟨rfl, rfl, rfl⟩ := hQ
  show F T (mkF m 5 #[.val (.ref t), .val (.int (Int32.ofNat i))] [])
  refine B (fun tgt kt => XS.aloadN S.here S.hx rfl (hb hby y_uc_d5) rfl rfl kt) ?_
  show F T (mkF m 6 #[.val (.ref t), .val (.int (Int32.ofNat i))] [(.ref t)])
  refine B (fun tgt kt => XS.iloadN S.here S.hx rfl (hb hby y_uc_d6) rfl kt) ?_
  show F T (mkF m 7 #[.val (.ref t), .val (.int (Int32.ofNat i))] [(.int (Int32.ofNat i)), (.ref t)])
  refine Sp.static B S (y := (⟨"java/lang/StringUTF16", "getChar", "([BI)C"⟩ : MethodName)) (argsL := [(.ref t), (.int (Int32.ofNat i))]) (rest := []) (hw _ (List.mem_of_getElem? (i := 108) rfl)) (hw _ (List.mem_of_getElem? (i := 109) rfl)) (hw _ (List.mem_of_getElem? (i := 18) rfl)) (hw _ (List.mem_of_getElem? (i := 110) rfl)) (by decide) (Call.con (W := 0) (u_gc l Z a0 EL hw hEW h AD HI LO cs hn i hi (hbd _ (own_mem hi)) t kb V) (hw _ (List.mem_of_getElem? (i := 110) rfl)) (hw _ (List.mem_of_getElem? (i := 18) rfl)) (by decide) (by decide)) (by simp) (by decide) (by decide) (by rw [hml]; rfl) (lenOf y_uc_p71 rfl) rfl (Nat.le_of_eq rfl) (hb hby y_uc_d7) fun v T h2 nw S hQ => ?_
  obtain ⟨rfl, rfl, rfl⟩ := hQ
  show F T (mkF m 10 #[.val (.ref t), .val (.int (Int32.ofNat i))] [(.int (cs.getD i 0))])
  have hbq := hbd _ (own_mem hi)
  exact hF (S.retI hr hlk (by simp) (StrChars.narrow_ch hbq.1 hbq.2) (hb hby y_uc_d10) (nw := []) ⟨rfl, rfl, rfl⟩ (by simp))
theorem y_ca_d0 : decode jdk_42_method_56_code 0 = .ok (.aload_n 0, 1) := by decide +kernel
theorem y_ca_d1 : decode jdk_42_method_56_code 1 = .ok (.invokevirtual 492, 3) := by decide +kernel
theorem y_ca_d4 : decode jdk_42_method_56_code 4 = .ok (.ifCond .eq 12, 3) := by decide +kernel
theorem y_ca_d7 : decode jdk_42_method_56_code 7 = .ok (.aload_n 0, 1) := by decide +kernel
theorem y_ca_d8 : decode jdk_42_method_56_code 8 = .ok (.getfield 9, 3) := by decide +kernel
theorem y_ca_d11 : decode jdk_42_method_56_code 11 = .ok (.iload_n 1, 1) := by decide +kernel
theorem y_ca_d12 : decode jdk_42_method_56_code 12 = .ok (.invokestatic 495, 3) := by decide +kernel
theorem y_ca_d15 : decode jdk_42_method_56_code 15 = .ok (.ireturn, 1) := by decide +kernel
theorem y_ca_d16 : decode jdk_42_method_56_code 16 = .ok (.aload_n 0, 1) := by decide +kernel
theorem y_ca_d17 : decode jdk_42_method_56_code 17 = .ok (.getfield 9, 3) := by decide +kernel
theorem y_ca_d20 : decode jdk_42_method_56_code 20 = .ok (.iload_n 1, 1) := by decide +kernel
theorem y_ca_d21 : decode jdk_42_method_56_code 21 = .ok (.invokestatic 498, 3) := by decide +kernel
theorem y_ca_d24 : decode jdk_42_method_56_code 24 = .ok (.ireturn, 1) := by decide +kernel
theorem y_ca_p492 : parseMethodDescriptor "()Z" = some ⟨[], (some .boolean)⟩ := by decide +kernel
theorem y_ca_p495 : parseMethodDescriptor "([BI)C" = some ⟨[(.array .byte), .int], (some .char)⟩ := by decide +kernel
theorem y_ca_p498 : parseMethodDescriptor "([BI)C" = some ⟨[(.array .byte), .int], (some .char)⟩ := by decide +kernel
theorem y_ca_ef (m : MethodId) (x : Addr) (i : Nat) : entryFrame m #[(.ref x), (.int (Int32.ofNat i))] 2 = mkF m 0 #[.val (.ref x), .val (.int (Int32.ofNat i))] [] := by first | (simp [entryFrame, mkF, argsToLocals, Value.category]; done) | rfl
theorem y_ca_pn : plainFor (⟨"java/lang/String", "charAt", "(I)C"⟩ : MethodName) = true := by first | exact plainFor_of_name (by first | (simp [plainName, overriddenIn]; done) | decide +kernel) | decide +kernel
set_option maxRecDepth 65536 in
set_option maxHeartbeats 40000000 in
theorem y_ca (l : Launch) (Z : State) (a0 : Array Value) (EL : List (String × Nat)) (hw : ∀ d ∈ tables_1, d.before a0 Z = true) (hEW : EW Z a0 EL) (h : Heap) (zc : Int32) (CS : Sta Z Z.heap "java/lang/String" "COMPACT_STRINGS" "Z" (.int zc)) (hzc : ¬ zc = 0) (fm : Value) (SF : Sta Z Z.heap "jdk/internal/util/Preconditions" "SIOOBE_FORMATTER" "Ljava/util/function/BiFunction;" fm) (hfm : fm.isRef = true) (AD : Sta Z Z.heap "java/lang/StringUTF16" "$assertionsDisabled" "Z" (.int 1)) (HI : Sta Z Z.heap "java/lang/StringUTF16" "HI_BYTE_SHIFT" "I" (.int 0)) (LO : Sta Z Z.heap "java/lang/StringUTF16" "LO_BYTE_SHIFT" "I" (.int 8)) (x t : Addr) (cs : List Int32) (hn : cs.length ≤ 8) (G : own_Str Z a0 h x t cs) (i : Nat) (hi : i < cs.length) :
    Con l Z EL (⟨"java/lang/String", "charAt", "(I)C"⟩ : MethodName) jdk_42_method_56_code 2 (some .char) ({ frames := 4, cells := 0, slots := 0, locals := 53 } : Room) #[(.ref x), (.int (Int32.ofNat i))] h [] (fun v h' nw => v = some (.int (cs.getD i 0)) ∧ nw = [] ∧ h = h') := by
  refine Con.of y_ca_pn hEW ?_
  intro p e s m below meth c T F B hF hby hml hr hlk hnm S
  rw [y_ca_ef]
  show F T (mkF m 0 #[.val (.ref x), .val (.int (Int32.ofNat i))] [])
  obtain ⟨kb, cd, N2, vs, O, V, hcd, hbd, hle⟩ := G
  have hbq := hbd _ (own_mem hi)
  rcases hcd with ⟨rfl, rfl, rfl, hl⟩ | ⟨rfl, rfl, rfl, hl⟩
  ·
    show F T (mkF m 0 #[.val (.ref x), .val (.int (Int32.ofNat i))] [])
    refine B (fun tgt kt => XS.aloadN S.here S.hx rfl (hb hby y_ca_d0) rfl rfl kt) ?_
    show F T (mkF m 1 #[.val (.ref x), .val (.int (Int32.ofNat i))] [(.ref x)])
    refine Sp.virt B S (y := (⟨"java/lang/String", "isLatin1", "()Z"⟩ : MethodName)) (C := "java/lang/String") (argsL := []) (rest := []) (hw _ (List.mem_of_getElem? (i := 40) rfl)) (hw _ (List.mem_of_getElem? (i := 41) rfl)) (hw _ (List.mem_of_getElem? (i := 43) rfl)) (hw _ (List.mem_of_getElem? (i := 43) rfl)) (hw _ (List.mem_of_getElem? (i := 42) rfl)) (by decide) (Call.con (W := 0) (x_is0 l Z a0 EL hw hEW h zc CS hzc x _ O) (hw _ (List.mem_of_getElem? (i := 44) rfl)) (hw _ (List.mem_of_getElem? (i := 4) rfl)) (by decide) (by decide)) O.1 (by simp) (by decide) (by decide) (by rw [hml]; rfl) (lenOf y_ca_p492 rfl) rfl (Nat.le_of_eq rfl) (hb hby y_ca_d1) fun v T h1 nw S hQ => ?_
    obtain ⟨rfl, rfl, rfl⟩ := hQ
    show F T (mkF m 4 #[.val (.ref x), .val (.int (Int32.ofNat i))] [(.int 1)])
    refine B (fun tgt kt => XS.ifNo S.here S.hx rfl (hb hby y_ca_d4) rfl (i0_eq_f (by decide)) kt) ?_
    show F T (mkF m 7 #[.val (.ref x), .val (.int (Int32.ofNat i))] [])
    refine B (fun tgt kt => XS.aloadN S.here S.hx rfl (hb hby y_ca_d7) rfl rfl kt) ?_
    show F T (mkF m 8 #[.val (.ref x), .val (.int (Int32.ofNat i))] [(.ref x)])
    refine Sp.getO B S (hw _ (List.mem_of_getElem? (i := 29) rfl)) O (i := 0) rfl (hb hby y_ca_d8) fun T S => ?_
    show F T (mkF m 11 #[.val (.ref x), .val (.int (Int32.ofNat i))] [(.ref t)])
    refine B (fun tgt kt => XS.iloadN S.here S.hx rfl (hb hby y_ca_d11) rfl kt) ?_
    show F T (mkF m 12 #[.val (.ref x), .val (.int (Int32.ofNat i))] [(.int (Int32.ofNat i)), (.ref t)])
    refine Sp.static B S (y := (⟨"java/lang/StringLatin1", "charAt", "([BI)C"⟩ : MethodName)) (argsL := [(.ref t), (.int (Int32.ofNat i))]) (rest := []) (hw _ (List.mem_of_getElem? (i := 69) rfl)) (hw _ (List.mem_of_getElem? (i := 70) rfl)) (hw _ (List.mem_of_getElem? (i := 47) rfl)) (hw _ (List.mem_of_getElem? (i := 71) rfl)) (by decide) (Call.con (W := 0) (y_lc l Z a0 EL hw hEW h fm SF hfm cs hn (fun q hq => ⟨(hbd q hq).1, hl q hq⟩) i hi t kb V) (hw _ (List.mem_of_getElem? (i := 71) rfl)) (hw _ (List.mem_of_getElem? (i := 47) rfl)) (by decide) (by decide)) (by simp) (by decide) (by decide) (by rw [hml]; rfl) (lenOf y_ca_p495 rfl) rfl (Nat.le_of_eq rfl) (hb hby y_ca_d12) fun v T h2 nw S hQ => ?_
    obtain ⟨rfl, rfl, rfl⟩ := hQ
    show F T (mkF m 15 #[.val (.ref x), .val (.int (Int32.ofNat i))] [(.int (cs.getD i 0))])
    exact hF (S.retI hr hlk (by simp) (StrChars.narrow_ch hbq.1 hbq.2) (hb hby y_ca_d15) (nw := []) ⟨rfl, rfl, rfl⟩ (by simp))
  ·
    show F T (mkF m 0 #[.val (.ref x), .val (.int (Int32.ofNat i))] [])
    refine B (fun tgt kt => XS.aloadN S.here S.hx rfl (hb hby y_ca_d0) rfl rfl kt) ?_
    show F T (mkF m 1 #[.val (.ref x), .val (.int (Int32.ofNat i))] [(.ref x)])
    refine Sp.virt B S (y := (⟨"java/lang/String", "isLatin1", "()Z"⟩ : MethodName)) (C := "java/lang/String") (argsL := []) (rest := []) (hw _ (List.mem_of_getElem? (i := 40) rfl)) (hw _ (List.mem_of_getElem? (i := 41) rfl)) (hw _ (List.mem_of_getElem? (i := 43) rfl)) (hw _ (List.mem_of_getElem? (i := 43) rfl)) (hw _ (List.mem_of_getElem? (i := 42) rfl)) (by decide) (Call.con (W := 0) (x_is1 l Z a0 EL hw hEW h zc CS hzc x _ O) (hw _ (List.mem_of_getElem? (i := 44) rfl)) (hw _ (List.mem_of_getElem? (i := 4) rfl)) (by decide) (by decide)) O.1 (by simp) (by decide) (by decide) (by rw [hml]; rfl) (lenOf y_ca_p492 rfl) rfl (Nat.le_of_eq rfl) (hb hby y_ca_d1) fun v T h3 nw S hQ => ?_
    obtain ⟨rfl, rfl, rfl⟩ := hQ
    show F T (mkF m 4 #[.val (.ref x), .val (.int (Int32.ofNat i))] [(.int 0)])
    refine B (fun tgt kt => XS.ifYes S.here S.hx rfl (pc0 := 4) (pc' := 16) rfl (hb hby y_ca_d4) rfl (i0_eq_t rfl) (by decide) (by decide) kt) ?_
    show F T (mkF m 16 #[.val (.ref x), .val (.int (Int32.ofNat i))] [])
    refine B (fun tgt kt => XS.aloadN S.here S.hx rfl (hb hby y_ca_d16) rfl rfl kt) ?_
    show F T (mkF m 17 #[.val (.ref x), .val (.int (Int32.ofNat i))] [(.ref x)])
    refine Sp.getO B S (hw _ (List.mem_of_getElem? (i := 29) rfl)) O (i := 0) rfl (hb hby y_ca_d17) fun T S => ?_
    show F T (mkF m 20 #[.val (.ref x), .val (.int (Int32.ofNat i))] [(.ref t)])
    refine B (fun tgt kt => XS.iloadN S.here S.hx rfl (hb hby y_ca_d20) rfl kt) ?_
    show F T (mkF m 21 #[.val (.ref x), .val (.int (Int32.ofNat i))] [(.int (Int32.ofNat i)), (.ref t)])
    refine Sp.static B S (y := (⟨"java/lang/StringUTF16", "charAt", "([BI)C"⟩ : MethodName)) (argsL := [(.ref t), (.int (Int32.ofNat i))]) (rest := []) (hw _ (List.mem_of_getElem? (i := 129) rfl)) (hw _ (List.mem_of_getElem? (i := 130) rfl)) (hw _ (List.mem_of_getElem? (i := 18) rfl)) (hw _ (List.mem_of_getElem? (i := 131) rfl)) (by decide) (Call.con (W := 0) (y_uc l Z a0 EL hw hEW h fm SF hfm AD HI LO cs hn hbd i hi t kb V) (hw _ (List.mem_of_getElem? (i := 131) rfl)) (hw _ (List.mem_of_getElem? (i := 18) rfl)) (by decide) (by decide)) (by simp) (by decide) (by decide) (by rw [hml]; rfl) (lenOf y_ca_p498 rfl) rfl (Nat.le_of_eq rfl) (hb hby y_ca_d21) fun v T h4 nw S hQ => ?_
    obtain ⟨rfl, rfl, rfl⟩ := hQ
    show F T (mkF m 24 #[.val (.ref x), .val (.int (Int32.ofNat i))] [(.int (cs.getD i 0))])
    exact hF (S.retI hr hlk (by simp) (StrChars.narrow_ch hbq.1 hbq.2) (hb hby y_ca_d24) (nw := []) ⟨rfl, rfl, rfl⟩ (by simp))
theorem y_fc_d0 : decode prog_3_method_6_code 0 = .ok (.aload_n 0, 1) := by decide +kernel
theorem y_fc_d1 : decode prog_3_method_6_code 1 = .ok (.invokevirtual 94, 3) := by decide +kernel
theorem y_fc_d4 : decode prog_3_method_6_code 4 = .ok (.astore_n 1, 1) := by decide +kernel
theorem y_fc_d5 : decode prog_3_method_6_code 5 = .ok (.iconst 0, 1) := by decide +kernel
theorem y_fc_d6 : decode prog_3_method_6_code 6 = .ok (.istore_n 2, 1) := by decide +kernel
theorem y_fc_d7 : decode prog_3_method_6_code 7 = .ok (.iload_n 2, 1) := by decide +kernel
theorem y_fc_d8 : decode prog_3_method_6_code 8 = .ok (.aload_n 1, 1) := by decide +kernel
theorem y_fc_d9 : decode prog_3_method_6_code 9 = .ok (.arraylength, 1) := by decide +kernel
theorem y_fc_d10 : decode prog_3_method_6_code 10 = .ok (.if_icmp .ge 35, 3) := by decide +kernel
theorem y_fc_d13 : decode prog_3_method_6_code 13 = .ok (.aload_n 1, 1) := by decide +kernel
theorem y_fc_d14 : decode prog_3_method_6_code 14 = .ok (.iload_n 2, 1) := by decide +kernel
theorem y_fc_d15 : decode prog_3_method_6_code 15 = .ok (.caload, 1) := by decide +kernel
theorem y_fc_d16 : decode prog_3_method_6_code 16 = .ok (.bipush 65, 2) := by decide +kernel
theorem y_fc_d18 : decode prog_3_method_6_code 18 = .ok (.if_icmp .lt 21, 3) := by decide +kernel
theorem y_fc_d21 : decode prog_3_method_6_code 21 = .ok (.aload_n 1, 1) := by decide +kernel
theorem y_fc_d22 : decode prog_3_method_6_code 22 = .ok (.iload_n 2, 1) := by decide +kernel
theorem y_fc_d23 : decode prog_3_method_6_code 23 = .ok (.caload, 1) := by decide +kernel
theorem y_fc_d24 : decode prog_3_method_6_code 24 = .ok (.bipush 90, 2) := by decide +kernel
theorem y_fc_d26 : decode prog_3_method_6_code 26 = .ok (.if_icmp .gt 13, 3) := by decide +kernel
theorem y_fc_d29 : decode prog_3_method_6_code 29 = .ok (.aload_n 1, 1) := by decide +kernel
theorem y_fc_d30 : decode prog_3_method_6_code 30 = .ok (.iload_n 2, 1) := by decide +kernel
theorem y_fc_d31 : decode prog_3_method_6_code 31 = .ok (.aload_n 1, 1) := by decide +kernel
theorem y_fc_d32 : decode prog_3_method_6_code 32 = .ok (.iload_n 2, 1) := by decide +kernel
theorem y_fc_d33 : decode prog_3_method_6_code 33 = .ok (.caload, 1) := by decide +kernel
theorem y_fc_d34 : decode prog_3_method_6_code 34 = .ok (.bipush 32, 2) := by decide +kernel
theorem y_fc_d36 : decode prog_3_method_6_code 36 = .ok (.iadd, 1) := by decide +kernel
theorem y_fc_d37 : decode prog_3_method_6_code 37 = .ok (.i2c, 1) := by decide +kernel
theorem y_fc_d38 : decode prog_3_method_6_code 38 = .ok (.castore, 1) := by decide +kernel
theorem y_fc_d39 : decode prog_3_method_6_code 39 = .ok (.iinc 2 1, 3) := by decide +kernel
theorem y_fc_d42 : decode prog_3_method_6_code 42 = .ok (.goto (-35), 3) := by decide +kernel
theorem y_fc_d45 : decode prog_3_method_6_code 45 = .ok (.new 72, 3) := by decide +kernel
theorem y_fc_d48 : decode prog_3_method_6_code 48 = .ok (.dup, 1) := by decide +kernel
theorem y_fc_d49 : decode prog_3_method_6_code 49 = .ok (.aload_n 1, 1) := by decide +kernel
theorem y_fc_d50 : decode prog_3_method_6_code 50 = .ok (.invokespecial 98, 3) := by decide +kernel
theorem y_fc_d53 : decode prog_3_method_6_code 53 = .ok (.areturn, 1) := by decide +kernel
theorem y_fc_p94 : parseMethodDescriptor "()[C" = some ⟨[], (some (.array .char))⟩ := by decide +kernel
theorem y_fc_p98 : parseMethodDescriptor "([C)V" = some ⟨[(.array .char)], none⟩ := by decide +kernel
set_option maxRecDepth 65536 in
set_option maxHeartbeats 40000000 in
theorem y_fcl {p : Program} {l : Launch} {e : Env} {s : State} {m : MethodId} {args : Array Value} {below : List Frame} {meth : Method} {c : Code} {Z : State} {a0 : Array Value} {EL : List (String × Nat)} {F : State → JFrame → Prop} {sf : List Addr} {lt : List (String × Nat × Addr)} {kq nq : Nat} (hw : ∀ q ∈ tables_1, q.before a0 Z = true) (hEW : EW Z a0 EL)  (B : Bw p e below F) (hby : c.code = prog_3_method_6_code) (hml : c.maxLocals = 3) (cs : List Int32) (hn : cs.length ≤ 8) (hbd : ∀ q ∈ cs, ¬ q < 0 ∧ ¬ (65535 : Int32) < q) (x d : Addr) (kd : ClassId) (hd : d ∈ sf)  :
    ∀ (k i : Nat) (T : State) (h : Heap), i + k = cs.length → Sp p l e ({ frames := 6, cells := 6, slots := 36, locals := 88 } : Room) s m args below meth c Z a0 EL "com/example/perdura/perdura/store/TableLayout" T h sf lt kq nq → True → Arv Z h d kd .char (Int32.ofNat cs.length) ((own_vs cs i).map Value.int) (.int 0) →
      (∀ (T' : State) (h' : Heap), Sp p l e ({ frames := 6, cells := 6, slots := 36, locals := 88 } : Room) s m args below meth c Z a0 EL "com/example/perdura/perdura/store/TableLayout" T' h' sf lt kq nq → Keep h h' [d] → Arv Z h' d kd .char (Int32.ofNat cs.length) ((own_vs cs cs.length).map Value.int) (.int 0) → F T' (mkF m 45 #[.val (.ref x), .val (.ref d), .val (.int (Int32.ofNat cs.length))] [])) → F T (mkF m 7 #[.val (.ref x), .val (.ref d), .val (.int (Int32.ofNat i))] []) := by
  intro k
  induction k with
  | zero =>
    intro i T h hik S _ Vd K
    have hi : i = cs.length := by omega
    subst hi
    show F T (mkF m 7 #[.val (.ref x), .val (.ref d), .val (.int (Int32.ofNat cs.length))] [])
    refine B (fun tgt kt => XS.iloadN S.here S.hx rfl (hb hby y_fc_d7) rfl kt) ?_
    show F T (mkF m 8 #[.val (.ref x), .val (.ref d), .val (.int (Int32.ofNat cs.length))] [(.int (Int32.ofNat cs.length))])
    refine B (fun tgt kt => XS.aloadN S.here S.hx rfl (hb hby y_fc_d8) rfl rfl kt) ?_
    show F T (mkF m 9 #[.val (.ref x), .val (.ref d), .val (.int (Int32.ofNat cs.length))] [(.ref d), (.int (Int32.ofNat cs.length))])
    refine Sp.alen B S Vd (hb hby y_fc_d9) ?_
    show F T (mkF m 10 #[.val (.ref x), .val (.ref d), .val (.int (Int32.ofNat cs.length))] [(.int (Int32.ofNat cs.length)), (.int (Int32.ofNat cs.length))])
    refine B (fun tgt kt => XS.icmpYes S.here S.hx rfl (pc0 := 10) (pc' := 45) rfl (hb hby y_fc_d10) rfl (ii_ge_t (own_irr _)) (by decide) (by decide) kt) ?_
    show F T (mkF m 45 #[.val (.ref x), .val (.ref d), .val (.int (Int32.ofNat cs.length))] [])
    exact K _ _ S (Keep.refl _ _) Vd
  | succ k ih =>
    intro i T h hik S _ Vd K
    have hi : i < cs.length := by omega
    have hbq := hbd _ (own_mem hi)
    have hat : ((own_vs cs i).map Value.int).getD (Int32.ofNat i).toNatClampNeg (.int 0) = .int (cs.getD i 0) := by rw [own_vmap (by rw [own_vslen]; exact hi) (by rw [own_vslen]; omega), own_vsat hi]
    show F T (mkF m 7 #[.val (.ref x), .val (.ref d), .val (.int (Int32.ofNat i))] [])
    refine B (fun tgt kt => XS.iloadN S.here S.hx rfl (hb hby y_fc_d7) rfl kt) ?_
    show F T (mkF m 8 #[.val (.ref x), .val (.ref d), .val (.int (Int32.ofNat i))] [(.int (Int32.ofNat i))])
    refine B (fun tgt kt => XS.aloadN S.here S.hx rfl (hb hby y_fc_d8) rfl rfl kt) ?_
    show F T (mkF m 9 #[.val (.ref x), .val (.ref d), .val (.int (Int32.ofNat i))] [(.ref d), (.int (Int32.ofNat i))])
    refine Sp.alen B S Vd (hb hby y_fc_d9) ?_
    show F T (mkF m 10 #[.val (.ref x), .val (.ref d), .val (.int (Int32.ofNat i))] [(.int (Int32.ofNat cs.length)), (.int (Int32.ofNat i))])
    refine B (fun tgt kt => XS.icmpNo S.here S.hx rfl (hb hby y_fc_d10) rfl (ii_ge_f (own_sm hi (by omega))) kt) ?_
    show F T (mkF m 13 #[.val (.ref x), .val (.ref d), .val (.int (Int32.ofNat i))] [])
    refine B (fun tgt kt => XS.aloadN S.here S.hx rfl (hb hby y_fc_d13) rfl rfl kt) ?_
    show F T (mkF m 14 #[.val (.ref x), .val (.ref d), .val (.int (Int32.ofNat i))] [(.ref d)])
    refine B (fun tgt kt => XS.iloadN S.here S.hx rfl (hb hby y_fc_d14) rfl kt) ?_
    show F T (mkF m 15 #[.val (.ref x), .val (.ref d), .val (.int (Int32.ofNat i))] [(.int (Int32.ofNat i)), (.ref d)])
    refine Sp.cald B S Vd (own_in hi (by omega)) hat (hb hby y_fc_d15) ?_
    show F T (mkF m 16 #[.val (.ref x), .val (.ref d), .val (.int (Int32.ofNat i))] [(.int (cs.getD i 0))])
    refine B (fun tgt kt => XS.bipush S.here S.hx rfl (hb hby y_fc_d16) kt) ?_
    show F T (mkF m 18 #[.val (.ref x), .val (.ref d), .val (.int (Int32.ofNat i))] [(.int (65 : Int32)), (.int (cs.getD i 0))])
    by_cases g1 : cs.getD i 0 < 65
    case pos =>
      refine B (fun tgt kt => XS.icmpYes S.here S.hx rfl (pc0 := 18) (pc' := 39) rfl (hb hby y_fc_d18) rfl (ii_lt_t g1) (by decide) (by decide) kt) ?_
      show F T (mkF m 39 #[.val (.ref x), .val (.ref d), .val (.int (Int32.ofNat i))] [])
      refine B (fun tgt kt => XS.iinc S.here S.hx rfl (hb hby y_fc_d39) rfl (l' := #[.val (.ref x), .val (.ref d), .val (.int ((Int32.ofNat i) + (1 : Int32)))]) rfl kt) ?_
      show F T (mkF m 42 #[.val (.ref x), .val (.ref d), .val (.int ((Int32.ofNat i) + (1 : Int32)))] [])
      refine B (fun tgt kt => XS.goto S.here S.hx rfl (pc0 := 42) (pc' := 7) rfl (hb hby y_fc_d42) (by decide) (by decide) kt) ?_
      show F T (mkF m 7 #[.val (.ref x), .val (.ref d), .val (.int ((Int32.ofNat i) + (1 : Int32)))] [])
      rw [own_inc i]
      show F T (mkF m 7 #[.val (.ref x), .val (.ref d), .val (.int (Int32.ofNat (i + 1)))] [])
      have hf : own_fold (cs.getD i 0) = cs.getD i 0 := by unfold own_fold; rw [if_pos g1]
      exact ih (i + 1) _ _ (by omega) S trivial (by rw [← own_vssame hi hf]; exact Vd) K
    refine B (fun tgt kt => XS.icmpNo S.here S.hx rfl (hb hby y_fc_d18) rfl (ii_lt_f g1) kt) ?_
    show F T (mkF m 21 #[.val (.ref x), .val (.ref d), .val (.int (Int32.ofNat i))] [])
    refine B (fun tgt kt => XS.aloadN S.here S.hx rfl (hb hby y_fc_d21) rfl rfl kt) ?_
    show F T (mkF m 22 #[.val (.ref x), .val (.ref d), .val (.int (Int32.ofNat i))] [(.ref d)])
    refine B (fun tgt kt => XS.iloadN S.here S.hx rfl (hb hby y_fc_d22) rfl kt) ?_
    show F T (mkF m 23 #[.val (.ref x), .val (.ref d), .val (.int (Int32.ofNat i))] [(.int (Int32.ofNat i)), (.ref d)])
    refine Sp.cald B S Vd (own_in hi (by omega)) hat (hb hby y_fc_d23) ?_
    show F T (mkF m 24 #[.val (.ref x), .val (.ref d), .val (.int (Int32.ofNat i))] [(.int (cs.getD i 0))])
    refine B (fun tgt kt => XS.bipush S.here S.hx rfl (hb hby y_fc_d24) kt) ?_
    show F T (mkF m 26 #[.val (.ref x), .val (.ref d), .val (.int (Int32.ofNat i))] [(.int (90 : Int32)), (.int (cs.getD i 0))])
    by_cases g2 : (90 : Int32) < cs.getD i 0
    case pos =>
      refine B (fun tgt kt => XS.icmpYes S.here S.hx rfl (pc0 := 26) (pc' := 39) rfl (hb hby y_fc_d26) rfl (ii_gt_t g2) (by decide) (by decide) kt) ?_
      show F T (mkF m 39 #[.val (.ref x), .val (.ref d), .val (.int (Int32.ofNat i))] [])
      refine B (fun tgt kt => XS.iinc S.here S.hx rfl (hb hby y_fc_d39) rfl (l' := #[.val (.ref x), .val (.ref d), .val (.int ((Int32.ofNat i) + (1 : Int32)))]) rfl kt) ?_
      show F T (mkF m 42 #[.val (.ref x), .val (.ref d), .val (.int ((Int32.ofNat i) + (1 : Int32)))] [])
      refine B (fun tgt kt => XS.goto S.here S.hx rfl (pc0 := 42) (pc' := 7) rfl (hb hby y_fc_d42) (by decide) (by decide) kt) ?_
      show F T (mkF m 7 #[.val (.ref x), .val (.ref d), .val (.int ((Int32.ofNat i) + (1 : Int32)))] [])
      rw [own_inc i]
      show F T (mkF m 7 #[.val (.ref x), .val (.ref d), .val (.int (Int32.ofNat (i + 1)))] [])
      have hf : own_fold (cs.getD i 0) = cs.getD i 0 := by unfold own_fold; rw [if_neg g1, if_pos g2]
      exact ih (i + 1) _ _ (by omega) S trivial (by rw [← own_vssame hi hf]; exact Vd) K
    refine B (fun tgt kt => XS.icmpNo S.here S.hx rfl (hb hby y_fc_d26) rfl (ii_gt_f g2) kt) ?_
    show F T (mkF m 29 #[.val (.ref x), .val (.ref d), .val (.int (Int32.ofNat i))] [])
    refine B (fun tgt kt => XS.aloadN S.here S.hx rfl (hb hby y_fc_d29) rfl rfl kt) ?_
    show F T (mkF m 30 #[.val (.ref x), .val (.ref d), .val (.int (Int32.ofNat i))] [(.ref d)])
    refine B (fun tgt kt => XS.iloadN S.here S.hx rfl (hb hby y_fc_d30) rfl kt) ?_
    show F T (mkF m 31 #[.val (.ref x), .val (.ref d), .val (.int (Int32.ofNat i))] [(.int (Int32.ofNat i)), (.ref d)])
    refine B (fun tgt kt => XS.aloadN S.here S.hx rfl (hb hby y_fc_d31) rfl rfl kt) ?_
    show F T (mkF m 32 #[.val (.ref x), .val (.ref d), .val (.int (Int32.ofNat i))] [(.ref d), (.int (Int32.ofNat i)), (.ref d)])
    refine B (fun tgt kt => XS.iloadN S.here S.hx rfl (hb hby y_fc_d32) rfl kt) ?_
    show F T (mkF m 33 #[.val (.ref x), .val (.ref d), .val (.int (Int32.ofNat i))] [(.int (Int32.ofNat i)), (.ref d), (.int (Int32.ofNat i)), (.ref d)])
    refine Sp.cald B S Vd (own_in hi (by omega)) hat (hb hby y_fc_d33) ?_
    show F T (mkF m 34 #[.val (.ref x), .val (.ref d), .val (.int (Int32.ofNat i))] [(.int (cs.getD i 0)), (.int (Int32.ofNat i)), (.ref d)])
    refine B (fun tgt kt => XS.bipush S.here S.hx rfl (hb hby y_fc_d34) kt) ?_
    show F T (mkF m 36 #[.val (.ref x), .val (.ref d), .val (.int (Int32.ofNat i))] [(.int (32 : Int32)), (.int (cs.getD i 0)), (.int (Int32.ofNat i)), (.ref d)])
    refine B (fun tgt kt => XS.iadd S.here S.hx rfl (hb hby y_fc_d36) rfl kt) ?_
    show F T (mkF m 37 #[.val (.ref x), .val (.ref d), .val (.int (Int32.ofNat i))] [(.int ((cs.getD i 0) + (32 : Int32))), (.int (Int32.ofNat i)), (.ref d)])
    refine B (fun tgt kt => XT.i2c S.here S.hx rfl (hb hby y_fc_d37) rfl kt) ?_
    show F T (mkF m 38 #[.val (.ref x), .val (.ref d), .val (.int (Int32.ofNat i))] [(.int ((cs.getD i 0) + (32 : Int32)).toUInt32.toUInt16.toUInt32.toInt32), (.int (Int32.ofNat i)), (.ref d)])
    have hf : (cs.getD i 0 + 32).toUInt32.toUInt16.toUInt32.toInt32 = own_fold (cs.getD i 0) := by simp only [own_fold, g1, g2, if_false]
    rw [hf]
    show F T (mkF m 38 #[.val (.ref x), .val (.ref d), .val (.int (Int32.ofNat i))] [(.int (own_fold (cs.getD i 0))), (.int (Int32.ofNat i)), (.ref d)])
    refine Sp.stC B S Vd (i := i) (own_in hi (by omega)) (own_cl _ (by omega)) (by rw [List.length_map, own_vslen]; exact hi) (own_narc (own_foldb hbq)) hd (hb hby y_fc_d38) fun T h1 S W Vd => ?_
    rw [← List.map_set, own_vsset hi] at Vd
    show F T (mkF m 39 #[.val (.ref x), .val (.ref d), .val (.int (Int32.ofNat i))] [])
    refine B (fun tgt kt => XS.iinc S.here S.hx rfl (hb hby y_fc_d39) rfl (l' := #[.val (.ref x), .val (.ref d), .val (.int ((Int32.ofNat i) + (1 : Int32)))]) rfl kt) ?_
    show F T (mkF m 42 #[.val (.ref x), .val (.ref d), .val (.int ((Int32.ofNat i) + (1 : Int32)))] [])
    refine B (fun tgt kt => XS.goto S.here S.hx rfl (pc0 := 42) (pc' := 7) rfl (hb hby y_fc_d42) (by decide) (by decide) kt) ?_
    show F T (mkF m 7 #[.val (.ref x), .val (.ref d), .val (.int ((Int32.ofNat i) + (1 : Int32)))] [])
    rw [own_inc i]
    show F T (mkF m 7 #[.val (.ref x), .val (.ref d), .val (.int (Int32.ofNat (i + 1)))] [])
    exact ih (i + 1) _ _ (by omega) S trivial Vd fun T' h' S' K2 V2 => K T' h' S' ((Keep.of_wr W).trans K2 (fun x hx => Or.inl hx)) V2
theorem y_fc_ef (m : MethodId) (x : Addr) : entryFrame m #[(.ref x)] 3 = mkF m 0 #[.val (.ref x), .unset, .unset] [] := by first | (simp [entryFrame, mkF, argsToLocals, Value.category]; done) | rfl
theorem y_fc_pn : plainFor (⟨"com/example/perdura/perdura/store/TableLayout", "foldCase", "(Ljava/lang/String;)Ljava/lang/String;"⟩ : MethodName) = true := by first | exact plainFor_of_name (by first | (simp [plainName, overriddenIn]; done) | decide +kernel) | decide +kernel
set_option maxRecDepth 65536 in
set_option maxHeartbeats 40000000 in
theorem y_fc (l : Launch) (Z : State) (a0 : Array Value) (EL : List (String × Nat)) (hw : ∀ d ∈ tables_1, d.before a0 Z = true) (hEW : EW Z a0 EL) (h : Heap) (hS : ∀ d ∈ Bundle.stringAtoms, d.before a0 Z = true) (hmem : ("java/lang/String", 7) ∈ EL) (zc : Int32) (CS : Sta Z Z.heap "java/lang/String" "COMPACT_STRINGS" "Z" (.int zc)) (hzc : ¬ zc = 0) (fm : Value) (SF : Sta Z Z.heap "jdk/internal/util/Preconditions" "SIOOBE_FORMATTER" "Ljava/util/function/BiFunction;" fm) (hfm : fm.isRef = true) (AD : Sta Z Z.heap "java/lang/StringUTF16" "$assertionsDisabled" "Z" (.int 1)) (HI : Sta Z Z.heap "java/lang/StringUTF16" "HI_BYTE_SHIFT" "I" (.int 0)) (LO : Sta Z Z.heap "java/lang/StringUTF16" "LO_BYTE_SHIFT" "I" (.int 8)) (x t : Addr) (cs : List Int32) (hn : cs.length ≤ 8) (G : own_Str Z a0 h x t cs) :
    Con l Z EL (⟨"com/example/perdura/perdura/store/TableLayout", "foldCase", "(Ljava/lang/String;)Ljava/lang/String;"⟩ : MethodName) prog_3_method_6_code 3 (some (.object "java/lang/String")) ({ frames := 6, cells := 6, slots := 36, locals := 88 } : Room) #[(.ref x)] h [] (fun v h' nw => ∃ y ty, v = some (.ref y) ∧ nw = [] ∧ Keep h h' [] ∧ own_Str Z a0 h' y ty (cs.map own_fold)) := by
  refine Con.of y_fc_pn hEW ?_
  intro p e s m below meth c T F B hF hby hml hr hlk hnm S
  rw [y_fc_ef]
  show F T (mkF m 0 #[.val (.ref x), .unset, .unset] [])
  have Ex : Exa Z h x "java/lang/String" ∧ (∀ q ∈ cs, ¬ q < 0 ∧ ¬ (65535 : Int32) < q) := by obtain ⟨_, _, _, _, O, _, _, hbq, _⟩ := G; exact ⟨O.1, hbq⟩
  obtain ⟨Ex, hbd⟩ := Ex
  have KK := Keep.refl h []
  refine B (fun tgt kt => XS.aloadN S.here S.hx rfl (hb hby y_fc_d0) rfl rfl kt) ?_
  show F T (mkF m 1 #[.val (.ref x), .unset, .unset] [(.ref x)])
  refine Sp.virt B S (y := (⟨"java/lang/String", "toCharArray", "()[C"⟩ : MethodName)) (C := "java/lang/String") (argsL := []) (rest := []) (hw _ (List.mem_of_getElem? (i := 35) rfl)) (hw _ (List.mem_of_getElem? (i := 36) rfl)) (hw _ (List.mem_of_getElem? (i := 38) rfl)) (hw _ (List.mem_of_getElem? (i := 38) rfl)) (hw _ (List.mem_of_getElem? (i := 37) rfl)) (by decide) (Call.con (W := 0) (y_ta l Z a0 EL hw hEW h zc CS hzc fm SF hfm AD HI LO x t cs hn G) (hw _ (List.mem_of_getElem? (i := 39) rfl)) (hw _ (List.mem_of_getElem? (i := 4) rfl)) (by decide) (by decide)) Ex (by simp) (by decide) (by decide) (by rw [hml]; rfl) (lenOf y_fc_p94 rfl) rfl (Nat.le_of_eq rfl) (hb hby y_fc_d1) fun v T h1 nw S hQ => ?_
  obtain ⟨d, kd, rfl, rfl, gd, K, Vd⟩ := hQ
  replace KK := KK.trans K (fun x hx => nomatch hx)
  show F T (mkF m 4 #[.val (.ref x), .unset, .unset] [(.ref d)])
  refine B (fun tgt kt => XS.astoreN S.here S.hx rfl (hb hby y_fc_d4) rfl rfl (l' := #[.val (.ref x), .val (.ref d), .unset]) rfl kt) ?_
  show F T (mkF m 5 #[.val (.ref x), .val (.ref d), .unset] [])
  refine B (fun tgt kt => XS.iconst S.here S.hx rfl (hb hby y_fc_d5) kt) ?_
  show F T (mkF m 6 #[.val (.ref x), .val (.ref d), .unset] [(.int (0 : Int32))])
  refine B (fun tgt kt => XS.istoreN S.here S.hx rfl (hb hby y_fc_d6) rfl (l' := #[.val (.ref x), .val (.ref d), .val (.int (0 : Int32))]) rfl kt) ?_
  show F T (mkF m 7 #[.val (.ref x), .val (.ref d), .val (.int (0 : Int32))] [])
  show F T (mkF m 7 #[.val (.ref x), .val (.ref d), .val (.int (Int32.ofNat 0))] [])
  refine y_fcl hw hEW B hby hml cs hn hbd x d kd (by simp) cs.length 0 T _ (by omega) S trivial (by rw [own_vs0]; exact Vd) fun T h2 S K Vd => ?_
  rw [own_vsn] at Vd
  replace KK := KK.trans K (qk1 (by first | (refine Or.inl ?_; simp; done) | (refine Or.inr ?_; omega)))
  have ld := natlt Vd.lt
  have gk := KK.1
  show F T (mkF m 45 #[.val (.ref x), .val (.ref d), .val (.int (Int32.ofNat cs.length))] [])
  refine Sp.newO B S (hw _ (List.mem_of_getElem? (i := 52) rfl)) (hw _ (List.mem_of_getElem? (i := 3) rfl)) (hw _ (List.mem_of_getElem? (i := 4) rfl)) (hb hby y_fc_d45) (by decide) (by decide) fun T h3 y S E gy Ay D => ?_
  have O : Ob Z a0 h3 y "java/lang/String" [("java/lang/String", "value", "[B", .null), ("java/lang/String", "coder", "B", (.int 0))] := Ob.new Ay D [("java/lang/String", "value", "[B", (.array .byte)), ("java/lang/String", "coder", "B", .byte)] (all_cons ⟨(Or.inr (hw _ (List.mem_of_getElem? (i := 30) rfl))), by decide⟩ (all_cons ⟨(Or.inr (hw _ (List.mem_of_getElem? (i := 28) rfl))), by decide⟩ all_nil))
  show F T (mkF m 48 #[.val (.ref x), .val (.ref d), .val (.int (Int32.ofNat cs.length))] [(.ref y)])
  replace Vd := Vd.ext E
  replace KK := KK.ext E
  have ly := natlt O.lt
  refine B (fun tgt kt => XS.dup S.here S.hx rfl (hb hby y_fc_d48) rfl rfl kt) ?_
  show F T (mkF m 49 #[.val (.ref x), .val (.ref d), .val (.int (Int32.ofNat cs.length))] [(.ref y), (.ref y)])
  refine B (fun tgt kt => XS.aloadN S.here S.hx rfl (hb hby y_fc_d49) rfl rfl kt) ?_
  show F T (mkF m 50 #[.val (.ref x), .val (.ref d), .val (.int (Int32.ofNat cs.length))] [(.ref d), (.ref y), (.ref y)])
  have el : (cs.map own_fold).length = cs.length := List.length_map ..
  rw [← el] at Vd
  refine Sp.special B S (y := (⟨"java/lang/String", "<init>", "([C)V"⟩ : MethodName)) (argsL := [(.ref d)]) (rest := [(.ref y)]) rfl (hw _ (List.mem_of_getElem? (i := 53) rfl)) (hw _ (List.mem_of_getElem? (i := 6) rfl)) (hw _ (List.mem_of_getElem? (i := 7) rfl)) (by decide) (own_new (W := 1) Z a0 EL hw hEW h3 hS hmem zc CS hzc AD HI LO (cs.map own_fold) (by rw [el]; exact hn) (fun q hq => by obtain ⟨z, hz, rfl⟩ := List.mem_map.mp hq; exact own_foldb (hbd z hz)) y d (natne (by omega)) (S.isnew (by simp)) S.old _ _ O kd _ Vd (by decide) (by decide)) (by simp) (by decide) (by decide) (by rw [hml]; rfl) (lenOf y_fc_p98 rfl) rfl (Nat.le_of_eq rfl) (hb hby y_fc_d50) fun v T h4 nw S hQ => ?_
  obtain ⟨rfl, rfl, K, ty, ne, G⟩ := hQ
  replace KK := KK.trans K (qk1 (by first | (refine Or.inl ?_; simp; done) | (refine Or.inr ?_; omega)))
  show F T (mkF m 53 #[.val (.ref x), .val (.ref d), .val (.int (Int32.ofNat cs.length))] [(.ref y)])
  exact hF ((S.mono (by decide) (by decide)).retA hr hlk rfl rfl (hb hby y_fc_d53) (nw := []) ⟨y, ty, rfl, rfl, KK, G⟩ (by simp))
theorem y_ex_d0 : decode method_2_code 0 = .ok (.iload_n 0, 1) := by decide +kernel
theorem y_ex_d1 : decode method_2_code 1 = .ok (.bipush 65, 2) := by decide +kernel
theorem y_ex_d3 : decode method_2_code 3 = .ok (.if_icmp .ge 5, 3) := by decide +kernel
theorem y_ex_d6 : decode method_2_code 6 = .ok (.iload_n 0, 1) := by decide +kernel
theorem y_ex_d7 : decode method_2_code 7 = .ok (.ireturn, 1) := by decide +kernel
theorem y_ex_d8 : decode method_2_code 8 = .ok (.iload_n 0, 1) := by decide +kernel
theorem y_ex_d9 : decode method_2_code 9 = .ok (.bipush 90, 2) := by decide +kernel
theorem y_ex_d11 : decode method_2_code 11 = .ok (.if_icmp .le 5, 3) := by decide +kernel
theorem y_ex_d14 : decode method_2_code 14 = .ok (.iload_n 0, 1) := by decide +kernel
theorem y_ex_d15 : decode method_2_code 15 = .ok (.ireturn, 1) := by decide +kernel
theorem y_ex_d16 : decode method_2_code 16 = .ok (.iload_n 0, 1) := by decide +kernel
theorem y_ex_d17 : decode method_2_code 17 = .ok (.bipush 65, 2) := by decide +kernel
theorem y_ex_d19 : decode method_2_code 19 = .ok (.isub, 1) := by decide +kernel
theorem y_ex_d20 : decode method_2_code 20 = .ok (.bipush 97, 2) := by decide +kernel
theorem y_ex_d22 : decode method_2_code 22 = .ok (.iadd, 1) := by decide +kernel
theorem y_ex_d23 : decode method_2_code 23 = .ok (.i2c, 1) := by decide +kernel
theorem y_ex_d24 : decode method_2_code 24 = .ok (.ireturn, 1) := by decide +kernel
theorem y_ex_ef (m : MethodId) (q : Int32) : entryFrame m #[(.int q)] 1 = mkF m 0 #[.val (.int q)] [] := by first | (simp [entryFrame, mkF, argsToLocals, Value.category]; done) | rfl
theorem y_ex_pn : plainFor (⟨"com/example/perdura/perdura/store/TableLayoutFoldCasePinLaw", "expected", "(C)C"⟩ : MethodName) = true := by first | exact plainFor_of_name (by first | (simp [plainName, overriddenIn]; done) | decide +kernel) | decide +kernel
set_option maxRecDepth 65536 in
set_option maxHeartbeats 40000000 in
theorem y_ex (l : Launch) (Z : State) (a0 : Array Value) (EL : List (String × Nat)) (hw : ∀ d ∈ tables_1, d.before a0 Z = true) (hEW : EW Z a0 EL) (h : Heap) (q : Int32) (hbq : ¬ q < 0 ∧ ¬ (65535 : Int32) < q) :
    Con l Z EL (⟨"com/example/perdura/perdura/store/TableLayoutFoldCasePinLaw", "expected", "(C)C"⟩ : MethodName) method_2_code 1 (some .char) ({ frames := 0, cells := 0, slots := 0, locals := 0 } : Room) #[(.int q)] h [] (fun v h' nw => v = some (.int (own_fold q)) ∧ nw = [] ∧ h = h') := by
  refine Con.of y_ex_pn hEW ?_
  intro p e s m below meth c T F B hF hby hml hr hlk hnm S
  rw [y_ex_ef]
  show F T (mkF m 0 #[.val (.int q)] [])
  have hfb := own_foldb hbq
  have nr : narrow .char (.int (own_fold q)) = .int (own_fold q) := StrChars.narrow_ch hfb.1 hfb.2
  refine B (fun tgt kt => XS.iloadN S.here S.hx rfl (hb hby y_ex_d0) rfl kt) ?_
  show F T (mkF m 1 #[.val (.int q)] [(.int q)])
  refine B (fun tgt kt => XS.bipush S.here S.hx rfl (hb hby y_ex_d1) kt) ?_
  show F T (mkF m 3 #[.val (.int q)] [(.int (65 : Int32)), (.int q)])
  by_cases g1 : q < 65
  case pos =>
    refine B (fun tgt kt => XS.icmpNo S.here S.hx rfl (hb hby y_ex_d3) rfl (ii_ge_f g1) kt) ?_
    show F T (mkF m 6 #[.val (.int q)] [])
    refine B (fun tgt kt => XS.iloadN S.here S.hx rfl (hb hby y_ex_d6) rfl kt) ?_
    show F T (mkF m 7 #[.val (.int q)] [(.int q)])
    have hf : q = own_fold q := by simp [own_fold, g1]
    exact hF (S.retI hr hlk (by simp) (StrChars.narrow_ch hbq.1 hbq.2) (hb hby y_ex_d7) (nw := []) ⟨congrArg (fun z => some (Value.int z)) hf, rfl, rfl⟩ (by simp))
  refine B (fun tgt kt => XS.icmpYes S.here S.hx rfl (pc0 := 3) (pc' := 8) rfl (hb hby y_ex_d3) rfl (ii_ge_t g1) (by decide) (by decide) kt) ?_
  show F T (mkF m 8 #[.val (.int q)] [])
  refine B (fun tgt kt => XS.iloadN S.here S.hx rfl (hb hby y_ex_d8) rfl kt) ?_
  show F T (mkF m 9 #[.val (.int q)] [(.int q)])
  refine B (fun tgt kt => XS.bipush S.here S.hx rfl (hb hby y_ex_d9) kt) ?_
  show F T (mkF m 11 #[.val (.int q)] [(.int (90 : Int32)), (.int q)])
  by_cases g2 : (90 : Int32) < q
  case pos =>
    refine B (fun tgt kt => XS.icmpNo S.here S.hx rfl (hb hby y_ex_d11) rfl (ii_le_f g2) kt) ?_
    show F T (mkF m 14 #[.val (.int q)] [])
    refine B (fun tgt kt => XS.iloadN S.here S.hx rfl (hb hby y_ex_d14) rfl kt) ?_
    show F T (mkF m 15 #[.val (.int q)] [(.int q)])
    have hf : q = own_fold q := by simp [own_fold, g1, g2]
    exact hF (S.retI hr hlk (by simp) (StrChars.narrow_ch hbq.1 hbq.2) (hb hby y_ex_d15) (nw := []) ⟨congrArg (fun z => some (Value.int z)) hf, rfl, rfl⟩ (by simp))
  refine B (fun tgt kt => XS.icmpYes S.here S.hx rfl (pc0 := 11) (pc' := 16) rfl (hb hby y_ex_d11) rfl (ii_le_t g2) (by decide) (by decide) kt) ?_
  show F T (mkF m 16 #[.val (.int q)] [])
  refine B (fun tgt kt => XS.iloadN S.here S.hx rfl (hb hby y_ex_d16) rfl kt) ?_
  show F T (mkF m 17 #[.val (.int q)] [(.int q)])
  refine B (fun tgt kt => XS.bipush S.here S.hx rfl (hb hby y_ex_d17) kt) ?_
  show F T (mkF m 19 #[.val (.int q)] [(.int (65 : Int32)), (.int q)])
  refine B (fun tgt kt => XS.isub S.here S.hx rfl (hb hby y_ex_d19) rfl kt) ?_
  show F T (mkF m 20 #[.val (.int q)] [(.int (q - (65 : Int32)))])
  refine B (fun tgt kt => XS.bipush S.here S.hx rfl (hb hby y_ex_d20) kt) ?_
  show F T (mkF m 22 #[.val (.int q)] [(.int (97 : Int32)), (.int (q - (65 : Int32)))])
  refine B (fun tgt kt => XS.iadd S.here S.hx rfl (hb hby y_ex_d22) rfl kt) ?_
  show F T (mkF m 23 #[.val (.int q)] [(.int ((q - (65 : Int32)) + (97 : Int32)))])
  refine B (fun tgt kt => XT.i2c S.here S.hx rfl (hb hby y_ex_d23) rfl kt) ?_
  show F T (mkF m 24 #[.val (.int q)] [(.int ((q - (65 : Int32)) + (97 : Int32)).toUInt32.toUInt16.toUInt32.toInt32)])
  have hf : (q - 65 + 97).toUInt32.toUInt16.toUInt32.toInt32 = own_fold q := by rw [own_sh]; simp only [own_fold, g1, g2, if_false]
  rw [hf]
  exact hF (S.retI hr hlk (by simp) nr (hb hby y_ex_d24) (nw := []) ⟨rfl, rfl, rfl⟩ (by simp))
theorem lw_p10 : parseMethodDescriptor "([C)V" = some ⟨[(.array .char)], none⟩ := by decide +kernel
theorem lw_p13 : parseMethodDescriptor "(Ljava/lang/String;)Ljava/lang/String;" = some ⟨[(.object "java/lang/String")], (some (.object "java/lang/String"))⟩ := by decide +kernel
theorem lw_p19 : parseMethodDescriptor "()I" = some ⟨[], (some .int)⟩ := by decide +kernel
theorem lw_p23 : parseMethodDescriptor "(I)C" = some ⟨[.int], (some .char)⟩ := by decide +kernel
theorem lw_p27 : parseMethodDescriptor "(C)C" = some ⟨[.char], (some .char)⟩ := by decide +kernel
theorem lw_p33 : parseMethodDescriptor "()Z" = some ⟨[], (some .boolean)⟩ := by decide +kernel
theorem own_lef (m : MethodId) (i0 i1 : Int32) : entryFrame m #[.int i0, .int i1] 10 = mkF m 0 #[.val (.int i0), .val (.int i1), .unset, .unset, .unset, .unset, .unset, .unset, .unset, .unset] [] := by first | (simp [entryFrame, mkF, argsToLocals, Value.category]; done) | rfl
theorem own_lpn : plainFor (⟨"com/example/perdura/perdura/store/TableLayoutFoldCasePinLaw", "law", "(II)Z"⟩ : MethodName) = true := by first | exact plainFor_of_name (by first | (simp [plainName, overriddenIn]; done) | decide +kernel) | decide +kernel
set_option maxRecDepth 65536 in
set_option maxHeartbeats 40000000 in
theorem own_law (l : Launch) (Z : State) (a0 : Array Value) (hw : ∀ d ∈ tables_1, d.before a0 Z = true) (hEW : EW Z a0 consts_1) (zc : Int32) (CS : Sta Z Z.heap "java/lang/String" "COMPACT_STRINGS" "Z" (.int zc)) (hzc : ¬ zc = 0) (fm : Value) (SF : Sta Z Z.heap "jdk/internal/util/Preconditions" "SIOOBE_FORMATTER" "Ljava/util/function/BiFunction;" fm) (hfm : fm.isRef = true) (AD : Sta Z Z.heap "java/lang/StringUTF16" "$assertionsDisabled" "Z" (.int 1)) (HI : Sta Z Z.heap "java/lang/StringUTF16" "HI_BYTE_SHIFT" "I" (.int 0)) (LO : Sta Z Z.heap "java/lang/StringUTF16" "LO_BYTE_SHIFT" "I" (.int 8)) (i0 i1 : Int32) :
    Con l Z consts_1 (⟨"com/example/perdura/perdura/store/TableLayoutFoldCasePinLaw", "law", "(II)Z"⟩ : MethodName) code 10 (some .boolean) room_1 #[.int i0, .int i1] Z.heap [] (fun v _ _ => v = some (.int 1)) := by
  have hS : ∀ d ∈ Bundle.stringAtoms, d.before a0 Z = true := fun d hd => hw d ((by decide +kernel : ∀ d ∈ Bundle.stringAtoms, d ∈ tables_1) d hd)
  have hln : ∀ d ∈ StrChars.Road.wordsLen, d.before a0 Z = true := fun d hd => hw d ((by decide +kernel : ∀ d ∈ StrChars.Road.wordsLen, d ∈ tables_1) d hd)
  have hem : ∀ d ∈ StrChars.Road.wordsEmp, d.before a0 Z = true := fun d hd => hw d ((by decide +kernel : ∀ d ∈ StrChars.Road.wordsEmp, d ∈ tables_1) d hd)
  have hmem : ("java/lang/String", 7) ∈ consts_1 := by decide
  refine Con.of own_lpn hEW ?_
  intro p e s m below meth c T F B hF hby hml hr hlk hnm S
  rw [own_lef]
  show F T (mkF m 0 #[.val (.int i0), .val (.int i1), .unset, .unset, .unset, .unset, .unset, .unset, .unset, .unset] [])
  refine B (fun tgt kt => XS.iloadN S.here S.hx rfl (hb hby at_0) rfl kt) ?_
  show F T (mkF m 1 #[.val (.int i0), .val (.int i1), .unset, .unset, .unset, .unset, .unset, .unset, .unset, .unset] [(.int i0)])
  refine Sp.ldcI B S (hw _ (List.mem_of_getElem? (i := 0) rfl)) (hb hby at_1) ?_
  show F T (mkF m 3 #[.val (.int i0), .val (.int i1), .unset, .unset, .unset, .unset, .unset, .unset, .unset, .unset] [(.int (65535 : Int32)), (.int i0)])
  refine B (fun tgt kt => XS.iand S.here S.hx rfl (hb hby at_3) rfl kt) ?_
  show F T (mkF m 4 #[.val (.int i0), .val (.int i1), .unset, .unset, .unset, .unset, .unset, .unset, .unset, .unset] [(.int (i0 &&& (65535 : Int32)))])
  refine B (fun tgt kt => XT.i2c S.here S.hx rfl (hb hby at_4) rfl kt) ?_
  show F T (mkF m 5 #[.val (.int i0), .val (.int i1), .unset, .unset, .unset, .unset, .unset, .unset, .unset, .unset] [(.int (i0 &&& (65535 : Int32)).toUInt32.toUInt16.toUInt32.toInt32)])
  obtain ⟨c0, ec0⟩ : ∃ q, q = (i0 &&& (65535 : Int32)).toUInt32.toUInt16.toUInt32.toInt32 := ⟨_, rfl⟩
  have b0 : ¬ c0 < 0 ∧ ¬ (65535 : Int32) < c0 := by rw [ec0]; exact own_c16 _
  rw [← ec0]
  show F T (mkF m 5 #[.val (.int i0), .val (.int i1), .unset, .unset, .unset, .unset, .unset, .unset, .unset, .unset] [(.int c0)])
  refine B (fun tgt kt => XS.istoreN S.here S.hx rfl (hb hby at_5) rfl (l' := #[.val (.int i0), .val (.int i1), .val (.int c0), .unset, .unset, .unset, .unset, .unset, .unset, .unset]) rfl kt) ?_
  show F T (mkF m 6 #[.val (.int i0), .val (.int i1), .val (.int c0), .unset, .unset, .unset, .unset, .unset, .unset, .unset] [])
  refine B (fun tgt kt => XS.iloadN S.here S.hx rfl (hb hby at_6) rfl kt) ?_
  show F T (mkF m 7 #[.val (.int i0), .val (.int i1), .val (.int c0), .unset, .unset, .unset, .unset, .unset, .unset, .unset] [(.int i0)])
  refine B (fun tgt kt => XS.bipush S.here S.hx rfl (hb hby at_7) kt) ?_
  show F T (mkF m 9 #[.val (.int i0), .val (.int i1), .val (.int c0), .unset, .unset, .unset, .unset, .unset, .unset, .unset] [(.int (16 : Int32)), (.int i0)])
  refine B (fun tgt kt => XT.iushr S.here S.hx rfl (hb hby at_9) rfl kt) ?_
  show F T (mkF m 10 #[.val (.int i0), .val (.int i1), .val (.int c0), .unset, .unset, .unset, .unset, .unset, .unset, .unset] [(.int (i0.toUInt32 >>> ((16 : Int32) &&& 31).toUInt32).toInt32)])
  refine Sp.ldcI B S (hw _ (List.mem_of_getElem? (i := 0) rfl)) (hb hby at_10) ?_
  show F T (mkF m 12 #[.val (.int i0), .val (.int i1), .val (.int c0), .unset, .unset, .unset, .unset, .unset, .unset, .unset] [(.int (65535 : Int32)), (.int (i0.toUInt32 >>> ((16 : Int32) &&& 31).toUInt32).toInt32)])
  refine B (fun tgt kt => XS.iand S.here S.hx rfl (hb hby at_12) rfl kt) ?_
  show F T (mkF m 13 #[.val (.int i0), .val (.int i1), .val (.int c0), .unset, .unset, .unset, .unset, .unset, .unset, .unset] [(.int ((i0.toUInt32 >>> ((16 : Int32) &&& 31).toUInt32).toInt32 &&& (65535 : Int32)))])
  refine B (fun tgt kt => XT.i2c S.here S.hx rfl (hb hby at_13) rfl kt) ?_
  show F T (mkF m 14 #[.val (.int i0), .val (.int i1), .val (.int c0), .unset, .unset, .unset, .unset, .unset, .unset, .unset] [(.int ((i0.toUInt32 >>> ((16 : Int32) &&& 31).toUInt32).toInt32 &&& (65535 : Int32)).toUInt32.toUInt16.toUInt32.toInt32)])
  obtain ⟨c1, ec1⟩ : ∃ q, q = ((i0.toUInt32 >>> ((16 : Int32) &&& 31).toUInt32).toInt32 &&& (65535 : Int32)).toUInt32.toUInt16.toUInt32.toInt32 := ⟨_, rfl⟩
  have b1 : ¬ c1 < 0 ∧ ¬ (65535 : Int32) < c1 := by rw [ec1]; exact own_c16 _
  rw [← ec1]
  show F T (mkF m 14 #[.val (.int i0), .val (.int i1), .val (.int c0), .unset, .unset, .unset, .unset, .unset, .unset, .unset] [(.int c1)])
  refine B (fun tgt kt => XS.istoreN S.here S.hx rfl (hb hby at_14) rfl (l' := #[.val (.int i0), .val (.int i1), .val (.int c0), .val (.int c1), .unset, .unset, .unset, .unset, .unset, .unset]) rfl kt) ?_
  show F T (mkF m 15 #[.val (.int i0), .val (.int i1), .val (.int c0), .val (.int c1), .unset, .unset, .unset, .unset, .unset, .unset] [])
  refine B (fun tgt kt => XS.iloadN S.here S.hx rfl (hb hby at_15) rfl kt) ?_
  show F T (mkF m 16 #[.val (.int i0), .val (.int i1), .val (.int c0), .val (.int c1), .unset, .unset, .unset, .unset, .unset, .unset] [(.int i1)])
  refine Sp.ldcI B S (hw _ (List.mem_of_getElem? (i := 0) rfl)) (hb hby at_16) ?_
  show F T (mkF m 18 #[.val (.int i0), .val (.int i1), .val (.int c0), .val (.int c1), .unset, .unset, .unset, .unset, .unset, .unset] [(.int (65535 : Int32)), (.int i1)])
  refine B (fun tgt kt => XS.iand S.here S.hx rfl (hb hby at_18) rfl kt) ?_
  show F T (mkF m 19 #[.val (.int i0), .val (.int i1), .val (.int c0), .val (.int c1), .unset, .unset, .unset, .unset, .unset, .unset] [(.int (i1 &&& (65535 : Int32)))])
  refine B (fun tgt kt => XT.i2c S.here S.hx rfl (hb hby at_19) rfl kt) ?_
  show F T (mkF m 20 #[.val (.int i0), .val (.int i1), .val (.int c0), .val (.int c1), .unset, .unset, .unset, .unset, .unset, .unset] [(.int (i1 &&& (65535 : Int32)).toUInt32.toUInt16.toUInt32.toInt32)])
  obtain ⟨c2, ec2⟩ : ∃ q, q = (i1 &&& (65535 : Int32)).toUInt32.toUInt16.toUInt32.toInt32 := ⟨_, rfl⟩
  have b2 : ¬ c2 < 0 ∧ ¬ (65535 : Int32) < c2 := by rw [ec2]; exact own_c16 _
  rw [← ec2]
  show F T (mkF m 20 #[.val (.int i0), .val (.int i1), .val (.int c0), .val (.int c1), .unset, .unset, .unset, .unset, .unset, .unset] [(.int c2)])
  refine B (fun tgt kt => XS.istore S.here S.hx rfl (hb hby at_20) rfl (l' := #[.val (.int i0), .val (.int i1), .val (.int c0), .val (.int c1), .val (.int c2), .unset, .unset, .unset, .unset, .unset]) rfl kt) ?_
  show F T (mkF m 22 #[.val (.int i0), .val (.int i1), .val (.int c0), .val (.int c1), .val (.int c2), .unset, .unset, .unset, .unset, .unset] [])
  refine B (fun tgt kt => XS.iloadN S.here S.hx rfl (hb hby at_22) rfl kt) ?_
  show F T (mkF m 23 #[.val (.int i0), .val (.int i1), .val (.int c0), .val (.int c1), .val (.int c2), .unset, .unset, .unset, .unset, .unset] [(.int i1)])
  refine B (fun tgt kt => XS.bipush S.here S.hx rfl (hb hby at_23) kt) ?_
  show F T (mkF m 25 #[.val (.int i0), .val (.int i1), .val (.int c0), .val (.int c1), .val (.int c2), .unset, .unset, .unset, .unset, .unset] [(.int (16 : Int32)), (.int i1)])
  refine B (fun tgt kt => XT.iushr S.here S.hx rfl (hb hby at_25) rfl kt) ?_
  show F T (mkF m 26 #[.val (.int i0), .val (.int i1), .val (.int c0), .val (.int c1), .val (.int c2), .unset, .unset, .unset, .unset, .unset] [(.int (i1.toUInt32 >>> ((16 : Int32) &&& 31).toUInt32).toInt32)])
  refine Sp.ldcI B S (hw _ (List.mem_of_getElem? (i := 0) rfl)) (hb hby at_26) ?_
  show F T (mkF m 28 #[.val (.int i0), .val (.int i1), .val (.int c0), .val (.int c1), .val (.int c2), .unset, .unset, .unset, .unset, .unset] [(.int (65535 : Int32)), (.int (i1.toUInt32 >>> ((16 : Int32) &&& 31).toUInt32).toInt32)])
  refine B (fun tgt kt => XS.iand S.here S.hx rfl (hb hby at_28) rfl kt) ?_
  show F T (mkF m 29 #[.val (.int i0), .val (.int i1), .val (.int c0), .val (.int c1), .val (.int c2), .unset, .unset, .unset, .unset, .unset] [(.int ((i1.toUInt32 >>> ((16 : Int32) &&& 31).toUInt32).toInt32 &&& (65535 : Int32)))])
  refine B (fun tgt kt => XT.i2c S.here S.hx rfl (hb hby at_29) rfl kt) ?_
  show F T (mkF m 30 #[.val (.int i0), .val (.int i1), .val (.int c0), .val (.int c1), .val (.int c2), .unset, .unset, .unset, .unset, .unset] [(.int ((i1.toUInt32 >>> ((16 : Int32) &&& 31).toUInt32).toInt32 &&& (65535 : Int32)).toUInt32.toUInt16.toUInt32.toInt32)])
  obtain ⟨c3, ec3⟩ : ∃ q, q = ((i1.toUInt32 >>> ((16 : Int32) &&& 31).toUInt32).toInt32 &&& (65535 : Int32)).toUInt32.toUInt16.toUInt32.toInt32 := ⟨_, rfl⟩
  have b3 : ¬ c3 < 0 ∧ ¬ (65535 : Int32) < c3 := by rw [ec3]; exact own_c16 _
  rw [← ec3]
  show F T (mkF m 30 #[.val (.int i0), .val (.int i1), .val (.int c0), .val (.int c1), .val (.int c2), .unset, .unset, .unset, .unset, .unset] [(.int c3)])
  refine B (fun tgt kt => XS.istore S.here S.hx rfl (hb hby at_30) rfl (l' := #[.val (.int i0), .val (.int i1), .val (.int c0), .val (.int c1), .val (.int c2), .val (.int c3), .unset, .unset, .unset, .unset]) rfl kt) ?_
  show F T (mkF m 32 #[.val (.int i0), .val (.int i1), .val (.int c0), .val (.int c1), .val (.int c2), .val (.int c3), .unset, .unset, .unset, .unset] [])
  refine B (fun tgt kt => XS.iconst S.here S.hx rfl (hb hby at_32) kt) ?_
  show F T (mkF m 33 #[.val (.int i0), .val (.int i1), .val (.int c0), .val (.int c1), .val (.int c2), .val (.int c3), .unset, .unset, .unset, .unset] [(.int (4 : Int32))])
  refine Sp.newP B S (cap := 4) (hw _ (List.mem_of_getElem? (i := 1) rfl)) (hb hby at_33) (by decide) (by decide) (by decide) (by decide) (by decide) (ad := "[C") (by decide) fun T h1 b kb S E gb Xb V => ?_
  show F T (mkF m 35 #[.val (.int i0), .val (.int i1), .val (.int c0), .val (.int c1), .val (.int c2), .val (.int c3), .unset, .unset, .unset, .unset] [(.ref b)])
  have lb := natlt V.lt
  replace V : Arv Z h1 b kb .char 4 [.int 0, .int 0, .int 0, .int 0] (.int 0) := V.pad (pad_rep [] (.int 0) 4)
  refine B (fun tgt kt => XS.astore S.here S.hx rfl (hb hby at_35) rfl rfl (l' := #[.val (.int i0), .val (.int i1), .val (.int c0), .val (.int c1), .val (.int c2), .val (.int c3), .val (.ref b), .unset, .unset, .unset]) rfl kt) ?_
  show F T (mkF m 37 #[.val (.int i0), .val (.int i1), .val (.int c0), .val (.int c1), .val (.int c2), .val (.int c3), .val (.ref b), .unset, .unset, .unset] [])
  refine B (fun tgt kt => XS.aload S.here S.hx rfl (hb hby at_37) rfl rfl kt) ?_
  show F T (mkF m 39 #[.val (.int i0), .val (.int i1), .val (.int c0), .val (.int c1), .val (.int c2), .val (.int c3), .val (.ref b), .unset, .unset, .unset] [(.ref b)])
  refine B (fun tgt kt => XS.iconst S.here S.hx rfl (hb hby at_39) kt) ?_
  show F T (mkF m 40 #[.val (.int i0), .val (.int i1), .val (.int c0), .val (.int c1), .val (.int c2), .val (.int c3), .val (.ref b), .unset, .unset, .unset] [(.int (0 : Int32)), (.ref b)])
  refine B (fun tgt kt => XS.iloadN S.here S.hx rfl (hb hby at_40) rfl kt) ?_
  show F T (mkF m 41 #[.val (.int i0), .val (.int i1), .val (.int c0), .val (.int c1), .val (.int c2), .val (.int c3), .val (.ref b), .unset, .unset, .unset] [(.int c0), (.int (0 : Int32)), (.ref b)])
  refine Sp.stC B S V (i := 0) (by decide) (by decide) (by simp) (own_narc b0) (by simp) (hb hby at_41) fun T h2 S W V => ?_
  replace V : Arv Z h2 b kb .char 4 [.int c0, .int 0, .int 0, .int 0] (.int 0) := V
  show F T (mkF m 42 #[.val (.int i0), .val (.int i1), .val (.int c0), .val (.int c1), .val (.int c2), .val (.int c3), .val (.ref b), .unset, .unset, .unset] [])
  refine B (fun tgt kt => XS.aload S.here S.hx rfl (hb hby at_42) rfl rfl kt) ?_
  show F T (mkF m 44 #[.val (.int i0), .val (.int i1), .val (.int c0), .val (.int c1), .val (.int c2), .val (.int c3), .val (.ref b), .unset, .unset, .unset] [(.ref b)])
  refine B (fun tgt kt => XS.iconst S.here S.hx rfl (hb hby at_44) kt) ?_
  show F T (mkF m 45 #[.val (.int i0), .val (.int i1), .val (.int c0), .val (.int c1), .val (.int c2), .val (.int c3), .val (.ref b), .unset, .unset, .unset] [(.int (1 : Int32)), (.ref b)])
  refine B (fun tgt kt => XS.iloadN S.here S.hx rfl (hb hby at_45) rfl kt) ?_
  show F T (mkF m 46 #[.val (.int i0), .val (.int i1), .val (.int c0), .val (.int c1), .val (.int c2), .val (.int c3), .val (.ref b), .unset, .unset, .unset] [(.int c1), (.int (1 : Int32)), (.ref b)])
  refine Sp.stC B S V (i := 1) (by decide) (by decide) (by simp) (own_narc b1) (by simp) (hb hby at_46) fun T h3 S W V => ?_
  replace V : Arv Z h3 b kb .char 4 [.int c0, .int c1, .int 0, .int 0] (.int 0) := V
  show F T (mkF m 47 #[.val (.int i0), .val (.int i1), .val (.int c0), .val (.int c1), .val (.int c2), .val (.int c3), .val (.ref b), .unset, .unset, .unset] [])
  refine B (fun tgt kt => XS.aload S.here S.hx rfl (hb hby at_47) rfl rfl kt) ?_
  show F T (mkF m 49 #[.val (.int i0), .val (.int i1), .val (.int c0), .val (.int c1), .val (.int c2), .val (.int c3), .val (.ref b), .unset, .unset, .unset] [(.ref b)])
  refine B (fun tgt kt => XS.iconst S.here S.hx rfl (hb hby at_49) kt) ?_
  show F T (mkF m 50 #[.val (.int i0), .val (.int i1), .val (.int c0), .val (.int c1), .val (.int c2), .val (.int c3), .val (.ref b), .unset, .unset, .unset] [(.int (2 : Int32)), (.ref b)])
  refine B (fun tgt kt => XS.iload S.here S.hx rfl (hb hby at_50) rfl kt) ?_
  show F T (mkF m 52 #[.val (.int i0), .val (.int i1), .val (.int c0), .val (.int c1), .val (.int c2), .val (.int c3), .val (.ref b), .unset, .unset, .unset] [(.int c2), (.int (2 : Int32)), (.ref b)])
  refine Sp.stC B S V (i := 2) (by decide) (by decide) (by simp) (own_narc b2) (by simp) (hb hby at_52) fun T h4 S W V => ?_
  replace V : Arv Z h4 b kb .char 4 [.int c0, .int c1, .int c2, .int 0] (.int 0) := V
  show F T (mkF m 53 #[.val (.int i0), .val (.int i1), .val (.int c0), .val (.int c1), .val (.int c2), .val (.int c3), .val (.ref b), .unset, .unset, .unset] [])
  refine B (fun tgt kt => XS.aload S.here S.hx rfl (hb hby at_53) rfl rfl kt) ?_
  show F T (mkF m 55 #[.val (.int i0), .val (.int i1), .val (.int c0), .val (.int c1), .val (.int c2), .val (.int c3), .val (.ref b), .unset, .unset, .unset] [(.ref b)])
  refine B (fun tgt kt => XS.iconst S.here S.hx rfl (hb hby at_55) kt) ?_
  show F T (mkF m 56 #[.val (.int i0), .val (.int i1), .val (.int c0), .val (.int c1), .val (.int c2), .val (.int c3), .val (.ref b), .unset, .unset, .unset] [(.int (3 : Int32)), (.ref b)])
  refine B (fun tgt kt => XS.iload S.here S.hx rfl (hb hby at_56) rfl kt) ?_
  show F T (mkF m 58 #[.val (.int i0), .val (.int i1), .val (.int c0), .val (.int c1), .val (.int c2), .val (.int c3), .val (.ref b), .unset, .unset, .unset] [(.int c3), (.int (3 : Int32)), (.ref b)])
  refine Sp.stC B S V (i := 3) (by decide) (by decide) (by simp) (own_narc b3) (by simp) (hb hby at_58) fun T h5 S W V => ?_
  replace V : Arv Z h5 b kb .char 4 [.int c0, .int c1, .int c2, .int c3] (.int 0) := V
  show F T (mkF m 59 #[.val (.int i0), .val (.int i1), .val (.int c0), .val (.int c1), .val (.int c2), .val (.int c3), .val (.ref b), .unset, .unset, .unset] [])
  have lb := natlt V.lt
  refine Sp.newO B S (hw _ (List.mem_of_getElem? (i := 2) rfl)) (hw _ (List.mem_of_getElem? (i := 3) rfl)) (hw _ (List.mem_of_getElem? (i := 4) rfl)) (hb hby at_59) (by decide) (by decide) fun T h6 x S E gx Ax D => ?_
  have O : Ob Z a0 h6 x "java/lang/String" [("java/lang/String", "value", "[B", .null), ("java/lang/String", "coder", "B", (.int 0))] := Ob.new Ax D [("java/lang/String", "value", "[B", (.array .byte)), ("java/lang/String", "coder", "B", .byte)] (all_cons ⟨(Or.inr (hw _ (List.mem_of_getElem? (i := 30) rfl))), by decide⟩ (all_cons ⟨(Or.inr (hw _ (List.mem_of_getElem? (i := 28) rfl))), by decide⟩ all_nil))
  show F T (mkF m 62 #[.val (.int i0), .val (.int i1), .val (.int c0), .val (.int c1), .val (.int c2), .val (.int c3), .val (.ref b), .unset, .unset, .unset] [(.ref x)])
  replace V := V.ext E
  have lx := natlt O.lt
  refine B (fun tgt kt => XS.dup S.here S.hx rfl (hb hby at_62) rfl rfl kt) ?_
  show F T (mkF m 63 #[.val (.int i0), .val (.int i1), .val (.int c0), .val (.int c1), .val (.int c2), .val (.int c3), .val (.ref b), .unset, .unset, .unset] [(.ref x), (.ref x)])
  refine B (fun tgt kt => XS.aload S.here S.hx rfl (hb hby at_63) rfl rfl kt) ?_
  show F T (mkF m 65 #[.val (.int i0), .val (.int i1), .val (.int c0), .val (.int c1), .val (.int c2), .val (.int c3), .val (.ref b), .unset, .unset, .unset] [(.ref b), (.ref x), (.ref x)])
  have hcs : ∀ q ∈ [c0, c1, c2, c3], ¬ q < 0 ∧ ¬ (65535 : Int32) < q := all_cons b0 (all_cons b1 (all_cons b2 (all_cons b3 all_nil)))
  refine Sp.special B S (y := (⟨"java/lang/String", "<init>", "([C)V"⟩ : MethodName)) (argsL := [(.ref b)]) (rest := [(.ref x)]) rfl (hw _ (List.mem_of_getElem? (i := 5) rfl)) (hw _ (List.mem_of_getElem? (i := 6) rfl)) (hw _ (List.mem_of_getElem? (i := 7) rfl)) (by decide) (own_new (W := 1) Z a0 consts_1 hw hEW h6 hS hmem zc CS hzc AD HI LO [c0, c1, c2, c3] (by show 4 ≤ 8; decide) hcs x b (natne (by omega)) (S.isnew (by simp)) S.old _ _ O kb _ V (by decide) (by decide)) (by simp) (by decide) (by decide) (by rw [hml]; rfl) (lenOf lw_p10 rfl) rfl (Nat.le_of_eq rfl) (hb hby at_65) fun v T h7 nw S hQ => ?_
  obtain ⟨rfl, rfl, K, t, ne, G⟩ := hQ
  show F T (mkF m 68 #[.val (.int i0), .val (.int i1), .val (.int c0), .val (.int c1), .val (.int c2), .val (.int c3), .val (.ref b), .unset, .unset, .unset] [(.ref x)])
  refine B (fun tgt kt => XS.astore S.here S.hx rfl (hb hby at_68) rfl rfl (l' := #[.val (.int i0), .val (.int i1), .val (.int c0), .val (.int c1), .val (.int c2), .val (.int c3), .val (.ref b), .val (.ref x), .unset, .unset]) rfl kt) ?_
  show F T (mkF m 70 #[.val (.int i0), .val (.int i1), .val (.int c0), .val (.int c1), .val (.int c2), .val (.int c3), .val (.ref b), .val (.ref x), .unset, .unset] [])
  refine B (fun tgt kt => XS.aload S.here S.hx rfl (hb hby at_70) rfl rfl kt) ?_
  show F T (mkF m 72 #[.val (.int i0), .val (.int i1), .val (.int c0), .val (.int c1), .val (.int c2), .val (.int c3), .val (.ref b), .val (.ref x), .unset, .unset] [(.ref x)])
  refine Sp.static B S (y := (⟨"com/example/perdura/perdura/store/TableLayout", "foldCase", "(Ljava/lang/String;)Ljava/lang/String;"⟩ : MethodName)) (argsL := [(.ref x)]) (rest := []) (hw _ (List.mem_of_getElem? (i := 31) rfl)) (hw _ (List.mem_of_getElem? (i := 32) rfl)) (hw _ (List.mem_of_getElem? (i := 33) rfl)) (hw _ (List.mem_of_getElem? (i := 34) rfl)) (by decide) (Call.con (W := 0) (y_fc l Z a0 consts_1 hw hEW h7 hS hmem zc CS hzc fm SF hfm AD HI LO x t [c0, c1, c2, c3] (by show 4 ≤ 8; decide) G) (hw _ (List.mem_of_getElem? (i := 34) rfl)) (hw _ (List.mem_of_getElem? (i := 33) rfl)) (by decide) (by decide)) (by simp) (by decide) (by decide) (by rw [hml]; rfl) (lenOf lw_p13 rfl) rfl (Nat.le_of_eq rfl) (hb hby at_72) fun v T h8 nw S hQ => ?_
  obtain ⟨y, ty, rfl, rfl, K, G⟩ := hQ
  show F T (mkF m 75 #[.val (.int i0), .val (.int i1), .val (.int c0), .val (.int c1), .val (.int c2), .val (.int c3), .val (.ref b), .val (.ref x), .unset, .unset] [(.ref y)])
  refine B (fun tgt kt => XS.astore S.here S.hx rfl (hb hby at_75) rfl rfl (l' := #[.val (.int i0), .val (.int i1), .val (.int c0), .val (.int c1), .val (.int c2), .val (.int c3), .val (.ref b), .val (.ref x), .val (.ref y), .unset]) rfl kt) ?_
  show F T (mkF m 77 #[.val (.int i0), .val (.int i1), .val (.int c0), .val (.int c1), .val (.int c2), .val (.int c3), .val (.ref b), .val (.ref x), .val (.ref y), .unset] [])
  refine B (fun tgt kt => XS.aload S.here S.hx rfl (hb hby at_77) rfl rfl kt) ?_
  show F T (mkF m 79 #[.val (.int i0), .val (.int i1), .val (.int c0), .val (.int c1), .val (.int c2), .val (.int c3), .val (.ref b), .val (.ref x), .val (.ref y), .unset] [(.ref y)])
  obtain ⟨kb2, cd2, N22, vs2, Oy, Vy, hcd, hbd, hle⟩ := id G
  refine Sp.virt B S (y := (⟨"java/lang/String", "length", "()I"⟩ : MethodName)) (C := "java/lang/String") (argsL := []) (rest := []) (hw _ (List.mem_of_getElem? (i := 54) rfl)) (hw _ (List.mem_of_getElem? (i := 55) rfl)) (hw _ (List.mem_of_getElem? (i := 57) rfl)) (hw _ (List.mem_of_getElem? (i := 57) rfl)) (hw _ (List.mem_of_getElem? (i := 56) rfl)) (by decide) (Call.pure (fun s' hZ => StrChars.Road.lenW (W := 0) hZ hln (kI := 4) (hw _ (List.mem_of_getElem? (i := 3) rfl)) Oy.1 (Oy.f (i := 0) rfl) (Oy.f (i := 1) rfl) Vy hcd hbd (CS.ext S.old) hzc hle (by decide) (by decide)) (sf := [])) Oy.1 (by simp) (by decide) (by decide) (by rw [hml]; rfl) (lenOf lw_p19 rfl) rfl (Nat.le_of_eq rfl) (hb hby at_79) fun v T h9 nw S hQ => ?_
  obtain ⟨rfl, rfl, rfl⟩ := hQ
  show F T (mkF m 82 #[.val (.int i0), .val (.int i1), .val (.int c0), .val (.int c1), .val (.int c2), .val (.int c3), .val (.ref b), .val (.ref x), .val (.ref y), .unset] [(.int (4 : Int32))])
  refine B (fun tgt kt => XS.iconst S.here S.hx rfl (hb hby at_82) kt) ?_
  show F T (mkF m 83 #[.val (.int i0), .val (.int i1), .val (.int c0), .val (.int c1), .val (.int c2), .val (.int c3), .val (.ref b), .val (.ref x), .val (.ref y), .unset] [(.int (4 : Int32)), (.int (4 : Int32))])
  refine B (fun tgt kt => XS.icmpYes S.here S.hx rfl (pc0 := 83) (pc' := 88) rfl (hb hby at_83) rfl (ii_eq_t rfl) (by decide) (by decide) kt) ?_
  show F T (mkF m 88 #[.val (.int i0), .val (.int i1), .val (.int c0), .val (.int c1), .val (.int c2), .val (.int c3), .val (.ref b), .val (.ref x), .val (.ref y), .unset] [])
  refine B (fun tgt kt => XS.aload S.here S.hx rfl (hb hby at_88) rfl rfl kt) ?_
  show F T (mkF m 90 #[.val (.int i0), .val (.int i1), .val (.int c0), .val (.int c1), .val (.int c2), .val (.int c3), .val (.ref b), .val (.ref x), .val (.ref y), .unset] [(.ref y)])
  refine B (fun tgt kt => XS.iconst S.here S.hx rfl (hb hby at_90) kt) ?_
  show F T (mkF m 91 #[.val (.int i0), .val (.int i1), .val (.int c0), .val (.int c1), .val (.int c2), .val (.int c3), .val (.ref b), .val (.ref x), .val (.ref y), .unset] [(.int (0 : Int32)), (.ref y)])
  refine Sp.virt B S (y := (⟨"java/lang/String", "charAt", "(I)C"⟩ : MethodName)) (C := "java/lang/String") (argsL := [(.int (0 : Int32))]) (rest := []) (hw _ (List.mem_of_getElem? (i := 64) rfl)) (hw _ (List.mem_of_getElem? (i := 65) rfl)) (hw _ (List.mem_of_getElem? (i := 67) rfl)) (hw _ (List.mem_of_getElem? (i := 67) rfl)) (hw _ (List.mem_of_getElem? (i := 66) rfl)) (by decide) (Call.con (W := 0) (y_ca l Z a0 consts_1 hw hEW h8 zc CS hzc fm SF hfm AD HI LO y ty _ (by show 4 ≤ 8; decide) G 0 (by show 0 < 4; decide)) (hw _ (List.mem_of_getElem? (i := 68) rfl)) (hw _ (List.mem_of_getElem? (i := 4) rfl)) (by decide) (by decide)) Oy.1 (by simp) (by decide) (by decide) (by rw [hml]; rfl) (lenOf lw_p23 rfl) rfl (Nat.le_of_eq rfl) (hb hby at_91) fun v T h10 nw S hQ => ?_
  obtain ⟨rfl, rfl, rfl⟩ := hQ
  show F T (mkF m 94 #[.val (.int i0), .val (.int i1), .val (.int c0), .val (.int c1), .val (.int c2), .val (.int c3), .val (.ref b), .val (.ref x), .val (.ref y), .unset] [(.int (own_fold c0))])
  refine B (fun tgt kt => XS.iloadN S.here S.hx rfl (hb hby at_94) rfl kt) ?_
  show F T (mkF m 95 #[.val (.int i0), .val (.int i1), .val (.int c0), .val (.int c1), .val (.int c2), .val (.int c3), .val (.ref b), .val (.ref x), .val (.ref y), .unset] [(.int c0), (.int (own_fold c0))])
  refine Sp.static B S (y := (⟨"com/example/perdura/perdura/store/TableLayoutFoldCasePinLaw", "expected", "(C)C"⟩ : MethodName)) (argsL := [(.int c0)]) (rest := [(.int (own_fold c0))]) (hw _ (List.mem_of_getElem? (i := 80) rfl)) (hw _ (List.mem_of_getElem? (i := 81) rfl)) (hw _ (List.mem_of_getElem? (i := 82) rfl)) (hw _ (List.mem_of_getElem? (i := 83) rfl)) (by decide) (Call.con (W := 1) (y_ex l Z a0 consts_1 hw hEW h8 c0 b0) (hw _ (List.mem_of_getElem? (i := 83) rfl)) (hw _ (List.mem_of_getElem? (i := 82) rfl)) (by decide) (by decide)) (by simp) (by decide) (by decide) (by rw [hml]; rfl) (lenOf lw_p27 rfl) rfl (Nat.le_of_eq rfl) (hb hby at_95) fun v T h11 nw S hQ => ?_
  obtain ⟨rfl, rfl, rfl⟩ := hQ
  show F T (mkF m 98 #[.val (.int i0), .val (.int i1), .val (.int c0), .val (.int c1), .val (.int c2), .val (.int c3), .val (.ref b), .val (.ref x), .val (.ref y), .unset] [(.int (own_fold c0)), (.int (own_fold c0))])
  refine B (fun tgt kt => XS.icmpYes S.here S.hx rfl (pc0 := 98) (pc' := 103) rfl (hb hby at_98) rfl (ii_eq_t rfl) (by decide) (by decide) kt) ?_
  show F T (mkF m 103 #[.val (.int i0), .val (.int i1), .val (.int c0), .val (.int c1), .val (.int c2), .val (.int c3), .val (.ref b), .val (.ref x), .val (.ref y), .unset] [])
  refine B (fun tgt kt => XS.aload S.here S.hx rfl (hb hby at_103) rfl rfl kt) ?_
  show F T (mkF m 105 #[.val (.int i0), .val (.int i1), .val (.int c0), .val (.int c1), .val (.int c2), .val (.int c3), .val (.ref b), .val (.ref x), .val (.ref y), .unset] [(.ref y)])
  refine B (fun tgt kt => XS.iconst S.here S.hx rfl (hb hby at_105) kt) ?_
  show F T (mkF m 106 #[.val (.int i0), .val (.int i1), .val (.int c0), .val (.int c1), .val (.int c2), .val (.int c3), .val (.ref b), .val (.ref x), .val (.ref y), .unset] [(.int (1 : Int32)), (.ref y)])
  refine Sp.virt B S (y := (⟨"java/lang/String", "charAt", "(I)C"⟩ : MethodName)) (C := "java/lang/String") (argsL := [(.int (1 : Int32))]) (rest := []) (hw _ (List.mem_of_getElem? (i := 64) rfl)) (hw _ (List.mem_of_getElem? (i := 65) rfl)) (hw _ (List.mem_of_getElem? (i := 67) rfl)) (hw _ (List.mem_of_getElem? (i := 67) rfl)) (hw _ (List.mem_of_getElem? (i := 66) rfl)) (by decide) (Call.con (W := 0) (y_ca l Z a0 consts_1 hw hEW h8 zc CS hzc fm SF hfm AD HI LO y ty _ (by show 4 ≤ 8; decide) G 1 (by show 1 < 4; decide)) (hw _ (List.mem_of_getElem? (i := 68) rfl)) (hw _ (List.mem_of_getElem? (i := 4) rfl)) (by decide) (by decide)) Oy.1 (by simp) (by decide) (by decide) (by rw [hml]; rfl) (lenOf lw_p23 rfl) rfl (Nat.le_of_eq rfl) (hb hby at_106) fun v T h12 nw S hQ => ?_
  obtain ⟨rfl, rfl, rfl⟩ := hQ
  show F T (mkF m 109 #[.val (.int i0), .val (.int i1), .val (.int c0), .val (.int c1), .val (.int c2), .val (.int c3), .val (.ref b), .val (.ref x), .val (.ref y), .unset] [(.int (own_fold c1))])
  refine B (fun tgt kt => XS.iloadN S.here S.hx rfl (hb hby at_109) rfl kt) ?_
  show F T (mkF m 110 #[.val (.int i0), .val (.int i1), .val (.int c0), .val (.int c1), .val (.int c2), .val (.int c3), .val (.ref b), .val (.ref x), .val (.ref y), .unset] [(.int c1), (.int (own_fold c1))])
  refine Sp.static B S (y := (⟨"com/example/perdura/perdura/store/TableLayoutFoldCasePinLaw", "expected", "(C)C"⟩ : MethodName)) (argsL := [(.int c1)]) (rest := [(.int (own_fold c1))]) (hw _ (List.mem_of_getElem? (i := 80) rfl)) (hw _ (List.mem_of_getElem? (i := 81) rfl)) (hw _ (List.mem_of_getElem? (i := 82) rfl)) (hw _ (List.mem_of_getElem? (i := 83) rfl)) (by decide) (Call.con (W := 1) (y_ex l Z a0 consts_1 hw hEW h8 c1 b1) (hw _ (List.mem_of_getElem? (i := 83) rfl)) (hw _ (List.mem_of_getElem? (i := 82) rfl)) (by decide) (by decide)) (by simp) (by decide) (by decide) (by rw [hml]; rfl) (lenOf lw_p27 rfl) rfl (Nat.le_of_eq rfl) (hb hby at_110) fun v T h13 nw S hQ => ?_
  obtain ⟨rfl, rfl, rfl⟩ := hQ
  show F T (mkF m 113 #[.val (.int i0), .val (.int i1), .val (.int c0), .val (.int c1), .val (.int c2), .val (.int c3), .val (.ref b), .val (.ref x), .val (.ref y), .unset] [(.int (own_fold c1)), (.int (own_fold c1))])
  refine B (fun tgt kt => XS.icmpYes S.here S.hx rfl (pc0 := 113) (pc' := 118) rfl (hb hby at_113) rfl (ii_eq_t rfl) (by decide) (by decide) kt) ?_
  show F T (mkF m 118 #[.val (.int i0), .val (.int i1), .val (.int c0), .val (.int c1), .val (.int c2), .val (.int c3), .val (.ref b), .val (.ref x), .val (.ref y), .unset] [])
  refine B (fun tgt kt => XS.aload S.here S.hx rfl (hb hby at_118) rfl rfl kt) ?_
  show F T (mkF m 120 #[.val (.int i0), .val (.int i1), .val (.int c0), .val (.int c1), .val (.int c2), .val (.int c3), .val (.ref b), .val (.ref x), .val (.ref y), .unset] [(.ref y)])
  refine B (fun tgt kt => XS.iconst S.here S.hx rfl (hb hby at_120) kt) ?_
  show F T (mkF m 121 #[.val (.int i0), .val (.int i1), .val (.int c0), .val (.int c1), .val (.int c2), .val (.int c3), .val (.ref b), .val (.ref x), .val (.ref y), .unset] [(.int (2 : Int32)), (.ref y)])
  refine Sp.virt B S (y := (⟨"java/lang/String", "charAt", "(I)C"⟩ : MethodName)) (C := "java/lang/String") (argsL := [(.int (2 : Int32))]) (rest := []) (hw _ (List.mem_of_getElem? (i := 64) rfl)) (hw _ (List.mem_of_getElem? (i := 65) rfl)) (hw _ (List.mem_of_getElem? (i := 67) rfl)) (hw _ (List.mem_of_getElem? (i := 67) rfl)) (hw _ (List.mem_of_getElem? (i := 66) rfl)) (by decide) (Call.con (W := 0) (y_ca l Z a0 consts_1 hw hEW h8 zc CS hzc fm SF hfm AD HI LO y ty _ (by show 4 ≤ 8; decide) G 2 (by show 2 < 4; decide)) (hw _ (List.mem_of_getElem? (i := 68) rfl)) (hw _ (List.mem_of_getElem? (i := 4) rfl)) (by decide) (by decide)) Oy.1 (by simp) (by decide) (by decide) (by rw [hml]; rfl) (lenOf lw_p23 rfl) rfl (Nat.le_of_eq rfl) (hb hby at_121) fun v T h14 nw S hQ => ?_
  obtain ⟨rfl, rfl, rfl⟩ := hQ
  show F T (mkF m 124 #[.val (.int i0), .val (.int i1), .val (.int c0), .val (.int c1), .val (.int c2), .val (.int c3), .val (.ref b), .val (.ref x), .val (.ref y), .unset] [(.int (own_fold c2))])
  refine B (fun tgt kt => XS.iload S.here S.hx rfl (hb hby at_124) rfl kt) ?_
  show F T (mkF m 126 #[.val (.int i0), .val (.int i1), .val (.int c0), .val (.int c1), .val (.int c2), .val (.int c3), .val (.ref b), .val (.ref x), .val (.ref y), .unset] [(.int c2), (.int (own_fold c2))])
  refine Sp.static B S (y := (⟨"com/example/perdura/perdura/store/TableLayoutFoldCasePinLaw", "expected", "(C)C"⟩ : MethodName)) (argsL := [(.int c2)]) (rest := [(.int (own_fold c2))]) (hw _ (List.mem_of_getElem? (i := 80) rfl)) (hw _ (List.mem_of_getElem? (i := 81) rfl)) (hw _ (List.mem_of_getElem? (i := 82) rfl)) (hw _ (List.mem_of_getElem? (i := 83) rfl)) (by decide) (Call.con (W := 1) (y_ex l Z a0 consts_1 hw hEW h8 c2 b2) (hw _ (List.mem_of_getElem? (i := 83) rfl)) (hw _ (List.mem_of_getElem? (i := 82) rfl)) (by decide) (by decide)) (by simp) (by decide) (by decide) (by rw [hml]; rfl) (lenOf lw_p27 rfl) rfl (Nat.le_of_eq rfl) (hb hby at_126) fun v T h15 nw S hQ => ?_
  obtain ⟨rfl, rfl, rfl⟩ := hQ
  show F T (mkF m 129 #[.val (.int i0), .val (.int i1), .val (.int c0), .val (.int c1), .val (.int c2), .val (.int c3), .val (.ref b), .val (.ref x), .val (.ref y), .unset] [(.int (own_fold c2)), (.int (own_fold c2))])
  refine B (fun tgt kt => XS.icmpYes S.here S.hx rfl (pc0 := 129) (pc' := 134) rfl (hb hby at_129) rfl (ii_eq_t rfl) (by decide) (by decide) kt) ?_
  show F T (mkF m 134 #[.val (.int i0), .val (.int i1), .val (.int c0), .val (.int c1), .val (.int c2), .val (.int c3), .val (.ref b), .val (.ref x), .val (.ref y), .unset] [])
  refine B (fun tgt kt => XS.aload S.here S.hx rfl (hb hby at_134) rfl rfl kt) ?_
  show F T (mkF m 136 #[.val (.int i0), .val (.int i1), .val (.int c0), .val (.int c1), .val (.int c2), .val (.int c3), .val (.ref b), .val (.ref x), .val (.ref y), .unset] [(.ref y)])
  refine B (fun tgt kt => XS.iconst S.here S.hx rfl (hb hby at_136) kt) ?_
  show F T (mkF m 137 #[.val (.int i0), .val (.int i1), .val (.int c0), .val (.int c1), .val (.int c2), .val (.int c3), .val (.ref b), .val (.ref x), .val (.ref y), .unset] [(.int (3 : Int32)), (.ref y)])
  refine Sp.virt B S (y := (⟨"java/lang/String", "charAt", "(I)C"⟩ : MethodName)) (C := "java/lang/String") (argsL := [(.int (3 : Int32))]) (rest := []) (hw _ (List.mem_of_getElem? (i := 64) rfl)) (hw _ (List.mem_of_getElem? (i := 65) rfl)) (hw _ (List.mem_of_getElem? (i := 67) rfl)) (hw _ (List.mem_of_getElem? (i := 67) rfl)) (hw _ (List.mem_of_getElem? (i := 66) rfl)) (by decide) (Call.con (W := 0) (y_ca l Z a0 consts_1 hw hEW h8 zc CS hzc fm SF hfm AD HI LO y ty _ (by show 4 ≤ 8; decide) G 3 (by show 3 < 4; decide)) (hw _ (List.mem_of_getElem? (i := 68) rfl)) (hw _ (List.mem_of_getElem? (i := 4) rfl)) (by decide) (by decide)) Oy.1 (by simp) (by decide) (by decide) (by rw [hml]; rfl) (lenOf lw_p23 rfl) rfl (Nat.le_of_eq rfl) (hb hby at_137) fun v T h16 nw S hQ => ?_
  obtain ⟨rfl, rfl, rfl⟩ := hQ
  show F T (mkF m 140 #[.val (.int i0), .val (.int i1), .val (.int c0), .val (.int c1), .val (.int c2), .val (.int c3), .val (.ref b), .val (.ref x), .val (.ref y), .unset] [(.int (own_fold c3))])
  refine B (fun tgt kt => XS.iload S.here S.hx rfl (hb hby at_140) rfl kt) ?_
  show F T (mkF m 142 #[.val (.int i0), .val (.int i1), .val (.int c0), .val (.int c1), .val (.int c2), .val (.int c3), .val (.ref b), .val (.ref x), .val (.ref y), .unset] [(.int c3), (.int (own_fold c3))])
  refine Sp.static B S (y := (⟨"com/example/perdura/perdura/store/TableLayoutFoldCasePinLaw", "expected", "(C)C"⟩ : MethodName)) (argsL := [(.int c3)]) (rest := [(.int (own_fold c3))]) (hw _ (List.mem_of_getElem? (i := 80) rfl)) (hw _ (List.mem_of_getElem? (i := 81) rfl)) (hw _ (List.mem_of_getElem? (i := 82) rfl)) (hw _ (List.mem_of_getElem? (i := 83) rfl)) (by decide) (Call.con (W := 1) (y_ex l Z a0 consts_1 hw hEW h8 c3 b3) (hw _ (List.mem_of_getElem? (i := 83) rfl)) (hw _ (List.mem_of_getElem? (i := 82) rfl)) (by decide) (by decide)) (by simp) (by decide) (by decide) (by rw [hml]; rfl) (lenOf lw_p27 rfl) rfl (Nat.le_of_eq rfl) (hb hby at_142) fun v T h17 nw S hQ => ?_
  obtain ⟨rfl, rfl, rfl⟩ := hQ
  show F T (mkF m 145 #[.val (.int i0), .val (.int i1), .val (.int c0), .val (.int c1), .val (.int c2), .val (.int c3), .val (.ref b), .val (.ref x), .val (.ref y), .unset] [(.int (own_fold c3)), (.int (own_fold c3))])
  refine B (fun tgt kt => XS.icmpYes S.here S.hx rfl (pc0 := 145) (pc' := 150) rfl (hb hby at_145) rfl (ii_eq_t rfl) (by decide) (by decide) kt) ?_
  show F T (mkF m 150 #[.val (.int i0), .val (.int i1), .val (.int c0), .val (.int c1), .val (.int c2), .val (.int c3), .val (.ref b), .val (.ref x), .val (.ref y), .unset] [])
  refine Sp.newO B S (hw _ (List.mem_of_getElem? (i := 2) rfl)) (hw _ (List.mem_of_getElem? (i := 3) rfl)) (hw _ (List.mem_of_getElem? (i := 4) rfl)) (hb hby at_150) (by decide) (by decide) fun T h18 x2 S E gx2 Ax2 D => ?_
  have O2 : Ob Z a0 h18 x2 "java/lang/String" [("java/lang/String", "value", "[B", .null), ("java/lang/String", "coder", "B", (.int 0))] := Ob.new Ax2 D [("java/lang/String", "value", "[B", (.array .byte)), ("java/lang/String", "coder", "B", .byte)] (all_cons ⟨(Or.inr (hw _ (List.mem_of_getElem? (i := 30) rfl))), by decide⟩ (all_cons ⟨(Or.inr (hw _ (List.mem_of_getElem? (i := 28) rfl))), by decide⟩ all_nil))
  show F T (mkF m 153 #[.val (.int i0), .val (.int i1), .val (.int c0), .val (.int c1), .val (.int c2), .val (.int c3), .val (.ref b), .val (.ref x), .val (.ref y), .unset] [(.ref x2)])
  have lx := natlt O2.lt
  refine B (fun tgt kt => XS.dup S.here S.hx rfl (hb hby at_153) rfl rfl kt) ?_
  show F T (mkF m 154 #[.val (.int i0), .val (.int i1), .val (.int c0), .val (.int c1), .val (.int c2), .val (.int c3), .val (.ref b), .val (.ref x), .val (.ref y), .unset] [(.ref x2), (.ref x2)])
  refine B (fun tgt kt => XS.iconst S.here S.hx rfl (hb hby at_154) kt) ?_
  show F T (mkF m 155 #[.val (.int i0), .val (.int i1), .val (.int c0), .val (.int c1), .val (.int c2), .val (.int c3), .val (.ref b), .val (.ref x), .val (.ref y), .unset] [(.int (0 : Int32)), (.ref x2), (.ref x2)])
  refine Sp.newP B S (cap := 0) (hw _ (List.mem_of_getElem? (i := 1) rfl)) (hb hby at_155) (by decide) (by decide) (by decide) (by decide) (by decide) (ad := "[C") (by decide) fun T h19 b2 kb2 S E gb2 Xb2 V2 => ?_
  show F T (mkF m 157 #[.val (.int i0), .val (.int i1), .val (.int c0), .val (.int c1), .val (.int c2), .val (.int c3), .val (.ref b), .val (.ref x), .val (.ref y), .unset] [(.ref b2), (.ref x2), (.ref x2)])
  replace O2 := O2.ext E
  refine Sp.special B S (y := (⟨"java/lang/String", "<init>", "([C)V"⟩ : MethodName)) (argsL := [(.ref b2)]) (rest := [(.ref x2)]) rfl (hw _ (List.mem_of_getElem? (i := 5) rfl)) (hw _ (List.mem_of_getElem? (i := 6) rfl)) (hw _ (List.mem_of_getElem? (i := 7) rfl)) (by decide) (own_new (W := 1) Z a0 consts_1 hw hEW h19 hS hmem zc CS hzc AD HI LO [] (by show 0 ≤ 8; decide) (by simp) x2 b2 (natne (by omega)) (S.isnew (by simp)) S.old _ _ O2 kb2 _ V2 (by decide) (by decide)) (by simp) (by decide) (by decide) (by rw [hml]; rfl) (lenOf lw_p10 rfl) rfl (Nat.le_of_eq rfl) (hb hby at_157) fun v T h20 nw S hQ => ?_
  obtain ⟨rfl, rfl, K, t3, ne3, G3⟩ := hQ
  show F T (mkF m 160 #[.val (.int i0), .val (.int i1), .val (.int c0), .val (.int c1), .val (.int c2), .val (.int c3), .val (.ref b), .val (.ref x), .val (.ref y), .unset] [(.ref x2)])
  refine Sp.static B S (y := (⟨"com/example/perdura/perdura/store/TableLayout", "foldCase", "(Ljava/lang/String;)Ljava/lang/String;"⟩ : MethodName)) (argsL := [(.ref x2)]) (rest := []) (hw _ (List.mem_of_getElem? (i := 31) rfl)) (hw _ (List.mem_of_getElem? (i := 32) rfl)) (hw _ (List.mem_of_getElem? (i := 33) rfl)) (hw _ (List.mem_of_getElem? (i := 34) rfl)) (by decide) (Call.con (W := 0) (y_fc l Z a0 consts_1 hw hEW h20 hS hmem zc CS hzc fm SF hfm AD HI LO x2 t3 [] (by show 0 ≤ 8; decide) G3) (hw _ (List.mem_of_getElem? (i := 34) rfl)) (hw _ (List.mem_of_getElem? (i := 33) rfl)) (by decide) (by decide)) (by simp) (by decide) (by decide) (by rw [hml]; rfl) (lenOf lw_p13 rfl) rfl (Nat.le_of_eq rfl) (hb hby at_160) fun v T h21 nw S hQ => ?_
  obtain ⟨z, tz, rfl, rfl, K, Gz⟩ := hQ
  show F T (mkF m 163 #[.val (.int i0), .val (.int i1), .val (.int c0), .val (.int c1), .val (.int c2), .val (.int c3), .val (.ref b), .val (.ref x), .val (.ref y), .unset] [(.ref z)])
  refine B (fun tgt kt => XS.astore S.here S.hx rfl (hb hby at_163) rfl rfl (l' := #[.val (.int i0), .val (.int i1), .val (.int c0), .val (.int c1), .val (.int c2), .val (.int c3), .val (.ref b), .val (.ref x), .val (.ref y), .val (.ref z)]) rfl kt) ?_
  show F T (mkF m 165 #[.val (.int i0), .val (.int i1), .val (.int c0), .val (.int c1), .val (.int c2), .val (.int c3), .val (.ref b), .val (.ref x), .val (.ref y), .val (.ref z)] [])
  refine B (fun tgt kt => XS.aload S.here S.hx rfl (hb hby at_165) rfl rfl kt) ?_
  show F T (mkF m 167 #[.val (.int i0), .val (.int i1), .val (.int c0), .val (.int c1), .val (.int c2), .val (.int c3), .val (.ref b), .val (.ref x), .val (.ref y), .val (.ref z)] [(.ref z)])
  obtain ⟨kb4, cd4, N24, vs4, Oz, Vz, hcd4, hbd4, hle4⟩ := Gz
  refine Sp.virt B S (y := (⟨"java/lang/String", "isEmpty", "()Z"⟩ : MethodName)) (C := "java/lang/String") (argsL := []) (rest := []) (hw _ (List.mem_of_getElem? (i := 87) rfl)) (hw _ (List.mem_of_getElem? (i := 88) rfl)) (hw _ (List.mem_of_getElem? (i := 90) rfl)) (hw _ (List.mem_of_getElem? (i := 90) rfl)) (hw _ (List.mem_of_getElem? (i := 89) rfl)) (by decide) (Call.pure (fun s' hZ => StrChars.Road.empW (W := 0) hZ hem (kI := 4) (hw _ (List.mem_of_getElem? (i := 3) rfl)) Oz.1 (Oz.f (i := 0) rfl) (Oz.f (i := 1) rfl) Vz hcd4 hbd4 hle4 (by decide) (by decide)) (sf := [])) Oz.1 (by simp) (by decide) (by decide) (by rw [hml]; rfl) (lenOf lw_p33 rfl) rfl (Nat.le_of_eq rfl) (hb hby at_167) fun v T h22 nw S hQ => ?_
  obtain ⟨rfl, rfl, rfl⟩ := hQ
  show F T (mkF m 170 #[.val (.int i0), .val (.int i1), .val (.int c0), .val (.int c1), .val (.int c2), .val (.int c3), .val (.ref b), .val (.ref x), .val (.ref y), .val (.ref z)] [(.int (1 : Int32))])
  exact hF ((S.mono (by decide) (by decide)).retI hr hlk (by simp) (by decide) (hb hby at_170) (nw := []) rfl (by simp))
set_option maxRecDepth 65536 in
set_option maxHeartbeats 40000000 in
theorem comes_1 {Post : Tables → Env → Array Value → State → Outcome → State → Prop} (hpost : ∀ tb e args s v u, (limb_1_1.after args s (.returned v) u = true ∧ limb_1_2.after args s (.returned v) u = true ∧ True) → Jvm.Pilot.@@N@@.Jvm.D.FramedW s (.returned v) u (Jvm.fieldLocs frame_1_writes args s ++ Jvm.arrayLocs frame_1_arrays args s ++ Jvm.staticLocs frame_1_statics s) 40 1216 → Post tb e args s (.returned v) u) :
    ArmFor flags0 classFile x code maxLocals ret World_1 tables_1 room_1 Calls_1 rest_1 Pre_1 Post := by
  intro l hfl _ _ p e ha hc hk s m args below hf hA hF happ hP
  obtain ⟨hcalls, hrest, hpre⟩ := hP
  obtain ⟨g1, g2, g3, hnamed, g5, g6, g7, hat⟩ := (Spec.applies_iff hf).mp happ
  obtain ⟨hg, hn⟩ := and_e (Cond.before_iff.mp (show (Jvm.Cond.and given_1 narrow_1).before args s = true from hpre))
  obtain ⟨q0, hg⟩ := and_e hg
  obtain ⟨k0, hg⟩ := and_e hg
  have k1 := hg
  obtain ⟨w0, w1, rfl⟩ : ∃ w0 w1 : Value, args = #[w0, w1] := by
    have hs : args.size = 2 := by simpa [Cond.value, given_1] using q0
    obtain ⟨L⟩ := args
    match L, hs with
    | [w0, w1], _ => exact ⟨w0, w1, rfl⟩
  have hw := fun d (hd : d ∈ tables_1) => atoms_spec (ws := Jvm.Cond.code x code maxLocals ret :: tables_1) hat d (List.mem_cons_of_mem _ hd)
  obtain ⟨hsets, hown0⟩ := atoms_of _ (rest_1_c_eq ▸ (show rest_1_c.before _ s = true from hrest))
  obtain ⟨i0, e0⟩ := is_v k0
  obtain rfl : w0 = (.int i0) := Option.some.inj e0
  obtain ⟨i1, e1⟩ := is_v k1
  obtain rfl : w1 = (.int i1) := Option.some.inj e1
  have n5 := not_v (Cond.before_iff.mp (hsets _ (List.mem_of_getElem? (i := 2) rfl)))
  obtain ⟨zc, ez⟩ := is_v (Cond.before_iff.mp (hsets _ (List.mem_of_getElem? (i := 1) rfl)))
  have CS : Sta s s.heap "java/lang/String" "COMPACT_STRINGS" "Z" (.int zc) := Sta.start ez (Or.inl (hsets _ (List.mem_of_getElem? (i := 0) rfl)))
  have hzc : ¬ zc = (0 : Int32) := gotF (Cond.eq_ints ez (Term.int_eval (0))) n5
  have AD : Sta s s.heap "java/lang/StringUTF16" "$assertionsDisabled" "Z" (.int 1) := Sta.start (Cond.eq_int (hsets _ (List.mem_of_getElem? (i := 12) rfl)) rfl) (Or.inl (hsets _ (List.mem_of_getElem? (i := 11) rfl)))
  have HI : Sta s s.heap "java/lang/StringUTF16" "HI_BYTE_SHIFT" "I" (.int 0) := Sta.start (Cond.eq_int (hsets _ (List.mem_of_getElem? (i := 15) rfl)) rfl) (Or.inl (hsets _ (List.mem_of_getElem? (i := 14) rfl)))
  have LO : Sta s s.heap "java/lang/StringUTF16" "LO_BYTE_SHIFT" "I" (.int 8) := Sta.start (Cond.eq_int (hsets _ (List.mem_of_getElem? (i := 18) rfl)) rfl) (Or.inl (hsets _ (List.mem_of_getElem? (i := 17) rfl)))
  obtain ⟨sf0, es0, rs0⟩ := isR_v (Cond.before_iff.mp (hsets _ (List.mem_of_getElem? (i := 8) rfl)))
  have SF : Sta s s.heap "jdk/internal/util/Preconditions" "SIOOBE_FORMATTER" "Ljava/util/function/BiFunction;" sf0 := Sta.start es0 (Or.inl (hsets _ (List.mem_of_getElem? (i := 7) rfl)))
  have hheld : ∀ q ∈ consts_1, Jvm.Lit.constHeld s q.1 q.2 := hcalls.1
  have hEW : EW s #[.int i0, .int i1] consts_1 := EW.cons (hw _ (List.mem_of_getElem? (i := 84) rfl)) (by decide) (EW.nil)
  have hC : CHv s consts_1 s.vm s.heap := CHv.start hEW hheld (hsets _ (List.mem_of_getElem? (i := 2) rfl)) (hw _ (List.mem_of_getElem? (i := 20) rfl)) (hw _ (List.mem_of_getElem? (i := 3) rfl))
  obtain ⟨n, o, h1, h2, h3, _, L, nw, rfl, rfl, -, N, -, -, hq⟩ := own_law l s _ hw hEW zc CS hzc sf0 SF rs0 AD HI LO i0 i1 p e ha hc hk s m _ below hf ((Spec.appliesLoose_iff hf).mpr ⟨g1, g2, g3, hnamed, g5, (by rw [State.ripe_iff, Bool.and_eq_true] at g6; exact g6.1), g7, (by
    show (Jvm.Cond.and _ .tt).before _ s = true
    rw [Cond.before_and, Bool.and_eq_true]
    exact ⟨atoms_spec (ws := Jvm.Cond.code x code maxLocals ret :: tables_1) hat _ (List.mem_cons_self ..), rfl⟩)⟩) ⟨rfl, State.Warmed39.refl s, rfl, hC, ⟨Nat.le_refl _, fun _ _ q => q⟩, fun _ q => nomatch q⟩ trivial
  refine ⟨n, _, h1, h2, h3, hpost _ _ _ _ _ _ ⟨Cond.after_iff.mpr rfl, Cond.after_iff.mpr (eq_i res_at (Term.int_eval (1)) rfl), trivial⟩ ⟨hq.1, hq.2.1, hq.2.2.1, (hq.2.2.2.sift fun y hy => Or.inr (N y hy)).mono (by decide) (by decide)⟩⟩
theorem main_1_1 : Claimed_1_1 := comes_1 fun _ _ _ _ _ _ h hF => ⟨h.1, hF⟩
theorem main_1_2 : Claimed_1_2 := comes_1 fun _ _ _ _ _ _ h hF => ⟨h.2.1, hF⟩
end Jvm.Pilot.@@N@@
namespace Jvm.Pilot.@@N@@
open Jvm Jvm.ClassFile Sem Op Lib Jvm.Free Jvm.Stand Jvm.Pilot.@@N@@.Jvm.D
/-! MADE BY PROGRAM (witnessworld.py) out of the Statement's table words and the real class files: 20 classes; the members and pool entries that the words name. The judged class is class 1, her method 2. -/
namespace start1
open Jvm.ClassFile
def u (s : String) : CpInfo := .utf8 (stringToUtf16 s)
/-- a pool by its gaps: so many unusable entries, then the entry; so many at the end -/
def gap : Nat → List CpInfo → List CpInfo
  | 0, r => r
  | n + 1, r => .unusable :: gap n r
def poolList (es : List (Nat × CpInfo)) (last : Nat) : List CpInfo := es.foldr (fun e r => gap e.1 (e.2 :: r)) (gap last [])
def pool (es : List (Nat × CpInfo)) (last : Nat) : Array CpInfo := ⟨poolList es last⟩
def fileOf (pool : Array CpInfo) (this : Nat) (attrs : Array Attribute := #[]) (ms : Array MethodInfo := #[]) (fl : Nat := 33) (sup : Nat := 0) (ifs : Array Nat := #[]) (fds : Array FieldInfo := #[]) : ClassFile where
  minorVersion := 0
  majorVersion := 65
  constantPool := pool
  accessFlags := fl
  thisClass := this
  superClass := sup
  interfaces := ifs
  fields := fds
  methods := ms
  attributes := attrs
def plain (name : String) (sup : Option ClassId) : Class where
  name := name
  kind := .ordinary
  loader := none
  accessFlags := 33
  super := sup
  interfaces := #[]
  cf := none
  fields := #[]
  methods := #[]
  instanceTypes := #[]
  staticTypes := #[]
  resolved := #[]
  callSites := []
  init := .initialized
  statics := none
  mirror := none

def pool0 : Array CpInfo := pool [(5, u "<init>"), (0, u "()V"), (1, .class_ 10), (1, u "java/lang/Object")] 113

def k0c0 : Code := { maxStack := 0, maxLocals := 1, code := object_method_1_code, exceptionTable := #[], attributes := #[] }
def k0m0 : Method := { name := "<init>", desc := "()V", sig := { parameters := [], returnType := none }, accessFlags := 1, code := some k0c0 }
/-- java/lang/Object -/
def k0 : Class := { plain "java/lang/Object" none with
  accessFlags := 33
  interfaces := #[]
  cf := some (fileOf pool0 8 #[] #[{ accessFlags := 1, nameIndex := 5, descriptorIndex := 6, attributes := #[] }] 33 0 #[] #[])
  fields := #[]
  methods := #[k0m0]
  instanceTypes := #[]
  staticTypes := #[]
  resolved := Array.replicate 124 none
  statics := none }

def pool1 : Array CpInfo := pool [(2, .class_ 4), (1, u "java/lang/Object"), (0, u "<init>"), (0, u "()V"), (0, .integer 65535), (0, .class_ 9), (0, u "java/lang/String"), (0, .methodref 8 11), (0, .nameAndType 5 12), (0, u "([C)V"), (0, .methodref 14 15), (0, .class_ 16), (0, .nameAndType 17 18), (0, u "com/example/perdura/perdura/store/TableLayout"), (0, u "foldCase"), (0, u "(Ljava/lang/String;)Ljava/lang/String;"), (0, .methodref 8 20), (0, .nameAndType 21 22), (0, u "length"), (0, u "()I"), (0, .methodref 8 24), (0, .nameAndType 25 26), (0, u "charAt"), (0, u "(I)C"), (0, .methodref 28 29), (0, .class_ 30), (0, .nameAndType 31 32), (0, u "com/example/perdura/perdura/store/TableLayoutFoldCasePinLaw"), (0, u "expected"), (0, u "(C)C"), (0, .methodref 8 34), (0, .nameAndType 35 36), (0, u "isEmpty"), (0, u "()Z"), (3, u "law"), (0, u "(II)Z")] 4

def k1m0 : Method := { name := "<init>", desc := "()V", sig := { parameters := [], returnType := none }, accessFlags := 1, code := none }
def k1c1 : Code := { maxStack := 2, maxLocals := 1, code := method_2_code, exceptionTable := #[], attributes := #[] }
def k1m1 : Method := { name := "expected", desc := "(C)C", sig := { parameters := [.char], returnType := some .char }, accessFlags := 10, code := some k1c1 }
def k1c2 : Code := { maxStack := 3, maxLocals := 10, code := code, exceptionTable := #[], attributes := #[] }
def k1m2 : Method := { name := "law", desc := "(II)Z", sig := { parameters := [.int, .int], returnType := some .boolean }, accessFlags := 9, code := some k1c2 }
/-- com/example/perdura/perdura/store/TableLayoutFoldCasePinLaw -/
def k1 : Class := { plain "com/example/perdura/perdura/store/TableLayoutFoldCasePinLaw" (some 0) with
  accessFlags := 49
  interfaces := #[]
  cf := some (fileOf pool1 28 #[] #[{ accessFlags := 1, nameIndex := 5, descriptorIndex := 6, attributes := #[] }, { accessFlags := 10, nameIndex := 31, descriptorIndex := 32, attributes := #[] }, { accessFlags := 9, nameIndex := 40, descriptorIndex := 41, attributes := #[] }] 49 2 #[] #[])
  fields := #[]
  methods := #[k1m0, k1m1, k1m2]
  instanceTypes := #[]
  staticTypes := #[]
  resolved := Array.replicate 46 none
  statics := none }

def pool2 : Array CpInfo := pool [(1, .class_ 2), (0, u "java/io/Serializable"), (0, .class_ 4), (0, u "java/lang/Object")] 2

/-- java/io/Serializable -/
def k2 : Class := { plain "java/io/Serializable" (some 0) with
  accessFlags := 1537
  interfaces := #[]
  cf := some (fileOf pool2 1 #[] #[] 1537 3 #[] #[])
  fields := #[]
  methods := #[]
  instanceTypes := #[]
  staticTypes := #[]
  resolved := Array.replicate 7 none
  statics := none }

def pool3 : Array CpInfo := pool [(1, .class_ 2), (0, u "java/lang/Comparable"), (0, .class_ 4), (0, u "java/lang/Object")] 7

/-- java/lang/Comparable -/
def k3 : Class := { plain "java/lang/Comparable" (some 0) with
  accessFlags := 1537
  interfaces := #[]
  cf := some (fileOf pool3 1 #[] #[] 1537 3 #[] #[])
  fields := #[]
  methods := #[]
  instanceTypes := #[]
  staticTypes := #[]
  resolved := Array.replicate 12 none
  statics := none }

def pool4 : Array CpInfo := pool [(2, .class_ 4), (1, u "java/lang/CharSequence"), (42, .class_ 48), (0, u "java/lang/CharSequence$1CodePointIterator"), (10, .class_ 60), (0, u "java/lang/CharSequence$1CharIterator"), (5, .class_ 67), (0, u "java/lang/Object")] 63

/-- java/lang/CharSequence -/
def k4 : Class := { plain "java/lang/CharSequence" (some 0) with
  accessFlags := 1537
  interfaces := #[]
  cf := some (fileOf pool4 2 #[.nestMembers #[47, 59]] #[] 1537 66 #[] #[])
  fields := #[]
  methods := #[]
  instanceTypes := #[]
  staticTypes := #[]
  resolved := Array.replicate 131 none
  statics := none }

def pool5 : Array CpInfo := pool [(1, .class_ 2), (0, u "java/lang/constant/Constable"), (0, .class_ 4), (0, u "java/lang/Object")] 6

/-- java/lang/constant/Constable -/
def k5 : Class := { plain "java/lang/constant/Constable" (some 0) with
  accessFlags := 1537
  interfaces := #[]
  cf := some (fileOf pool5 1 #[] #[] 1537 3 #[] #[])
  fields := #[]
  methods := #[]
  instanceTypes := #[]
  staticTypes := #[]
  resolved := Array.replicate 11 none
  statics := none }

def pool6 : Array CpInfo := pool [(1, .class_ 2), (0, u "java/lang/constant/ConstantDesc"), (0, .class_ 4), (0, u "java/lang/Object")] 32

/-- java/lang/constant/ConstantDesc -/
def k6 : Class := { plain "java/lang/constant/ConstantDesc" (some 0) with
  accessFlags := 1537
  interfaces := #[]
  cf := some (fileOf pool6 1 #[] #[] 1537 3 #[] #[])
  fields := #[]
  methods := #[]
  instanceTypes := #[]
  staticTypes := #[]
  resolved := Array.replicate 37 none
  statics := none }

def pool7 : Array CpInfo := pool [(1, .methodref 2 3), (0, .class_ 4), (0, .nameAndType 5 6), (0, u "java/lang/Object"), (0, u "<init>"), (0, u "()V"), (0, .string 8), (0, u ""), (0, .fieldref 10 11), (0, .class_ 12), (0, .nameAndType 13 14), (0, u "java/lang/String"), (0, u "value"), (0, u "[B"), (0, .fieldref 10 16), (0, .nameAndType 17 18), (0, u "coder"), (0, u "B"), (2, u "hash"), (0, u "I"), (2, u "hashIsZero"), (0, u "Z"), (0, .methodref 10 28), (0, .nameAndType 5 29), (0, u "([CIILjava/lang/Void;)V"), (6, u "checkBoundsOffCount"), (0, u "(III)I"), (0, .fieldref 10 39), (0, .nameAndType 40 26), (0, u "COMPACT_STRINGS"), (1, .class_ 44), (1, u "java/lang/StringUTF16"), (0, u "compress"), (1, .methodref 42 48), (0, .nameAndType 49 50), (0, u "coderFromArrayLen"), (0, u "([BI)B"), (56, .class_ 109), (1, u "java/lang/StringLatin1"), (32, u "()Z"), (34, .methodref 42 178), (0, .nameAndType 45 179), (0, u "([CII)[B"), (119, .methodref 107 300), (0, .nameAndType 301 302), (0, u "toChars"), (0, u "([B)[C"), (0, .methodref 42 300), (30, u "()I"), (0, .methodref 10 336), (0, .nameAndType 17 337), (0, u "()B"), (25, u "([BI)C"), (27, u "(II)V"), (35, u "(I)C"), (64, .methodref 10 493), (0, .nameAndType 494 142), (0, u "isLatin1"), (0, .methodref 107 496), (0, .nameAndType 497 363), (0, u "charAt"), (0, .methodref 42 496), (2, u "checkIndex"), (5, u "length"), (67, .class_ 576), (0, u "java/lang/CharSequence"), (22, u "CASE_INSENSITIVE_ORDER"), (0, u "Ljava/util/Comparator;"), (91, u "isEmpty"), (262, u "toCharArray"), (0, u "()[C"), (53, u "([C)V"), (42, .fieldref 1054 1055), (0, .class_ 1056), (0, .nameAndType 1057 1058), (0, u "jdk/internal/util/Preconditions"), (0, u "SIOOBE_FORMATTER"), (0, u "Ljava/util/function/BiFunction;"), (0, .methodref 1054 1060), (0, .nameAndType 501 1061), (0, u "(IILjava/util/function/BiFunction;)I"), (2, u "(IIILjava/util/function/BiFunction;)I"), (0, .methodref 1054 1066), (0, .nameAndType 1067 1064), (0, u "checkFromIndexSize"), (33, u "serialPersistentFields"), (0, u "[Ljava/io/ObjectStreamField;"), (0, .class_ 1104), (0, u "java/lang/String$CaseInsensitiveComparator"), (1, .class_ 1107), (0, u "java/io/Serializable"), (0, .class_ 1109), (0, u "java/lang/Comparable"), (0, .class_ 1111), (0, u "java/lang/constant/Constable"), (0, .class_ 1113), (0, u "java/lang/constant/ConstantDesc"), (2, u "serialVersionUID"), (0, u "J"), (3, u "REPL"), (0, u "C"), (2, u "LATIN1"), (1, u "UTF16")] 323

def k7m0 : Method := { name := "<init>", desc := "()V", sig := { parameters := [], returnType := none }, accessFlags := 1, code := none }
def k7c1 : Code := { maxStack := 5, maxLocals := 2, code := jdk_42_method_3_code, exceptionTable := #[], attributes := #[] }
def k7m1 : Method := { name := "<init>", desc := "([C)V", sig := { parameters := [(.array .char)], returnType := none }, accessFlags := 1, code := some k7c1 }
def k7c2 : Code := { maxStack := 2, maxLocals := 1, code := jdk_42_method_54_code, exceptionTable := #[], attributes := #[] }
def k7m2 : Method := { name := "length", desc := "()I", sig := { parameters := [], returnType := some .int }, accessFlags := 1, code := some k7c2 }
def k7c3 : Code := { maxStack := 1, maxLocals := 1, code := jdk_42_method_55_code, exceptionTable := #[], attributes := #[] }
def k7m3 : Method := { name := "isEmpty", desc := "()Z", sig := { parameters := [], returnType := some .boolean }, accessFlags := 1, code := some k7c3 }
def k7c4 : Code := { maxStack := 2, maxLocals := 2, code := jdk_42_method_56_code, exceptionTable := #[], attributes := #[] }
def k7m4 : Method := { name := "charAt", desc := "(I)C", sig := { parameters := [.int], returnType := some .char }, accessFlags := 1, code := some k7c4 }
def k7c5 : Code := { maxStack := 1, maxLocals := 1, code := jdk_42_method_129_code, exceptionTable := #[], attributes := #[] }
def k7m5 : Method := { name := "toCharArray", desc := "()[C", sig := { parameters := [], returnType := some (.array .char) }, accessFlags := 1, code := some k7c5 }
def k7c6 : Code := { maxStack := 4, maxLocals := 6, code := jdk_42_method_149_code, exceptionTable := #[], attributes := #[] }
def k7m6 : Method := { name := "<init>", desc := "([CIILjava/lang/Void;)V", sig := { parameters := [(.array .char), .int, .int, (.object "java/lang/Void")], returnType := none }, accessFlags := 2, code := some k7c6 }
def k7c7 : Code := { maxStack := 1, maxLocals := 1, code := jdk_42_method_152_code, exceptionTable := #[], attributes := #[] }
def k7m7 : Method := { name := "coder", desc := "()B", sig := { parameters := [], returnType := some .byte }, accessFlags := 0, code := some k7c7 }
def k7c8 : Code := { maxStack := 1, maxLocals := 1, code := jdk_42_method_154_code, exceptionTable := #[], attributes := #[] }
def k7m8 : Method := { name := "isLatin1", desc := "()Z", sig := { parameters := [], returnType := some .boolean }, accessFlags := 0, code := some k7c8 }
def k7c9 : Code := { maxStack := 3, maxLocals := 2, code := jdk_42_method_155_code, exceptionTable := #[], attributes := #[] }
def k7m9 : Method := { name := "checkIndex", desc := "(II)V", sig := { parameters := [.int, .int], returnType := none }, accessFlags := 8, code := some k7c9 }
def k7c10 : Code := { maxStack := 4, maxLocals := 3, code := jdk_42_method_157_code, exceptionTable := #[], attributes := #[] }
def k7m10 : Method := { name := "checkBoundsOffCount", desc := "(III)I", sig := { parameters := [.int, .int, .int], returnType := some .int }, accessFlags := 8, code := some k7c10 }
/-- java/lang/String -/
def k7 : Class := { plain "java/lang/String" (some 0) with
  accessFlags := 49
  interfaces := #[2, 3, 4, 5, 6]
  cf := some (fileOf pool7 10 #[.nestMembers #[1103]] #[{ accessFlags := 1, nameIndex := 5, descriptorIndex := 6, attributes := #[] }, { accessFlags := 1, nameIndex := 5, descriptorIndex := 1010, attributes := #[] }, { accessFlags := 1, nameIndex := 507, descriptorIndex := 334, attributes := #[] }, { accessFlags := 1, nameIndex := 692, descriptorIndex := 142, attributes := #[] }, { accessFlags := 1, nameIndex := 497, descriptorIndex := 427, attributes := #[] }, { accessFlags := 1, nameIndex := 955, descriptorIndex := 956, attributes := #[] }, { accessFlags := 2, nameIndex := 5, descriptorIndex := 29, attributes := #[] }, { accessFlags := 0, nameIndex := 17, descriptorIndex := 337, attributes := #[] }, { accessFlags := 0, nameIndex := 494, descriptorIndex := 142, attributes := #[] }, { accessFlags := 8, nameIndex := 501, descriptorIndex := 391, attributes := #[] }, { accessFlags := 8, nameIndex := 36, descriptorIndex := 37, attributes := #[] }] 49 2 #[1106, 1108, 575, 1110, 1112] #[{ accessFlags := 18, nameIndex := 13, descriptorIndex := 14, attributes := #[] }, { accessFlags := 18, nameIndex := 17, descriptorIndex := 18, attributes := #[] }, { accessFlags := 2, nameIndex := 21, descriptorIndex := 22, attributes := #[] }, { accessFlags := 2, nameIndex := 25, descriptorIndex := 26, attributes := #[] }, { accessFlags := 26, nameIndex := 1116, descriptorIndex := 1117, attributes := #[] }, { accessFlags := 24, nameIndex := 40, descriptorIndex := 26, attributes := #[] }, { accessFlags := 26, nameIndex := 1101, descriptorIndex := 1102, attributes := #[] }, { accessFlags := 26, nameIndex := 1121, descriptorIndex := 1122, attributes := #[] }, { accessFlags := 25, nameIndex := 599, descriptorIndex := 600, attributes := #[] }, { accessFlags := 24, nameIndex := 1125, descriptorIndex := 18, attributes := #[] }, { accessFlags := 24, nameIndex := 1127, descriptorIndex := 18, attributes := #[] }])
  fields := #[{ name := "value", type := (.array .byte), accessFlags := 18, slot := 0, constantValue := 0 }, { name := "coder", type := .byte, accessFlags := 18, slot := 1, constantValue := 0 }, { name := "hash", type := .int, accessFlags := 2, slot := 2, constantValue := 0 }, { name := "hashIsZero", type := .boolean, accessFlags := 2, slot := 3, constantValue := 0 }, { name := "serialVersionUID", type := .long, accessFlags := 26, slot := 0, constantValue := 0 }, { name := "COMPACT_STRINGS", type := .boolean, accessFlags := 24, slot := 1, constantValue := 0 }, { name := "serialPersistentFields", type := (.array (.object "java/io/ObjectStreamField")), accessFlags := 26, slot := 2, constantValue := 0 }, { name := "REPL", type := .char, accessFlags := 26, slot := 3, constantValue := 0 }, { name := "CASE_INSENSITIVE_ORDER", type := (.object "java/util/Comparator"), accessFlags := 25, slot := 4, constantValue := 0 }, { name := "LATIN1", type := .byte, accessFlags := 24, slot := 5, constantValue := 0 }, { name := "UTF16", type := .byte, accessFlags := 24, slot := 6, constantValue := 0 }]
  methods := #[k7m0, k7m1, k7m2, k7m3, k7m4, k7m5, k7m6, k7m7, k7m8, k7m9, k7m10]
  instanceTypes := #[(.array .byte), .byte, .int, .boolean]
  staticTypes := #[.long, .boolean, (.array (.object "java/io/ObjectStreamField")), .char, (.object "java/util/Comparator"), .byte, .byte]
  resolved := Array.replicate 1451 none
  statics := some 0 }

def pool8 : Array CpInfo := pool [(3, .class_ 4), (0, u "java/lang/String"), (1, .class_ 8), (1, u "java/lang/Object"), (0, u "<init>"), (0, u "()V"), (0, .methodref 12 13), (0, .class_ 14), (0, .nameAndType 15 16), (0, u "java/lang/StringUTF16"), (0, u "newBytesLength"), (0, u "(I)I"), (3, .integer 1073741823), (23, .fieldref 12 45), (0, .nameAndType 46 47), (0, u "$assertionsDisabled"), (0, u "Z"), (0, .methodref 12 49), (0, .nameAndType 50 51), (0, u "length"), (0, u "([B)I"), (7, .fieldref 12 60), (0, .nameAndType 61 62), (0, u "HI_BYTE_SHIFT"), (0, u "I"), (0, .fieldref 12 64), (0, .nameAndType 65 62), (0, u "LO_BYTE_SHIFT"), (1, .methodref 12 68), (0, .nameAndType 69 70), (0, u "checkIndex"), (0, u "(I[B)V"), (0, .methodref 12 72), (0, .nameAndType 73 74), (0, u "getChar"), (0, u "([BI)C"), (24, u "(II[B)V"), (3, .methodref 12 104), (0, .nameAndType 105 106), (0, u "getChars"), (0, u "([BII[CI)V"), (0, .methodref 12 108), (0, .nameAndType 109 110), (0, u "newBytesFor"), (0, u "(I)[B"), (0, .methodref 12 112), (0, .nameAndType 113 114), (0, u "putChar"), (0, u "([BII)V"), (0, .methodref 12 116), (0, .nameAndType 117 118), (0, u "compress"), (0, u "([CI[BII)I"), (0, .methodref 12 120), (0, .nameAndType 121 122), (0, u "toBytes"), (0, u "([CII)[B"), (50, .methodref 12 174), (0, .nameAndType 175 99), (0, u "checkBoundsOffCount"), (85, u "coderFromArrayLen"), (0, u "([BI)B"), (18, u "(III)I"), (60, u "toChars"), (26, .class_ 371), (1, u "java/lang/StringUTF16$LinesSpliterator"), (20, u "charAt"), (21, .methodref 3 415), (0, .nameAndType 69 416), (0, u "(II)V"), (2, .methodref 3 420), (0, .nameAndType 175 281), (9, u "MAX_LENGTH"), (23, u "([B)[C"), (172, .class_ 628), (0, u "java/lang/StringUTF16$CodePointsSpliterator"), (0, .class_ 630), (0, u "java/lang/StringUTF16$CharsSpliterator")] 4

def k8m0 : Method := { name := "<init>", desc := "()V", sig := { parameters := [], returnType := none }, accessFlags := 0, code := none }
def k8c1 : Code := { maxStack := 1, maxLocals := 1, code := jdk_52_method_2_code, exceptionTable := #[], attributes := #[] }
def k8m1 : Method := { name := "newBytesFor", desc := "(I)[B", sig := { parameters := [.int], returnType := some (.array .byte) }, accessFlags := 9, code := some k8c1 }
def k8c2 : Code := { maxStack := 4, maxLocals := 1, code := jdk_52_method_3_code, exceptionTable := #[], attributes := #[] }
def k8m2 : Method := { name := "newBytesLength", desc := "(I)I", sig := { parameters := [.int], returnType := some .int }, accessFlags := 9, code := some k8c2 }
def k8c3 : Code := { maxStack := 4, maxLocals := 3, code := jdk_52_method_4_code, exceptionTable := #[], attributes := #[] }
def k8m3 : Method := { name := "putChar", desc := "([BII)V", sig := { parameters := [(.array .byte), .int, .int], returnType := none }, accessFlags := 8, code := some k8c3 }
def k8c4 : Code := { maxStack := 3, maxLocals := 2, code := jdk_52_method_5_code, exceptionTable := #[], attributes := #[] }
def k8m4 : Method := { name := "getChar", desc := "([BI)C", sig := { parameters := [(.array .byte), .int], returnType := some .char }, accessFlags := 8, code := some k8c4 }
def k8c5 : Code := { maxStack := 2, maxLocals := 1, code := jdk_52_method_6_code, exceptionTable := #[], attributes := #[] }
def k8m5 : Method := { name := "length", desc := "([B)I", sig := { parameters := [(.array .byte)], returnType := some .int }, accessFlags := 9, code := some k8c5 }
def k8c6 : Code := { maxStack := 5, maxLocals := 2, code := jdk_52_method_13_code, exceptionTable := #[], attributes := #[] }
def k8m6 : Method := { name := "toChars", desc := "([B)[C", sig := { parameters := [(.array .byte)], returnType := some (.array .char) }, accessFlags := 9, code := some k8c6 }
def k8c7 : Code := { maxStack := 4, maxLocals := 5, code := jdk_52_method_14_code, exceptionTable := #[], attributes := #[] }
def k8m7 : Method := { name := "toBytes", desc := "([CII)[B", sig := { parameters := [(.array .char), .int, .int], returnType := some (.array .byte) }, accessFlags := 9, code := some k8c7 }
def k8c8 : Code := { maxStack := 2, maxLocals := 2, code := jdk_52_method_15_code, exceptionTable := #[], attributes := #[] }
def k8m8 : Method := { name := "coderFromArrayLen", desc := "([BI)B", sig := { parameters := [(.array .byte), .int], returnType := some .byte }, accessFlags := 8, code := some k8c8 }
def k8c9 : Code := { maxStack := 5, maxLocals := 6, code := jdk_52_method_16_code, exceptionTable := #[], attributes := #[] }
def k8m9 : Method := { name := "compress", desc := "([CII)[B", sig := { parameters := [(.array .char), .int, .int], returnType := some (.array .byte) }, accessFlags := 9, code := some k8c9 }
def k8c10 : Code := { maxStack := 3, maxLocals := 7, code := jdk_52_method_21_code, exceptionTable := #[], attributes := #[] }
def k8m10 : Method := { name := "compress", desc := "([CI[BII)I", sig := { parameters := [(.array .char), .int, (.array .byte), .int, .int], returnType := some .int }, accessFlags := 9, code := some k8c10 }
def k8c11 : Code := { maxStack := 4, maxLocals := 6, code := jdk_52_method_26_code, exceptionTable := #[], attributes := #[] }
def k8m11 : Method := { name := "getChars", desc := "([BII[CI)V", sig := { parameters := [(.array .byte), .int, .int, (.array .char), .int], returnType := none }, accessFlags := 9, code := some k8c11 }
def k8c12 : Code := { maxStack := 2, maxLocals := 2, code := jdk_52_method_83_code, exceptionTable := #[], attributes := #[] }
def k8m12 : Method := { name := "charAt", desc := "([BI)C", sig := { parameters := [(.array .byte), .int], returnType := some .char }, accessFlags := 9, code := some k8c12 }
def k8c13 : Code := { maxStack := 2, maxLocals := 2, code := jdk_52_method_91_code, exceptionTable := #[], attributes := #[] }
def k8m13 : Method := { name := "checkIndex", desc := "(I[B)V", sig := { parameters := [.int, (.array .byte)], returnType := none }, accessFlags := 9, code := some k8c13 }
def k8c14 : Code := { maxStack := 3, maxLocals := 3, code := jdk_52_method_94_code, exceptionTable := #[], attributes := #[] }
def k8m14 : Method := { name := "checkBoundsOffCount", desc := "(II[B)V", sig := { parameters := [.int, .int, (.array .byte)], returnType := none }, accessFlags := 9, code := some k8c14 }
/-- java/lang/StringUTF16 -/
def k8 : Class := { plain "java/lang/StringUTF16" (some 0) with
  accessFlags := 48
  interfaces := #[]
  cf := some (fileOf pool8 12 #[.nestMembers #[627, 629, 369]] #[{ accessFlags := 0, nameIndex := 9, descriptorIndex := 10, attributes := #[] }, { accessFlags := 9, nameIndex := 109, descriptorIndex := 110, attributes := #[] }, { accessFlags := 9, nameIndex := 15, descriptorIndex := 16, attributes := #[] }, { accessFlags := 8, nameIndex := 113, descriptorIndex := 114, attributes := #[] }, { accessFlags := 8, nameIndex := 73, descriptorIndex := 74, attributes := #[] }, { accessFlags := 9, nameIndex := 50, descriptorIndex := 51, attributes := #[] }, { accessFlags := 9, nameIndex := 342, descriptorIndex := 454, attributes := #[] }, { accessFlags := 9, nameIndex := 121, descriptorIndex := 122, attributes := #[] }, { accessFlags := 8, nameIndex := 261, descriptorIndex := 262, attributes := #[] }, { accessFlags := 9, nameIndex := 117, descriptorIndex := 122, attributes := #[] }, { accessFlags := 9, nameIndex := 117, descriptorIndex := 118, attributes := #[] }, { accessFlags := 9, nameIndex := 105, descriptorIndex := 106, attributes := #[] }, { accessFlags := 9, nameIndex := 392, descriptorIndex := 74, attributes := #[] }, { accessFlags := 9, nameIndex := 69, descriptorIndex := 70, attributes := #[] }, { accessFlags := 9, nameIndex := 175, descriptorIndex := 99, attributes := #[] }] 48 6 #[] #[{ accessFlags := 26, nameIndex := 61, descriptorIndex := 62, attributes := #[] }, { accessFlags := 26, nameIndex := 65, descriptorIndex := 62, attributes := #[] }, { accessFlags := 24, nameIndex := 430, descriptorIndex := 62, attributes := #[] }, { accessFlags := 4120, nameIndex := 46, descriptorIndex := 47, attributes := #[] }])
  fields := #[{ name := "HI_BYTE_SHIFT", type := .int, accessFlags := 26, slot := 0, constantValue := 0 }, { name := "LO_BYTE_SHIFT", type := .int, accessFlags := 26, slot := 1, constantValue := 0 }, { name := "MAX_LENGTH", type := .int, accessFlags := 24, slot := 2, constantValue := 0 }, { name := "$assertionsDisabled", type := .boolean, accessFlags := 4120, slot := 3, constantValue := 0 }]
  methods := #[k8m0, k8m1, k8m2, k8m3, k8m4, k8m5, k8m6, k8m7, k8m8, k8m9, k8m10, k8m11, k8m12, k8m13, k8m14]
  instanceTypes := #[]
  staticTypes := #[.int, .int, .int, .boolean]
  resolved := Array.replicate 635 none
  statics := some 1 }

def pool9 : Array CpInfo := pool [(2, .class_ 4), (1, u "java/lang/Object"), (0, u "<init>"), (6, .class_ 13), (0, u "com/example/perdura/perdura/store/TableLayout"), (12, u "table"), (0, u "Ljava/lang/String;"), (6, u "parentColumns"), (0, u "Ljava/util/List;"), (2, u "columns"), (25, u "(Ljava/lang/String;)Ljava/lang/String;"), (7, .class_ 74), (1, u "java/lang/String"), (19, .methodref 72 95), (0, .nameAndType 96 97), (0, u "toCharArray"), (0, u "()[C"), (0, .methodref 72 99), (0, .nameAndType 5 100), (0, u "([C)V"), (6, u "foldCase"), (2, u "RESERVED_PREFIXES"), (68, u "ID_COLUMN"), (1, u "PAYLOAD_COLUMN"), (0, u "PARENT_COLUMN_SUFFIX")] 40

def k9c0 : Code := { maxStack := 4, maxLocals := 3, code := prog_3_method_6_code, exceptionTable := #[], attributes := #[] }
def k9m0 : Method := { name := "foldCase", desc := "(Ljava/lang/String;)Ljava/lang/String;", sig := { parameters := [(.object "java/lang/String")], returnType := some (.object "java/lang/String") }, accessFlags := 8, code := some k9c0 }
/-- com/example/perdura/perdura/store/TableLayout -/
def k9 : Class := { plain "com/example/perdura/perdura/store/TableLayout" (some 0) with
  accessFlags := 49
  interfaces := #[]
  cf := some (fileOf pool9 12 #[] #[{ accessFlags := 8, nameIndex := 107, descriptorIndex := 64, attributes := #[] }] 49 2 #[] #[{ accessFlags := 25, nameIndex := 179, descriptorIndex := 27, attributes := #[] }, { accessFlags := 25, nameIndex := 181, descriptorIndex := 27, attributes := #[] }, { accessFlags := 26, nameIndex := 182, descriptorIndex := 27, attributes := #[] }, { accessFlags := 26, nameIndex := 110, descriptorIndex := 35, attributes := #[] }, { accessFlags := 18, nameIndex := 26, descriptorIndex := 27, attributes := #[] }, { accessFlags := 18, nameIndex := 34, descriptorIndex := 35, attributes := #[] }, { accessFlags := 18, nameIndex := 38, descriptorIndex := 35, attributes := #[] }])
  fields := #[{ name := "ID_COLUMN", type := (.object "java/lang/String"), accessFlags := 25, slot := 0, constantValue := 0 }, { name := "PAYLOAD_COLUMN", type := (.object "java/lang/String"), accessFlags := 25, slot := 1, constantValue := 0 }, { name := "PARENT_COLUMN_SUFFIX", type := (.object "java/lang/String"), accessFlags := 26, slot := 2, constantValue := 0 }, { name := "RESERVED_PREFIXES", type := (.object "java/util/List"), accessFlags := 26, slot := 3, constantValue := 0 }, { name := "table", type := (.object "java/lang/String"), accessFlags := 18, slot := 0, constantValue := 0 }, { name := "parentColumns", type := (.object "java/util/List"), accessFlags := 18, slot := 1, constantValue := 0 }, { name := "columns", type := (.object "java/util/List"), accessFlags := 18, slot := 2, constantValue := 0 }]
  methods := #[k9m0]
  instanceTypes := #[(.object "java/lang/String"), (.object "java/util/List"), (.object "java/util/List")]
  staticTypes := #[(.object "java/lang/String"), (.object "java/lang/String"), (.object "java/lang/String"), (.object "java/util/List")]
  resolved := Array.replicate 223 none
  statics := none }

def pool10 : Array CpInfo := pool [(1, .class_ 2), (0, u "java/lang/String"), (1, .class_ 6), (1, u "java/lang/Object"), (0, u "<init>"), (0, u "()V"), (0, .methodref 1 10), (0, .nameAndType 11 12), (0, u "checkIndex"), (0, u "(II)V"), (0, .methodref 14 15), (0, .class_ 16), (0, .nameAndType 17 18), (0, u "java/lang/StringLatin1"), (0, u "inflate"), (0, u "([BI[CII)V"), (34, u "([BI)C"), (67, u "$assertionsDisabled"), (0, u "Z"), (69, u "toChars"), (28, .class_ 223), (1, u "java/lang/StringLatin1$LinesSpliterator"), (28, u "charAt"), (15, u "([B)[C"), (121, .class_ 391), (0, u "java/lang/StringLatin1$CharsSpliterator")] 3

def k10m0 : Method := { name := "<init>", desc := "()V", sig := { parameters := [], returnType := none }, accessFlags := 0, code := none }
def k10c1 : Code := { maxStack := 2, maxLocals := 2, code := jdk_43_method_2_code, exceptionTable := #[], attributes := #[] }
def k10m1 : Method := { name := "charAt", desc := "([BI)C", sig := { parameters := [(.array .byte), .int], returnType := some .char }, accessFlags := 9, code := some k10c1 }
def k10c2 : Code := { maxStack := 5, maxLocals := 2, code := jdk_43_method_9_code, exceptionTable := #[], attributes := #[] }
def k10m2 : Method := { name := "toChars", desc := "([B)[C", sig := { parameters := [(.array .byte)], returnType := some (.array .char) }, accessFlags := 9, code := some k10c2 }
def k10c3 : Code := { maxStack := 4, maxLocals := 6, code := jdk_43_method_49_code, exceptionTable := #[], attributes := #[] }
def k10m3 : Method := { name := "inflate", desc := "([BI[CII)V", sig := { parameters := [(.array .byte), .int, (.array .char), .int, .int], returnType := none }, accessFlags := 9, code := some k10c3 }
/-- java/lang/StringLatin1 -/
def k10 : Class := { plain "java/lang/StringLatin1" (some 0) with
  accessFlags := 48
  interfaces := #[]
  cf := some (fileOf pool10 14 #[.nestMembers #[390, 221]] #[{ accessFlags := 0, nameIndex := 7, descriptorIndex := 8, attributes := #[] }, { accessFlags := 9, nameIndex := 252, descriptorIndex := 53, attributes := #[] }, { accessFlags := 9, nameIndex := 192, descriptorIndex := 268, attributes := #[] }, { accessFlags := 9, nameIndex := 17, descriptorIndex := 18, attributes := #[] }] 48 4 #[] #[{ accessFlags := 4120, nameIndex := 121, descriptorIndex := 122, attributes := #[] }])
  fields := #[{ name := "$assertionsDisabled", type := .boolean, accessFlags := 4120, slot := 0, constantValue := 0 }]
  methods := #[k10m0, k10m1, k10m2, k10m3]
  instanceTypes := #[]
  staticTypes := #[.boolean]
  resolved := Array.replicate 395 none
  statics := none }

def pool11 : Array CpInfo := pool [(2, .class_ 4), (1, u "java/lang/Object"), (0, u "<init>"), (0, u "()V"), (17, .class_ 26), (1, u "jdk/internal/util/Preconditions"), (6, u "checkIndex"), (15, u "checkFromIndexSize"), (5, .class_ 56), (0, u "jdk/internal/util/Preconditions$4"), (57, .class_ 115), (0, u "jdk/internal/util/Preconditions$1"), (7, u "SIOOBE_FORMATTER"), (0, u "Ljava/util/function/BiFunction;"), (0, .class_ 126), (0, u "jdk/internal/util/Preconditions$2"), (3, u "AIOOBE_FORMATTER"), (0, .class_ 132), (0, u "jdk/internal/util/Preconditions$3"), (3, u "IOOBE_FORMATTER"), (41, u "(IILjava/util/function/BiFunction;)I"), (4, u "(IIILjava/util/function/BiFunction;)I")] 10

def k11m0 : Method := { name := "<init>", desc := "()V", sig := { parameters := [], returnType := none }, accessFlags := 1, code := none }
def k11c1 : Code := { maxStack := 3, maxLocals := 3, code := jdk_41_method_11_code, exceptionTable := #[], attributes := #[] }
def k11m1 : Method := { name := "checkIndex", desc := "(IILjava/util/function/BiFunction;)I", sig := { parameters := [.int, .int, (.object "java/util/function/BiFunction")], returnType := some .int }, accessFlags := 9, code := some k11c1 }
def k11c2 : Code := { maxStack := 4, maxLocals := 4, code := jdk_41_method_13_code, exceptionTable := #[], attributes := #[] }
def k11m2 : Method := { name := "checkFromIndexSize", desc := "(IIILjava/util/function/BiFunction;)I", sig := { parameters := [.int, .int, .int, (.object "java/util/function/BiFunction")], returnType := some .int }, accessFlags := 9, code := some k11c2 }
/-- jdk/internal/util/Preconditions -/
def k11 : Class := { plain "jdk/internal/util/Preconditions" (some 0) with
  accessFlags := 33
  interfaces := #[]
  cf := some (fileOf pool11 24 #[.nestMembers #[55, 131, 125, 114]] #[{ accessFlags := 1, nameIndex := 5, descriptorIndex := 6, attributes := #[] }, { accessFlags := 9, nameIndex := 33, descriptorIndex := 178, attributes := #[] }, { accessFlags := 9, nameIndex := 49, descriptorIndex := 183, attributes := #[] }] 33 2 #[] #[{ accessFlags := 25, nameIndex := 123, descriptorIndex := 124, attributes := #[] }, { accessFlags := 25, nameIndex := 130, descriptorIndex := 124, attributes := #[] }, { accessFlags := 25, nameIndex := 136, descriptorIndex := 124, attributes := #[] }])
  fields := #[{ name := "SIOOBE_FORMATTER", type := (.object "java/util/function/BiFunction"), accessFlags := 25, slot := 0, constantValue := 0 }, { name := "AIOOBE_FORMATTER", type := (.object "java/util/function/BiFunction"), accessFlags := 25, slot := 1, constantValue := 0 }, { name := "IOOBE_FORMATTER", type := (.object "java/util/function/BiFunction"), accessFlags := 25, slot := 2, constantValue := 0 }]
  methods := #[k11m0, k11m1, k11m2]
  instanceTypes := #[]
  staticTypes := #[(.object "java/util/function/BiFunction"), (.object "java/util/function/BiFunction"), (.object "java/util/function/BiFunction")]
  resolved := Array.replicate 194 none
  statics := some 2 }

def pool12 : Array CpInfo := pool [(9, u "<init>"), (6, .class_ 18), (1, u "java/lang/Object"), (0, u "()V"), (1, .class_ 23), (1, u "jdk/internal/util/ArraysSupport"), (0, u "LOG2_ARRAY_LONG_INDEX_SCALE"), (0, u "I"), (2, u "U"), (0, u "Ljdk/internal/misc/Unsafe;"), (8, u "BIG_ENDIAN"), (0, u "Z"), (8, u "LOG2_BYTE_BIT_SIZE"), (4, u "LOG2_ARRAY_INT_INDEX_SCALE"), (54, u "JLA"), (0, u "Ljdk/internal/access/JavaLangAccess;"), (11, u "LOG2_ARRAY_BOOLEAN_INDEX_SCALE"), (9, u "LOG2_ARRAY_BYTE_INDEX_SCALE"), (5, u "LOG2_ARRAY_CHAR_INDEX_SCALE"), (5, u "LOG2_ARRAY_SHORT_INDEX_SCALE"), (18, u "LOG2_ARRAY_FLOAT_INDEX_SCALE"), (24, u "LOG2_ARRAY_DOUBLE_INDEX_SCALE"), (89, u "T_BOOLEAN"), (2, u "T_CHAR"), (1, u "T_FLOAT"), (1, u "T_DOUBLE"), (1, u "T_BYTE"), (1, u "T_SHORT"), (1, u "T_INT"), (1, u "T_LONG"), (1, u "SOFT_MAX_ARRAY_LENGTH")] 83

def k12m0 : Method := { name := "<init>", desc := "()V", sig := { parameters := [], returnType := none }, accessFlags := 2, code := none }
/-- jdk/internal/util/ArraysSupport -/
def k12 : Class := { plain "jdk/internal/util/ArraysSupport" (some 0) with
  accessFlags := 33
  interfaces := #[]
  cf := some (fileOf pool12 21 #[] #[{ accessFlags := 2, nameIndex := 9, descriptorIndex := 19, attributes := #[] }] 33 16 #[] #[{ accessFlags := 24, nameIndex := 28, descriptorIndex := 29, attributes := #[] }, { accessFlags := 26, nameIndex := 38, descriptorIndex := 39, attributes := #[] }, { accessFlags := 25, nameIndex := 121, descriptorIndex := 25, attributes := #[] }, { accessFlags := 25, nameIndex := 131, descriptorIndex := 25, attributes := #[] }, { accessFlags := 25, nameIndex := 137, descriptorIndex := 25, attributes := #[] }, { accessFlags := 25, nameIndex := 143, descriptorIndex := 25, attributes := #[] }, { accessFlags := 25, nameIndex := 53, descriptorIndex := 25, attributes := #[] }, { accessFlags := 25, nameIndex := 24, descriptorIndex := 25, attributes := #[] }, { accessFlags := 25, nameIndex := 162, descriptorIndex := 25, attributes := #[] }, { accessFlags := 25, nameIndex := 187, descriptorIndex := 25, attributes := #[] }, { accessFlags := 26, nameIndex := 48, descriptorIndex := 25, attributes := #[] }, { accessFlags := 25, nameIndex := 277, descriptorIndex := 25, attributes := #[] }, { accessFlags := 25, nameIndex := 280, descriptorIndex := 25, attributes := #[] }, { accessFlags := 25, nameIndex := 282, descriptorIndex := 25, attributes := #[] }, { accessFlags := 25, nameIndex := 284, descriptorIndex := 25, attributes := #[] }, { accessFlags := 25, nameIndex := 286, descriptorIndex := 25, attributes := #[] }, { accessFlags := 25, nameIndex := 288, descriptorIndex := 25, attributes := #[] }, { accessFlags := 25, nameIndex := 290, descriptorIndex := 25, attributes := #[] }, { accessFlags := 25, nameIndex := 292, descriptorIndex := 25, attributes := #[] }, { accessFlags := 26, nameIndex := 108, descriptorIndex := 109, attributes := #[] }, { accessFlags := 25, nameIndex := 294, descriptorIndex := 25, attributes := #[] }])
  fields := #[{ name := "U", type := (.object "jdk/internal/misc/Unsafe"), accessFlags := 24, slot := 0, constantValue := 0 }, { name := "BIG_ENDIAN", type := .boolean, accessFlags := 26, slot := 1, constantValue := 0 }, { name := "LOG2_ARRAY_BOOLEAN_INDEX_SCALE", type := .int, accessFlags := 25, slot := 2, constantValue := 0 }, { name := "LOG2_ARRAY_BYTE_INDEX_SCALE", type := .int, accessFlags := 25, slot := 3, constantValue := 0 }, { name := "LOG2_ARRAY_CHAR_INDEX_SCALE", type := .int, accessFlags := 25, slot := 4, constantValue := 0 }, { name := "LOG2_ARRAY_SHORT_INDEX_SCALE", type := .int, accessFlags := 25, slot := 5, constantValue := 0 }, { name := "LOG2_ARRAY_INT_INDEX_SCALE", type := .int, accessFlags := 25, slot := 6, constantValue := 0 }, { name := "LOG2_ARRAY_LONG_INDEX_SCALE", type := .int, accessFlags := 25, slot := 7, constantValue := 0 }, { name := "LOG2_ARRAY_FLOAT_INDEX_SCALE", type := .int, accessFlags := 25, slot := 8, constantValue := 0 }, { name := "LOG2_ARRAY_DOUBLE_INDEX_SCALE", type := .int, accessFlags := 25, slot := 9, constantValue := 0 }, { name := "LOG2_BYTE_BIT_SIZE", type := .int, accessFlags := 26, slot := 10, constantValue := 0 }, { name := "T_BOOLEAN", type := .int, accessFlags := 25, slot := 11, constantValue := 0 }, { name := "T_CHAR", type := .int, accessFlags := 25, slot := 12, constantValue := 0 }, { name := "T_FLOAT", type := .int, accessFlags := 25, slot := 13, constantValue := 0 }, { name := "T_DOUBLE", type := .int, accessFlags := 25, slot := 14, constantValue := 0 }, { name := "T_BYTE", type := .int, accessFlags := 25, slot := 15, constantValue := 0 }, { name := "T_SHORT", type := .int, accessFlags := 25, slot := 16, constantValue := 0 }, { name := "T_INT", type := .int, accessFlags := 25, slot := 17, constantValue := 0 }, { name := "T_LONG", type := .int, accessFlags := 25, slot := 18, constantValue := 0 }, { name := "JLA", type := (.object "jdk/internal/access/JavaLangAccess"), accessFlags := 26, slot := 19, constantValue := 0 }, { name := "SOFT_MAX_ARRAY_LENGTH", type := .int, accessFlags := 25, slot := 20, constantValue := 0 }]
  methods := #[k12m0]
  instanceTypes := #[]
  staticTypes := #[(.object "jdk/internal/misc/Unsafe"), .boolean, .int, .int, .int, .int, .int, .int, .int, .int, .int, .int, .int, .int, .int, .int, .int, .int, .int, (.object "jdk/internal/access/JavaLangAccess"), .int]
  resolved := Array.replicate 378 none
  statics := none }

def pool13 : Array CpInfo := pool [(1, u "java/lang/Cloneable"), (0, .class_ 1), (0, u "java/lang/Object"), (0, .class_ 3)] 3

/-- java/lang/Cloneable -/
def k13 : Class := { plain "java/lang/Cloneable" (some 0) with
  accessFlags := 1537
  interfaces := #[]
  cf := some (fileOf pool13 2 #[] #[] 1537 4 #[] #[])
  fields := #[]
  methods := #[]
  instanceTypes := #[]
  staticTypes := #[]
  resolved := Array.replicate 8 none
  statics := none }

/-- the primitive byte -/
def k14 : Class := { plain "byte" none with kind := .primitive 'B', accessFlags := 0x411 }
/-- [B -/
def k15 : Class := { plain "[B" (some 0) with kind := .array 14 .byte, interfaces := #[13, 2], accessFlags := 1041 }

/-- the primitive char -/
def k16 : Class := { plain "char" none with kind := .primitive 'C', accessFlags := 0x411 }
/-- [C -/
def k17 : Class := { plain "[C" (some 0) with kind := .array 16 .char, interfaces := #[13, 2], accessFlags := 1041 }

/-- the primitive int -/
def k18 : Class := { plain "int" none with kind := .primitive 'I', accessFlags := 0x411 }
/-- [I -/
def k19 : Class := { plain "[I" (some 0) with kind := .array 18 .int, interfaces := #[13, 2], accessFlags := 1041 }

def heap : Heap := #[{ cls := 7, slots := #[.long 0, .int 1, .null, .int 0, .null, .int 0, .int 0], vm := .statics 7 },
  { cls := 8, slots := #[.int 0, .int 8, .int 0, .int 1], vm := .statics 8 },
  { cls := 11, slots := #[.null, .null, .null], vm := .statics 11 }]
def classes : Array Class := #[k0, k1, k2, k3, k4, k5, k6, k7, k8, k9, k10, k11, k12, k13, k14, k15, k16, k17, k18, k19]
def interned : List (Array UInt16 × Addr) := []
def slotsUsed : Nat := 14
def theMethod : MethodId := ⟨1, 2⟩
def args0 : Array Value := #[.int 65, .int 66]
def aboutOver (below : List Frame) : State where
  vm := { classes := classes, interned := interned.toArray }
  heap := heap
  slotsUsed := slotsUsed
  threads := #[{ frames := .invoking theMethod args0 :: below }]
def below0 : List Frame := [.native { method := ⟨0, 0⟩, args := #[] }]
def about1 : State := aboutOver below0
def p0 : Program := .bare "" "" ""
def e0 : Env := launch0.env 0 0 0
theorem w_frames : about1.frames = Frame.invoking theMethod args0 :: below0 := rfl
set_option maxRecDepth 65536 in
theorem w_args : argsFit about1.vm theMethod args0 = true := by decide +kernel
set_option maxRecDepth 65536 in
theorem w_heap : heapFits about1 = true := by decide +kernel
set_option maxRecDepth 65536 in
theorem w_runnable : about1.curStatus? = some .runnable := by decide +kernel
set_option maxRecDepth 65536 in
theorem w_alone : about1.alone = true := by decide +kernel
set_option maxRecDepth 65536 in
theorem w_named : about1.methodNamed? x = some theMethod := by decide +kernel
set_option maxRecDepth 65536 in
theorem w_hears : about1.hears theMethod below0 = true := by decide +kernel
set_option maxRecDepth 65536 in
theorem w_ripe : about1.ripe theMethod args0 below0 = true := by decide +kernel
theorem w_running : about1.status = .running := rfl
set_option maxRecDepth 65536 in
theorem w_room : about1.hasRoom e0.platform room_1 = true :=
  launch0.hasRoom_least _ room_1 (by decide +kernel) (by decide +kernel) (by decide +kernel) (by decide +kernel) (by decide +kernel) (by decide +kernel)
theorem allAtoms_all (ts : List Jvm.Cond) (a : Array Jvm.Value) (st : Jvm.State) : (allAtoms ts).before a st = ts.all (fun c => c.before a st) := by
  induction ts with
  | nil => rfl
  | cons c t ih =>
    show (Jvm.Cond.and c (allAtoms t)).before a st = _
    rw [Jvm.Cond.before_and, ih, List.all_cons]
def words1 : List Jvm.Cond := Jvm.Cond.code x code maxLocals ret :: tables_1
/-- a 'code' word, met by the world's own term for the bytes: nothing is compared byte by byte -/
theorem code_word {y : MethodName} {bytes : ByteArray} {mx : Nat} {rt : Option FieldType} {a : Array Value} {s : State} {m : MethodId} {meth : Method} {c : Code} (h1 : s.methodNamed? y = some m) (h2 : s.vm.method? m = some meth) (h3 : meth.code = some c) (h4 : c.code = bytes)
    (h5 : (c.maxLocals == mx && c.exceptionTable.isEmpty && decide (c.maxStack ≤ mostOperands) && decide (meth.sig.returnType = rt) && !meth.locks && decide (parseMethodDescriptor y.desc = some meth.sig)) = true) : (Jvm.Cond.code y bytes mx rt).before a s = true := by
  simp only [Bool.and_eq_true, beq_iff_eq, Bool.not_eq_true', decide_eq_true_eq] at h5
  obtain ⟨⟨⟨⟨⟨g1, g2⟩, g3⟩, g4⟩, g5⟩, g6⟩ := h5
  simp [Cond.before, Cond.holds, Cond.value, h1, h2, h3, h4, g1, g2, g3, g4, g5, g6]
def isCode : Jvm.Cond → Bool
  | .code _ _ _ _ => true
  | _ => false
theorem all_split {L : List Jvm.Cond} {P : Jvm.Cond → Bool} (h1 : L.all (fun c => isCode c || P c) = true) (h2 : ∀ c ∈ L.filter isCode, P c = true) : L.all P = true := by
  refine List.all_eq_true.mpr fun c hc => ?_
  have h := List.all_eq_true.mp h1 c hc
  rcases Bool.eq_false_or_eq_true (isCode c) with hi | hi
  · exact h2 c (List.mem_filter.mpr ⟨hc, hi⟩)
  · simpa [hi] using h
set_option maxRecDepth 65536 in
theorem w_c0 : (Jvm.Cond.code x code maxLocals ret).before args0 about1 = true := code_word (m := ⟨1, 2⟩) (meth := k1m2) (c := k1c2) (by decide +kernel) rfl rfl rfl (by decide +kernel)
set_option maxRecDepth 65536 in
theorem w_c1 : (Jvm.Cond.code ({ cls := "java/lang/String", name := "<init>", desc := "([C)V" } : Jvm.MethodName) jdk_42_method_3_code (2 : Nat) (Option.none : Option Jvm.ClassFile.FieldType)).before args0 about1 = true := code_word (m := ⟨7, 1⟩) (meth := k7m1) (c := k7c1) (by decide +kernel) rfl rfl rfl (by decide +kernel)
set_option maxRecDepth 65536 in
theorem w_c2 : (Jvm.Cond.code ({ cls := "java/lang/String", name := "<init>", desc := "([CIILjava/lang/Void;)V" } : Jvm.MethodName) jdk_42_method_149_code (6 : Nat) (Option.none : Option Jvm.ClassFile.FieldType)).before args0 about1 = true := code_word (m := ⟨7, 6⟩) (meth := k7m6) (c := k7c6) (by decide +kernel) rfl rfl rfl (by decide +kernel)
set_option maxRecDepth 65536 in
theorem w_c3 : (Jvm.Cond.code ({ cls := "java/lang/Object", name := "<init>", desc := "()V" } : Jvm.MethodName) object_method_1_code (1 : Nat) (Option.none : Option Jvm.ClassFile.FieldType)).before args0 about1 = true := code_word (m := ⟨0, 0⟩) (meth := k0m0) (c := k0c0) (by decide +kernel) rfl rfl rfl (by decide +kernel)
set_option maxRecDepth 65536 in
theorem w_c4 : (Jvm.Cond.code ({ cls := "java/lang/StringUTF16", name := "compress", desc := "([CII)[B" } : Jvm.MethodName) jdk_52_method_16_code (6 : Nat) (Option.some (Jvm.ClassFile.FieldType.array Jvm.ClassFile.FieldType.byte))).before args0 about1 = true := code_word (m := ⟨8, 9⟩) (meth := k8m9) (c := k8c9) (by decide +kernel) rfl rfl rfl (by decide +kernel)
set_option maxRecDepth 65536 in
theorem w_c5 : (Jvm.Cond.code ({ cls := "java/lang/StringUTF16", name := "compress", desc := "([CI[BII)I" } : Jvm.MethodName) jdk_52_method_21_code (7 : Nat) (Option.some Jvm.ClassFile.FieldType.int)).before args0 about1 = true := code_word (m := ⟨8, 10⟩) (meth := k8m10) (c := k8c10) (by decide +kernel) rfl rfl rfl (by decide +kernel)
set_option maxRecDepth 65536 in
theorem w_c6 : (Jvm.Cond.code ({ cls := "java/lang/StringUTF16", name := "coderFromArrayLen", desc := "([BI)B" } : Jvm.MethodName) jdk_52_method_15_code (2 : Nat) (Option.some Jvm.ClassFile.FieldType.byte)).before args0 about1 = true := code_word (m := ⟨8, 8⟩) (meth := k8m8) (c := k8c8) (by decide +kernel) rfl rfl rfl (by decide +kernel)
set_option maxRecDepth 65536 in
theorem w_c7 : (Jvm.Cond.code ({ cls := "com/example/perdura/perdura/store/TableLayout", name := "foldCase", desc := "(Ljava/lang/String;)Ljava/lang/String;" } : Jvm.MethodName) prog_3_method_6_code (3 : Nat) (Option.some (Jvm.ClassFile.FieldType.object "java/lang/String"))).before args0 about1 = true := code_word (m := ⟨9, 0⟩) (meth := k9m0) (c := k9c0) (by decide +kernel) rfl rfl rfl (by decide +kernel)
set_option maxRecDepth 65536 in
theorem w_c8 : (Jvm.Cond.code ({ cls := "java/lang/String", name := "toCharArray", desc := "()[C" } : Jvm.MethodName) jdk_42_method_129_code (1 : Nat) (Option.some (Jvm.ClassFile.FieldType.array Jvm.ClassFile.FieldType.char))).before args0 about1 = true := code_word (m := ⟨7, 5⟩) (meth := k7m5) (c := k7c5) (by decide +kernel) rfl rfl rfl (by decide +kernel)
set_option maxRecDepth 65536 in
theorem w_c9 : (Jvm.Cond.code ({ cls := "java/lang/String", name := "isLatin1", desc := "()Z" } : Jvm.MethodName) jdk_42_method_154_code (1 : Nat) (Option.some Jvm.ClassFile.FieldType.boolean)).before args0 about1 = true := code_word (m := ⟨7, 8⟩) (meth := k7m8) (c := k7c8) (by decide +kernel) rfl rfl rfl (by decide +kernel)
set_option maxRecDepth 65536 in
theorem w_c10 : (Jvm.Cond.code ({ cls := "java/lang/StringLatin1", name := "toChars", desc := "([B)[C" } : Jvm.MethodName) jdk_43_method_9_code (2 : Nat) (Option.some (Jvm.ClassFile.FieldType.array Jvm.ClassFile.FieldType.char))).before args0 about1 = true := code_word (m := ⟨10, 2⟩) (meth := k10m2) (c := k10c2) (by decide +kernel) rfl rfl rfl (by decide +kernel)
set_option maxRecDepth 65536 in
theorem w_c11 : (Jvm.Cond.code ({ cls := "java/lang/StringLatin1", name := "inflate", desc := "([BI[CII)V" } : Jvm.MethodName) jdk_43_method_49_code (6 : Nat) (Option.none : Option Jvm.ClassFile.FieldType)).before args0 about1 = true := code_word (m := ⟨10, 3⟩) (meth := k10m3) (c := k10c3) (by decide +kernel) rfl rfl rfl (by decide +kernel)
set_option maxRecDepth 65536 in
theorem w_c12 : (Jvm.Cond.code ({ cls := "java/lang/String", name := "length", desc := "()I" } : Jvm.MethodName) jdk_42_method_54_code (1 : Nat) (Option.some Jvm.ClassFile.FieldType.int)).before args0 about1 = true := code_word (m := ⟨7, 2⟩) (meth := k7m2) (c := k7c2) (by decide +kernel) rfl rfl rfl (by decide +kernel)
set_option maxRecDepth 65536 in
theorem w_c13 : (Jvm.Cond.code ({ cls := "java/lang/String", name := "coder", desc := "()B" } : Jvm.MethodName) jdk_42_method_152_code (1 : Nat) (Option.some Jvm.ClassFile.FieldType.byte)).before args0 about1 = true := code_word (m := ⟨7, 7⟩) (meth := k7m7) (c := k7c7) (by decide +kernel) rfl rfl rfl (by decide +kernel)
set_option maxRecDepth 65536 in
theorem w_c14 : (Jvm.Cond.code ({ cls := "java/lang/String", name := "charAt", desc := "(I)C" } : Jvm.MethodName) jdk_42_method_56_code (2 : Nat) (Option.some Jvm.ClassFile.FieldType.char)).before args0 about1 = true := code_word (m := ⟨7, 4⟩) (meth := k7m4) (c := k7c4) (by decide +kernel) rfl rfl rfl (by decide +kernel)
set_option maxRecDepth 65536 in
theorem w_c15 : (Jvm.Cond.code ({ cls := "java/lang/StringLatin1", name := "charAt", desc := "([BI)C" } : Jvm.MethodName) jdk_43_method_2_code (2 : Nat) (Option.some Jvm.ClassFile.FieldType.char)).before args0 about1 = true := code_word (m := ⟨10, 1⟩) (meth := k10m1) (c := k10c1) (by decide +kernel) rfl rfl rfl (by decide +kernel)
set_option maxRecDepth 65536 in
theorem w_c16 : (Jvm.Cond.code ({ cls := "java/lang/String", name := "checkIndex", desc := "(II)V" } : Jvm.MethodName) jdk_42_method_155_code (2 : Nat) (Option.none : Option Jvm.ClassFile.FieldType)).before args0 about1 = true := code_word (m := ⟨7, 9⟩) (meth := k7m9) (c := k7c9) (by decide +kernel) rfl rfl rfl (by decide +kernel)
set_option maxRecDepth 65536 in
theorem w_c17 : (Jvm.Cond.code ({ cls := "jdk/internal/util/Preconditions", name := "checkIndex", desc := "(IILjava/util/function/BiFunction;)I" } : Jvm.MethodName) jdk_41_method_11_code (3 : Nat) (Option.some Jvm.ClassFile.FieldType.int)).before args0 about1 = true := code_word (m := ⟨11, 1⟩) (meth := k11m1) (c := k11c1) (by decide +kernel) rfl rfl rfl (by decide +kernel)
set_option maxRecDepth 65536 in
theorem w_c18 : (Jvm.Cond.code ({ cls := "com/example/perdura/perdura/store/TableLayoutFoldCasePinLaw", name := "expected", desc := "(C)C" } : Jvm.MethodName) method_2_code (1 : Nat) (Option.some Jvm.ClassFile.FieldType.char)).before args0 about1 = true := code_word (m := ⟨1, 1⟩) (meth := k1m1) (c := k1c1) (by decide +kernel) rfl rfl rfl (by decide +kernel)
set_option maxRecDepth 65536 in
theorem w_c19 : (Jvm.Cond.code ({ cls := "java/lang/String", name := "isEmpty", desc := "()Z" } : Jvm.MethodName) jdk_42_method_55_code (1 : Nat) (Option.some Jvm.ClassFile.FieldType.boolean)).before args0 about1 = true := code_word (m := ⟨7, 3⟩) (meth := k7m3) (c := k7c3) (by decide +kernel) rfl rfl rfl (by decide +kernel)
set_option maxRecDepth 65536 in
theorem w_c20 : (Jvm.Cond.code ({ cls := "java/lang/StringUTF16", name := "toBytes", desc := "([CII)[B" } : Jvm.MethodName) jdk_52_method_14_code (5 : Nat) (Option.some (Jvm.ClassFile.FieldType.array Jvm.ClassFile.FieldType.byte))).before args0 about1 = true := code_word (m := ⟨8, 7⟩) (meth := k8m7) (c := k8c7) (by decide +kernel) rfl rfl rfl (by decide +kernel)
set_option maxRecDepth 65536 in
theorem w_c21 : (Jvm.Cond.code ({ cls := "java/lang/StringUTF16", name := "newBytesFor", desc := "(I)[B" } : Jvm.MethodName) jdk_52_method_2_code (1 : Nat) (Option.some (Jvm.ClassFile.FieldType.array Jvm.ClassFile.FieldType.byte))).before args0 about1 = true := code_word (m := ⟨8, 1⟩) (meth := k8m1) (c := k8c1) (by decide +kernel) rfl rfl rfl (by decide +kernel)
set_option maxRecDepth 65536 in
theorem w_c22 : (Jvm.Cond.code ({ cls := "java/lang/StringUTF16", name := "newBytesLength", desc := "(I)I" } : Jvm.MethodName) jdk_52_method_3_code (1 : Nat) (Option.some Jvm.ClassFile.FieldType.int)).before args0 about1 = true := code_word (m := ⟨8, 2⟩) (meth := k8m2) (c := k8c2) (by decide +kernel) rfl rfl rfl (by decide +kernel)
set_option maxRecDepth 65536 in
theorem w_c23 : (Jvm.Cond.code ({ cls := "java/lang/StringUTF16", name := "putChar", desc := "([BII)V" } : Jvm.MethodName) jdk_52_method_4_code (3 : Nat) (Option.none : Option Jvm.ClassFile.FieldType)).before args0 about1 = true := code_word (m := ⟨8, 3⟩) (meth := k8m3) (c := k8c3) (by decide +kernel) rfl rfl rfl (by decide +kernel)
set_option maxRecDepth 65536 in
theorem w_c24 : (Jvm.Cond.code ({ cls := "java/lang/StringUTF16", name := "getChar", desc := "([BI)C" } : Jvm.MethodName) jdk_52_method_5_code (2 : Nat) (Option.some Jvm.ClassFile.FieldType.char)).before args0 about1 = true := code_word (m := ⟨8, 4⟩) (meth := k8m4) (c := k8c4) (by decide +kernel) rfl rfl rfl (by decide +kernel)
set_option maxRecDepth 65536 in
theorem w_c25 : (Jvm.Cond.code ({ cls := "java/lang/StringUTF16", name := "toChars", desc := "([B)[C" } : Jvm.MethodName) jdk_52_method_13_code (2 : Nat) (Option.some (Jvm.ClassFile.FieldType.array Jvm.ClassFile.FieldType.char))).before args0 about1 = true := code_word (m := ⟨8, 6⟩) (meth := k8m6) (c := k8c6) (by decide +kernel) rfl rfl rfl (by decide +kernel)
set_option maxRecDepth 65536 in
theorem w_c26 : (Jvm.Cond.code ({ cls := "java/lang/StringUTF16", name := "getChars", desc := "([BII[CI)V" } : Jvm.MethodName) jdk_52_method_26_code (6 : Nat) (Option.none : Option Jvm.ClassFile.FieldType)).before args0 about1 = true := code_word (m := ⟨8, 11⟩) (meth := k8m11) (c := k8c11) (by decide +kernel) rfl rfl rfl (by decide +kernel)
set_option maxRecDepth 65536 in
theorem w_c27 : (Jvm.Cond.code ({ cls := "java/lang/StringUTF16", name := "checkBoundsOffCount", desc := "(II[B)V" } : Jvm.MethodName) jdk_52_method_94_code (3 : Nat) (Option.none : Option Jvm.ClassFile.FieldType)).before args0 about1 = true := code_word (m := ⟨8, 14⟩) (meth := k8m14) (c := k8c14) (by decide +kernel) rfl rfl rfl (by decide +kernel)
set_option maxRecDepth 65536 in
theorem w_c28 : (Jvm.Cond.code ({ cls := "java/lang/StringUTF16", name := "length", desc := "([B)I" } : Jvm.MethodName) jdk_52_method_6_code (1 : Nat) (Option.some Jvm.ClassFile.FieldType.int)).before args0 about1 = true := code_word (m := ⟨8, 5⟩) (meth := k8m5) (c := k8c5) (by decide +kernel) rfl rfl rfl (by decide +kernel)
set_option maxRecDepth 65536 in
theorem w_c29 : (Jvm.Cond.code ({ cls := "java/lang/String", name := "checkBoundsOffCount", desc := "(III)I" } : Jvm.MethodName) jdk_42_method_157_code (3 : Nat) (Option.some Jvm.ClassFile.FieldType.int)).before args0 about1 = true := code_word (m := ⟨7, 10⟩) (meth := k7m10) (c := k7c10) (by decide +kernel) rfl rfl rfl (by decide +kernel)
set_option maxRecDepth 65536 in
theorem w_c30 : (Jvm.Cond.code ({ cls := "jdk/internal/util/Preconditions", name := "checkFromIndexSize", desc := "(IIILjava/util/function/BiFunction;)I" } : Jvm.MethodName) jdk_41_method_13_code (4 : Nat) (Option.some Jvm.ClassFile.FieldType.int)).before args0 about1 = true := code_word (m := ⟨11, 2⟩) (meth := k11m2) (c := k11c2) (by decide +kernel) rfl rfl rfl (by decide +kernel)
set_option maxRecDepth 65536 in
theorem w_c31 : (Jvm.Cond.code ({ cls := "java/lang/StringUTF16", name := "charAt", desc := "([BI)C" } : Jvm.MethodName) jdk_52_method_83_code (2 : Nat) (Option.some Jvm.ClassFile.FieldType.char)).before args0 about1 = true := code_word (m := ⟨8, 12⟩) (meth := k8m12) (c := k8c12) (by decide +kernel) rfl rfl rfl (by decide +kernel)
set_option maxRecDepth 65536 in
theorem w_c32 : (Jvm.Cond.code ({ cls := "java/lang/StringUTF16", name := "checkIndex", desc := "(I[B)V" } : Jvm.MethodName) jdk_52_method_91_code (2 : Nat) (Option.none : Option Jvm.ClassFile.FieldType)).before args0 about1 = true := code_word (m := ⟨8, 13⟩) (meth := k8m13) (c := k8c13) (by decide +kernel) rfl rfl rfl (by decide +kernel)
def codes1 : List Jvm.Cond := [Jvm.Cond.code x code maxLocals ret, Jvm.Cond.code ({ cls := "java/lang/String", name := "<init>", desc := "([C)V" } : Jvm.MethodName) jdk_42_method_3_code (2 : Nat) (Option.none : Option Jvm.ClassFile.FieldType), Jvm.Cond.code ({ cls := "java/lang/String", name := "<init>", desc := "([CIILjava/lang/Void;)V" } : Jvm.MethodName) jdk_42_method_149_code (6 : Nat) (Option.none : Option Jvm.ClassFile.FieldType), Jvm.Cond.code ({ cls := "java/lang/Object", name := "<init>", desc := "()V" } : Jvm.MethodName) object_method_1_code (1 : Nat) (Option.none : Option Jvm.ClassFile.FieldType), Jvm.Cond.code ({ cls := "java/lang/StringUTF16", name := "compress", desc := "([CII)[B" } : Jvm.MethodName) jdk_52_method_16_code (6 : Nat) (Option.some (Jvm.ClassFile.FieldType.array Jvm.ClassFile.FieldType.byte)), Jvm.Cond.code ({ cls := "java/lang/StringUTF16", name := "compress", desc := "([CI[BII)I" } : Jvm.MethodName) jdk_52_method_21_code (7 : Nat) (Option.some Jvm.ClassFile.FieldType.int), Jvm.Cond.code ({ cls := "java/lang/StringUTF16", name := "coderFromArrayLen", desc := "([BI)B" } : Jvm.MethodName) jdk_52_method_15_code (2 : Nat) (Option.some Jvm.ClassFile.FieldType.byte), Jvm.Cond.code ({ cls := "com/example/perdura/perdura/store/TableLayout", name := "foldCase", desc := "(Ljava/lang/String;)Ljava/lang/String;" } : Jvm.MethodName) prog_3_method_6_code (3 : Nat) (Option.some (Jvm.ClassFile.FieldType.object "java/lang/String")), Jvm.Cond.code ({ cls := "java/lang/String", name := "toCharArray", desc := "()[C" } : Jvm.MethodName) jdk_42_method_129_code (1 : Nat) (Option.some (Jvm.ClassFile.FieldType.array Jvm.ClassFile.FieldType.char)), Jvm.Cond.code ({ cls := "java/lang/String", name := "isLatin1", desc := "()Z" } : Jvm.MethodName) jdk_42_method_154_code (1 : Nat) (Option.some Jvm.ClassFile.FieldType.boolean), Jvm.Cond.code ({ cls := "java/lang/StringLatin1", name := "toChars", desc := "([B)[C" } : Jvm.MethodName) jdk_43_method_9_code (2 : Nat) (Option.some (Jvm.ClassFile.FieldType.array Jvm.ClassFile.FieldType.char)), Jvm.Cond.code ({ cls := "java/lang/StringLatin1", name := "inflate", desc := "([BI[CII)V" } : Jvm.MethodName) jdk_43_method_49_code (6 : Nat) (Option.none : Option Jvm.ClassFile.FieldType), Jvm.Cond.code ({ cls := "java/lang/String", name := "length", desc := "()I" } : Jvm.MethodName) jdk_42_method_54_code (1 : Nat) (Option.some Jvm.ClassFile.FieldType.int), Jvm.Cond.code ({ cls := "java/lang/String", name := "coder", desc := "()B" } : Jvm.MethodName) jdk_42_method_152_code (1 : Nat) (Option.some Jvm.ClassFile.FieldType.byte), Jvm.Cond.code ({ cls := "java/lang/String", name := "charAt", desc := "(I)C" } : Jvm.MethodName) jdk_42_method_56_code (2 : Nat) (Option.some Jvm.ClassFile.FieldType.char), Jvm.Cond.code ({ cls := "java/lang/StringLatin1", name := "charAt", desc := "([BI)C" } : Jvm.MethodName) jdk_43_method_2_code (2 : Nat) (Option.some Jvm.ClassFile.FieldType.char), Jvm.Cond.code ({ cls := "java/lang/String", name := "checkIndex", desc := "(II)V" } : Jvm.MethodName) jdk_42_method_155_code (2 : Nat) (Option.none : Option Jvm.ClassFile.FieldType), Jvm.Cond.code ({ cls := "jdk/internal/util/Preconditions", name := "checkIndex", desc := "(IILjava/util/function/BiFunction;)I" } : Jvm.MethodName) jdk_41_method_11_code (3 : Nat) (Option.some Jvm.ClassFile.FieldType.int), Jvm.Cond.code ({ cls := "com/example/perdura/perdura/store/TableLayoutFoldCasePinLaw", name := "expected", desc := "(C)C" } : Jvm.MethodName) method_2_code (1 : Nat) (Option.some Jvm.ClassFile.FieldType.char), Jvm.Cond.code ({ cls := "java/lang/String", name := "isEmpty", desc := "()Z" } : Jvm.MethodName) jdk_42_method_55_code (1 : Nat) (Option.some Jvm.ClassFile.FieldType.boolean), Jvm.Cond.code ({ cls := "java/lang/StringUTF16", name := "toBytes", desc := "([CII)[B" } : Jvm.MethodName) jdk_52_method_14_code (5 : Nat) (Option.some (Jvm.ClassFile.FieldType.array Jvm.ClassFile.FieldType.byte)), Jvm.Cond.code ({ cls := "java/lang/StringUTF16", name := "newBytesFor", desc := "(I)[B" } : Jvm.MethodName) jdk_52_method_2_code (1 : Nat) (Option.some (Jvm.ClassFile.FieldType.array Jvm.ClassFile.FieldType.byte)), Jvm.Cond.code ({ cls := "java/lang/StringUTF16", name := "newBytesLength", desc := "(I)I" } : Jvm.MethodName) jdk_52_method_3_code (1 : Nat) (Option.some Jvm.ClassFile.FieldType.int), Jvm.Cond.code ({ cls := "java/lang/StringUTF16", name := "putChar", desc := "([BII)V" } : Jvm.MethodName) jdk_52_method_4_code (3 : Nat) (Option.none : Option Jvm.ClassFile.FieldType), Jvm.Cond.code ({ cls := "java/lang/StringUTF16", name := "getChar", desc := "([BI)C" } : Jvm.MethodName) jdk_52_method_5_code (2 : Nat) (Option.some Jvm.ClassFile.FieldType.char), Jvm.Cond.code ({ cls := "java/lang/StringUTF16", name := "toChars", desc := "([B)[C" } : Jvm.MethodName) jdk_52_method_13_code (2 : Nat) (Option.some (Jvm.ClassFile.FieldType.array Jvm.ClassFile.FieldType.char)), Jvm.Cond.code ({ cls := "java/lang/StringUTF16", name := "getChars", desc := "([BII[CI)V" } : Jvm.MethodName) jdk_52_method_26_code (6 : Nat) (Option.none : Option Jvm.ClassFile.FieldType), Jvm.Cond.code ({ cls := "java/lang/StringUTF16", name := "checkBoundsOffCount", desc := "(II[B)V" } : Jvm.MethodName) jdk_52_method_94_code (3 : Nat) (Option.none : Option Jvm.ClassFile.FieldType), Jvm.Cond.code ({ cls := "java/lang/StringUTF16", name := "length", desc := "([B)I" } : Jvm.MethodName) jdk_52_method_6_code (1 : Nat) (Option.some Jvm.ClassFile.FieldType.int), Jvm.Cond.code ({ cls := "java/lang/String", name := "checkBoundsOffCount", desc := "(III)I" } : Jvm.MethodName) jdk_42_method_157_code (3 : Nat) (Option.some Jvm.ClassFile.FieldType.int), Jvm.Cond.code ({ cls := "jdk/internal/util/Preconditions", name := "checkFromIndexSize", desc := "(IIILjava/util/function/BiFunction;)I" } : Jvm.MethodName) jdk_41_method_13_code (4 : Nat) (Option.some Jvm.ClassFile.FieldType.int), Jvm.Cond.code ({ cls := "java/lang/StringUTF16", name := "charAt", desc := "([BI)C" } : Jvm.MethodName) jdk_52_method_83_code (2 : Nat) (Option.some Jvm.ClassFile.FieldType.char), Jvm.Cond.code ({ cls := "java/lang/StringUTF16", name := "checkIndex", desc := "(I[B)V" } : Jvm.MethodName) jdk_52_method_91_code (2 : Nat) (Option.none : Option Jvm.ClassFile.FieldType)]
set_option maxRecDepth 65536 in
theorem codes_eq : words1.filter isCode = codes1 := rfl
theorem w_codes : ∀ c ∈ words1.filter isCode, c.before args0 about1 = true := by
  rw [codes_eq]
  intro c hc
  simp only [codes1, List.mem_cons, List.not_mem_nil, or_false] at hc
  rcases hc with rfl | rfl | rfl | rfl | rfl | rfl | rfl | rfl | rfl | rfl | rfl | rfl | rfl | rfl | rfl | rfl | rfl | rfl | rfl | rfl | rfl | rfl | rfl | rfl | rfl | rfl | rfl | rfl | rfl | rfl | rfl | rfl | rfl
  · exact w_c0
  · exact w_c1
  · exact w_c2
  · exact w_c3
  · exact w_c4
  · exact w_c5
  · exact w_c6
  · exact w_c7
  · exact w_c8
  · exact w_c9
  · exact w_c10
  · exact w_c11
  · exact w_c12
  · exact w_c13
  · exact w_c14
  · exact w_c15
  · exact w_c16
  · exact w_c17
  · exact w_c18
  · exact w_c19
  · exact w_c20
  · exact w_c21
  · exact w_c22
  · exact w_c23
  · exact w_c24
  · exact w_c25
  · exact w_c26
  · exact w_c27
  · exact w_c28
  · exact w_c29
  · exact w_c30
  · exact w_c31
  · exact w_c32
set_option maxRecDepth 65536 in
theorem w_t1 : (words1.take 24).all (fun c => isCode c || c.before args0 about1) = true := by decide +kernel
set_option maxRecDepth 65536 in
theorem w_t2 : ((words1.drop 24).take 24).all (fun c => isCode c || c.before args0 about1) = true := by decide +kernel
set_option maxRecDepth 65536 in
theorem w_t3 : (((words1.drop 24).drop 24).take 24).all (fun c => isCode c || c.before args0 about1) = true := by decide +kernel
set_option maxRecDepth 65536 in
theorem w_t4 : ((((words1.drop 24).drop 24).drop 24).take 24).all (fun c => isCode c || c.before args0 about1) = true := by decide +kernel
set_option maxRecDepth 65536 in
theorem w_t5 : (((((words1.drop 24).drop 24).drop 24).drop 24).take 24).all (fun c => isCode c || c.before args0 about1) = true := by decide +kernel
set_option maxRecDepth 65536 in
theorem w_t6 : (((((words1.drop 24).drop 24).drop 24).drop 24).drop 24).all (fun c => isCode c || c.before args0 about1) = true := by decide +kernel
theorem w_tables : (allAtoms (Jvm.Cond.code x code maxLocals ret :: tables_1)).before args0 about1 = true := by
  rw [allAtoms_all]
  show words1.all (fun c => c.before args0 about1) = true
  refine all_split ?_ w_codes
  rw [← List.take_append_drop 24 words1, List.all_append, w_t1, ← List.take_append_drop 24 (words1.drop 24), List.all_append, w_t2, ← List.take_append_drop 24 ((words1.drop 24).drop 24), List.all_append, w_t3, ← List.take_append_drop 24 (((words1.drop 24).drop 24).drop 24), List.all_append, w_t4, ← List.take_append_drop 24 ((((words1.drop 24).drop 24).drop 24).drop 24), List.all_append, w_t5, w_t6]
  rfl
set_option maxRecDepth 65536 in
theorem w_rest : rest_1_c.before args0 about1 = true := by decide +kernel
set_option maxRecDepth 65536 in
theorem w_case : (Jvm.Cond.and given_1 narrow_1).before args0 about1 = true := by decide +kernel
set_option maxRecDepth 65536 in
theorem w_consts : constsHeld consts_1 about1 := Jvm.Lit.constsHeldB_iff.mp (by decide +kernel)
theorem w_applies : (headSpec (Jvm.Cond.code x code maxLocals ret :: tables_1) room_1).applies x e0.platform about1 = true :=
  (Spec.applies_iff w_frames).mpr ⟨w_running, w_runnable, w_alone, w_named, w_hears, w_ripe, w_room, w_tables⟩
theorem atStart : AtStart classFile x code maxLocals ret World_1 tables_1 room_1 Calls_1 rest_1 Pre_1 launch0 p0 e0 about1 theMethod args0 below0 :=
  ⟨lists_1, trivial, launch0.admits_env _ _ _, launch0.least_env, fairChoices_fair.cas, fairChoices_fair.clock, w_frames, w_args, w_heap, w_applies, ⟨w_consts, trivial⟩, w_rest, w_case⟩
end start1
theorem witness_1 : WitnessClaimed_1 := ⟨start1.p0, start1.e0, start1.about1, start1.theMethod, start1.args0, start1.below0, start1.atStart⟩
end Jvm.Pilot.@@N@@
