import JvmDerived
import JvmDerived.Pilot.@@N@@Statement
import JvmDerived.Pilot.@@N@@Code
set_option linter.unusedVariables false
set_option linter.unusedSimpArgs false
namespace Jvm.Pilot.@@N@@
open Jvm Jvm.ClassFile Sem Op Lib Jvm.Free Jvm.Stand Jvm.LawKit Jvm.RoadKit Bundle Jvm.Pilot.@@N@@.Jvm.D
section Own
variable {p : Program} {l : Launch} {e : Env} {R : Room} {s : State} {m : MethodId} {args : Array Value} {below : List Frame} {meth : Method} {c : Code} {T : State} {locs : List Loc} {cells slots : Nat} {Z : State} {a0 : Array Value} {h : Heap} {Φ : Outcome → State → Prop}
/-- what is left of a walk: from S the invocation ends as Φ says -/
def OGo (tb : Tables) (e : Env) (below : List Frame) (Φ : Outcome → State → Prop) (S : State) : Prop := ∃ s₂ o, Steps tb e below S s₂ ∧ s₂.status = .running ∧ Ended s₂ below o ∧ Φ o s₂
abbrev OG (p : Program) (e : Env) (below : List Frame) (Φ : Outcome → State → Prop) (T : State) (m : MethodId) (pc : Nat) (ls : Array Slot) (st : List Value) : Prop := OGo p.tables e below Φ (T.setTop (mkF m pc ls st))
theorem OGo.st {tb : Tables} {S S' : State} (h : ∀ t, Steps tb e below S' t → Steps tb e below S t) (g : OGo tb e below Φ S') : OGo tb e below Φ S := by
  obtain ⟨s₂, o, h1, r⟩ := g
  exact ⟨s₂, o, h _ h1, r⟩
theorem OGo.fin (X : Stand p l e R s m args below meth c T locs cells slots) (hlk : meth.locks = false) {v : Option Value} (hv : meth.sig.returnType = none → v = none) {g : JFrame} {k n : Nat} (hk : cells ≤ k) (hn : slots ≤ n)
    (st : ∀ fs, (∀ (f : JFrame) (acts : List Action), f.method = m → f.locked = none → f.entered = [] → (doReturn e (T.setTop f) acts v).1 = T.setFrames fs) → Steps p.tables e below (T.setTop g) (T.setFrames fs))
    (hq : ∀ U, U.heap = T.heap → FrameEnd s (.returned v) U locs k n → Φ (.returned v) U) : OGo p.tables e below Φ (T.setTop g) := by
  obtain ⟨fs, hr, hrun, hended, hW, hsame⟩ := X.leave (v := v) hv hlk
  exact ⟨_, _, st fs hr, hrun, hended, hq _ rfl ⟨⟨_, rfl⟩, hW, hsame.mono hk hn⟩⟩
/-- a contract: what every body's theorem says -/
abbrev OCon (l : Launch) (Z : State) (y : MethodName) (bytes : ByteArray) (maxL : Nat) (ret : Option FieldType) (ws : List Jvm.Cond) (rm : Room) (as' : Array Value) (h0 : Heap) (Q : Option Value → Heap → List Loc → Prop) : Prop :=
  MetFree l y (head1 (Jvm.Cond.code y bytes maxL ret :: ws) rm) (fun a U => a = as' ∧ Z.Warmed39 U.vm ∧ U.heap = h0) (fun _ _ _ _ _ => True) (fun _ U o U' => ∃ v L, o = .returned v ∧ Q v U'.heap L ∧ FrameEnd U o U' L rm.cells rm.slots)
theorem OCon.of {y : MethodName} {bytes : ByteArray} {maxL : Nat} {ret : Option FieldType} {ws : List Jvm.Cond} {rm : Room} {as' : Array Value} {h0 : Heap} {Q : Option Value → Heap → List Loc → Prop} (hpl : plainFor y = true)
    (H : ∀ (p : Program) (e : Env) (s : State) (m : MethodId) (below : List Frame) (meth : Method) (c : Code) (s₁ : State) (Φ : Outcome → State → Prop), Stand p l e rm s m as' below meth c s₁ [] 0 0 → p.tables.exec = Jvm.exec → c.code = bytes → c.maxLocals = maxL → s.vm.findClass y.cls = some m.cls → meth.name = y.name → meth.sig.returnType = ret → meth.locks = false → Z.Warmed39 s.vm → s₁.heap = h0 →
      (∀ v L U, Q v U.heap L → FrameEnd s (.returned v) U L rm.cells rm.slots → Φ (.returned v) U) → OGo p.tables e below Φ (s₁.setTop (entryFrame m as' maxL))) :
    OCon l Z y bytes maxL ret ws rm as' h0 Q := by
  refine MetFree.of_bodySF hpl hisR ?_
  intro p e s m args below meth c s₁ Bd hml0 hP hK
  obtain ⟨rfl, hZ, hh⟩ := hP
  have e0 : s₁.heap = h0 := by rw [← hh, Bd.state]; rfl
  exact H p e s m below meth c s₁ _ (Stand.of_body Bd) Bd.exec Bd.bytes hml0 (findClass_of_methodNamed Bd.named) (name_of_methodNamed Bd.named Bd.method).1 Bd.returns Bd.notSynchronized hZ e0 (fun v L U hq hf => ⟨v, L, rfl, hq, hf⟩)
theorem own_callSt (X : Stand p l e R s m args below meth c T locs cells slots) (hx : p.tables.exec = Jvm.exec) (hZ : Z.Warmed39 s.vm) {own : String} {index : Nat} {y : MethodName} {bytes : ByteArray} {maxL : Nat} {ret : Option FieldType} {rm : Room} {as' : Array Value} {Q : Option Value → Heap → List Loc → Prop}
    (hown : s.vm.findClass own = some m.cls) (w1 : (Jvm.Cond.methodLink own index y).before a0 Z = true) (w2 : (Jvm.Cond.static y).before a0 Z = true) (w3 : (Jvm.Cond.initialized y.cls).before a0 Z = true) (w4 : (Jvm.Cond.code y bytes maxL ret).before a0 Z = true) (hy : y.cls ≠ "java/lang/invoke/MethodHandle" ∧ y.cls ≠ "java/lang/invoke/VarHandle")
    (hM : OCon l Z y bytes maxL ret [] rm as' h Q) (eT : T.heap = h) {W : Nat} (hf : rm.frames + 1 ≤ R.frames) (hl : W + (maxL + 11) + rm.locals ≤ R.locals) (hcl : cells + rm.cells ≤ R.cells) (hsl : slots + rm.slots ≤ R.slots)
    {pc : Nat} {ls : Array Slot} {stk : List Value} (hsize : ls.size = c.maxLocals) {argsL rest : List Value} (hlen : ∀ sig, parseMethodDescriptor y.desc = some sig → argsL.length = sig.parameters.length) (has : argsL.toArray = as') (hstack : stk = argsL.reverse ++ rest) (hW : (rest.map fun v => v.category).sum ≤ W)
    (hd : decode c.code pc = .ok (.invokestatic index, 3)) :
    ∃ v T' L, Stand p l e R s m args below meth c T' (locs ++ L) (cells + rm.cells) (slots + rm.slots) ∧ Q v T'.heap L ∧ ∀ target, Steps p.tables e below (T'.setTop (mkF m (pc + 3) ls (v.toList ++ rest))) target → Steps p.tables e below (T.setTop (mkF m pc ls stk)) target := by
  subst has
  obtain ⟨v, vm₁, ⟨T', L', k', n'⟩, -, X', ⟨L, hQ, l1, y1, z1⟩, st⟩ := Jvm.LawKit.callS X hx (y := y) hown (mvT hZ w1) (mvT hZ w2) (mvT hZ w3) (mvT hZ w4) hy (backOf (W := W) hM hZ w4 w3 hf hl) (g := mkF m pc ls stk) rfl hsize (argsL := argsL) (rest := rest) hlen hstack (by simpa using hW) hd (fun _ _ => ⟨rfl, eT, hcl, hsl⟩)
  dsimp only [Pt.U, Pt.locs, Pt.cells, Pt.slots] at X' l1 y1 z1 st hQ
  subst l1 y1 z1
  exact ⟨v, T', L, X', hQ, st⟩
theorem own_callSp (X : Stand p l e R s m args below meth c T locs cells slots) (hx : p.tables.exec = Jvm.exec) (hZ : Z.Warmed39 s.vm) {own : String} {index : Nat} {y : MethodName} {bytes : ByteArray} {maxL : Nat} {rm : Room} {as' : Array Value} {Q : Option Value → Heap → List Loc → Prop}
    (hy1 : y.name = "<init>") (hown : s.vm.findClass own = some m.cls) (w1 : (Jvm.Cond.methodLink own index y).before a0 Z = true) (w2 : (Jvm.Cond.instanceMethod y).before a0 Z = true) (w3 : (Jvm.Cond.initialized y.cls).before a0 Z = true) (w4 : (Jvm.Cond.code y bytes maxL none).before a0 Z = true) (hy : y.cls ≠ "java/lang/invoke/MethodHandle" ∧ y.cls ≠ "java/lang/invoke/VarHandle")
    (hM : OCon l Z y bytes maxL none [] rm as' h Q) (eT : T.heap = h) {W : Nat} (hf : rm.frames + 1 ≤ R.frames) (hl : W + (maxL + 11) + rm.locals ≤ R.locals) (hcl : cells + rm.cells ≤ R.cells) (hsl : slots + rm.slots ≤ R.slots)
    {pc : Nat} {ls : Array Slot} {stk : List Value} (hsize : ls.size = c.maxLocals) {a : Addr} {argsL rest : List Value} (hlen : ∀ sig, parseMethodDescriptor y.desc = some sig → argsL.length = sig.parameters.length) (has : (.ref a :: argsL).toArray = as') (hstack : stk = argsL.reverse ++ .ref a :: rest) (hW : (rest.map fun v => v.category).sum ≤ W)
    (hd : decode c.code pc = .ok (.invokespecial index, 3)) :
    ∃ v T' L, Stand p l e R s m args below meth c T' (locs ++ L) (cells + rm.cells) (slots + rm.slots) ∧ Q v T'.heap L ∧ ∀ target, Steps p.tables e below (T'.setTop (mkF m (pc + 3) ls (v.toList ++ rest))) target → Steps p.tables e below (T.setTop (mkF m pc ls stk)) target := by
  subst has
  obtain ⟨v, vm₁, ⟨T', L', k', n'⟩, -, X', ⟨L, hQ, l1, y1, z1⟩, st⟩ := X.specialBack hx (y := y) hy1 hown (mvT hZ w1) (mvT hZ w2) (mvT hZ w4) hy (backOf (W := W) hM hZ w4 w3 hf hl) (g := mkF m pc ls stk) rfl hsize (Steps.refl _) (a := a) (argsL := argsL) (rest := rest) hlen hstack (by simpa using hW) hd (fun _ _ => ⟨rfl, eT, hcl, hsl⟩)
  dsimp only [Pt.U, Pt.locs, Pt.cells, Pt.slots] at X' l1 y1 z1 st hQ
  subst l1 y1 z1
  exact ⟨v, T', L, X', hQ, fun t k => st.trans k⟩
theorem own_callVi (X : Stand p l e R s m args below meth c T locs cells slots) (hx : p.tables.exec = Jvm.exec) (hZ : Z.Warmed39 s.vm) {own C : String} {index : Nat} {y z : MethodName} {bytes : ByteArray} {maxL : Nat} {ret : Option FieldType} {rm : Room} {as' : Array Value} {Q : Option Value → Heap → List Loc → Prop}
    (hown : s.vm.findClass own = some m.cls) (w1 : (Jvm.Cond.methodLink own index y).before a0 Z = true) (w2 : (Jvm.Cond.declares y).before a0 Z = true) (nf : NotFace s y) (w3 : (Jvm.Cond.selects C y z).before a0 Z = true) (w4 : (Jvm.Cond.instanceMethod z).before a0 Z = true) (w5 : (Jvm.Cond.initialized z.cls).before a0 Z = true) (w6 : (Jvm.Cond.code z bytes maxL ret).before a0 Z = true) (hy : y.cls ≠ "java/lang/invoke/MethodHandle" ∧ y.cls ≠ "java/lang/invoke/VarHandle")
    (hM : OCon l Z z bytes maxL ret [] rm as' h Q) (eT : T.heap = h) {W : Nat} (hf : rm.frames + 1 ≤ R.frames) (hl : W + (maxL + 11) + rm.locals ≤ R.locals) (hcl : cells + rm.cells ≤ R.cells) (hsl : slots + rm.slots ≤ R.slots) {a : Addr} (E : Exa Z h a C)
    {pc : Nat} {ls : Array Slot} {stk : List Value} (hsize : ls.size = c.maxLocals) {argsL rest : List Value} (hlen : ∀ sig, parseMethodDescriptor y.desc = some sig → argsL.length = sig.parameters.length) (has : (.ref a :: argsL).toArray = as') (hstack : stk = argsL.reverse ++ .ref a :: rest) (hW : (rest.map fun v => v.category).sum ≤ W)
    (hd : decode c.code pc = .ok (.invokevirtual index, 3)) :
    ∃ v T' L, Stand p l e R s m args below meth c T' (locs ++ L) (cells + rm.cells) (slots + rm.slots) ∧ Q v T'.heap L ∧ ∀ target, Steps p.tables e below (T'.setTop (mkF m (pc + 3) ls (v.toList ++ rest))) target → Steps p.tables e below (T.setTop (mkF m pc ls stk)) target := by
  subst has
  obtain ⟨cq, kq, qa, qb, qc⟩ := isOf hZ eT E
  obtain ⟨v, vm₁, ⟨T', L', k', n'⟩, -, X', ⟨L, hQ, l1, y1, z1⟩, st⟩ := X.virtualBack hx (y := y) (z := z) hown (mvT hZ w1) (mvT hZ w2) nf (mvT hZ w3) (mvT hZ w4) hy (backOf (W := W) hM hZ w6 w5 hf hl) qa qc (g := mkF m pc ls stk) rfl hsize (Steps.refl _) (argsL := argsL) (rest := rest) hlen hstack (by simpa using hW) hd (fun _ _ => ⟨rfl, eT, hcl, hsl⟩)
  dsimp only [Pt.U, Pt.locs, Pt.cells, Pt.slots] at X' l1 y1 z1 st hQ
  subst l1 y1 z1
  exact ⟨v, T', L, X', hQ, fun t k => st.trans k⟩
theorem own_lremM {g : JFrame} {target : State} (X : Stand p l e R s m args below meth c T locs cells slots) (hx : p.tables.exec = Jvm.exec) (hg : g.method = m) {x y : Int64} {rest : List Value} (hd : decode c.code g.pc = .ok (.lrem, 1)) (hs : g.stack = .long y :: .long x :: rest) (hy : y ≠ 0)
    (hr : Steps p.tables e below (T.setTop { g with pc := g.pc + 1, stack := .long (x % y) :: rest }) target) : Steps p.tables e below (T.setTop g) target :=
  XT.lrem X.here hx hg hd hs hy (by rw [lrem_mod]; exact hr)
theorem own_nz {x : Int32} (q : x = 0 ∨ x = 1) : narrow .boolean (.int x) = .int x := by rcases q with rfl | rfl <;> rfl
theorem own_fz {x : Int32} (q : x = 0 ∨ x = 1) : fits .boolean (.int x) = true := by rcases q with rfl | rfl <;> rfl
theorem own_irr (x : Int32) : ¬ x < x := fun q => absurd (Int32.lt_iff_toInt_lt.mp q) (Int.lt_irrefl _)
theorem own_irrL (x : Int64) : ¬ x < x := fun q => absurd (Int64.lt_iff_toInt_lt.mp q) (Int.lt_irrefl _)
/-- a small int is one of the first n -/
theorem own_small {n : Nat} (hn : n < 2 ^ 31) (x : Int32) (h0 : ¬ x < 0) (h1 : x.toInt < n) : ∃ k : Fin n, x = Int32.ofInt k.val := by
  have h2 : 0 ≤ x.toInt := by
    rcases Int.lt_or_le x.toInt 0 with q | q
    · exact absurd (Int32.lt_iff_toInt_lt.mpr q) h0
    · exact q
  refine ⟨⟨x.toInt.toNat, by omega⟩, ?_⟩
  rw [Int.toNat_of_nonneg h2, Int32.ofInt_toInt]
end Own
section OwnW
open Jvm.Free.SB Jvm.Free.SBG
variable {p : Program} {l : Launch} {e : Env} {R : Room} {s : State} {m : MethodId} {args : Array Value} {below : List Frame} {meth : Method} {c : Code} {T : State} {locs : List Loc} {cells slots : Nat} {Z : State} {a0 : Array Value} {h : Heap} {Φ : Outcome → State → Prop} {EL : List (String × Nat)} {vm0 : Vm}
/-- a wide contract: the body may load String constants; sf: addresses that are none of the held constants' cells -/
abbrev OConW (l : Launch) (Z : State) (EL : List (String × Nat)) (y : MethodName) (bytes : ByteArray) (maxL : Nat) (ret : Option FieldType) (ws : List Jvm.Cond) (rm : Room) (as' : Array Value) (h0 : Heap) (sf : List Addr) (Q : Option Value → Heap → List Loc → Prop) : Prop :=
  MetFree l y (head1 (Jvm.Cond.code y bytes maxL ret :: ws) rm) (fun a U => a = as' ∧ Z.Warmed39 U.vm ∧ U.heap = h0 ∧ CHv Z EL U.vm h0 ∧ ∀ x ∈ sf, Safe Z EL U.vm h0 x) (fun _ _ _ _ _ => True) (fun _ U o U' => ∃ v L, o = .returned v ∧ Q v U'.heap L ∧ CHr Z EL U.vm U.heap U'.vm U'.heap ∧ ReturnedEndW U o U' L rm.cells rm.slots)
theorem OConW.of {y : MethodName} {bytes : ByteArray} {maxL : Nat} {ret : Option FieldType} {ws : List Jvm.Cond} {rm : Room} {as' : Array Value} {h0 : Heap} {sf : List Addr} {Q : Option Value → Heap → List Loc → Prop} (hpl : plainFor y = true)
    (H : ∀ (p : Program) (e : Env) (s : State) (m : MethodId) (below : List Frame) (meth : Method) (c : Code) (s₁ : State) (Φ : Outcome → State → Prop), Stand p l e rm (s.setVm s.vm) m as' below meth c s₁ [] 0 0 → p.tables.exec = Jvm.exec → c.code = bytes → c.maxLocals = maxL → (s.setVm s.vm).vm.findClass y.cls = some m.cls → meth.name = y.name → meth.sig.returnType = ret → meth.locks = false → Z.Warmed39 (s.setVm s.vm).vm → s₁.heap = h0 →
      s.Since s.vm 0 → 0 ≤ h0.size → CHr Z EL s.vm h0 s.vm h0 → (∀ x ∈ sf, Safe Z EL s.vm h0 x) →
      (∀ v L U, Q v U.heap L → CHr Z EL s.vm h0 U.vm U.heap → ReturnedEndW s (.returned v) U L rm.cells rm.slots → Φ (.returned v) U) → OGo p.tables e below Φ (s₁.setTop (entryFrame m as' maxL))) :
    OConW l Z EL y bytes maxL ret ws rm as' h0 sf Q := by
  refine MetFree.of_bodySF hpl hisR ?_
  intro p e s m args below meth c s₁ Bd hml0 hP hK
  obtain ⟨rfl, hZ, hh, hC, hsf⟩ := hP
  have e0 : s₁.heap = h0 := by rw [← hh, Bd.state]; rfl
  have X0 := Stand.of_body Bd
  have ev : s₁.vm = s.vm := by rw [Bd.state]; rfl
  have hWm : s.WarmedH s.vm := ev ▸ X0.warmed
  exact H p e s m below meth c s₁ _ X0 Bd.exec Bd.bytes hml0 (findClass_of_methodNamed Bd.named) (name_of_methodNamed Bd.named Bd.method).1 Bd.returns Bd.notSynchronized hZ e0 (hWm.since 0) (Nat.zero_le _) (CHr.refl hC) hsf (fun v L U hq hc hf => ⟨v, L, rfl, hq, hh ▸ hc, hf⟩)
theorem OGo.finW (X : Stand p l e R (s.setVm vm0) m args below meth c T locs cells slots) (hlk : meth.locks = false) {k0 : Nat} (hS : s.Since vm0 k0) (eT : T.heap = h) (hkk : k0 ≤ h.size) {v : Option Value} (hv : meth.sig.returnType = none → v = none) {g : JFrame} {k n : Nat} (hk : cells ≤ k) (hn : slots ≤ n) (hZ : Z.Warmed39 (s.setVm vm0).vm) (hEL : EW Z a0 EL) {vmS : Vm} {hs0 : Heap} (hC : CHr Z EL vmS hs0 vm0 h)
    (st : ∀ fs, (∀ (f : JFrame) (acts : List Action), f.method = m → f.locked = none → f.entered = [] → (doReturn e (T.setTop f) acts v).1 = T.setFrames fs) → Steps p.tables e below (T.setTop g) (T.setFrames fs))
    (hq : ∀ U, U.heap = h → CHr Z EL vmS hs0 U.vm U.heap → ReturnedEndW s (.returned v) U locs k n → Φ (.returned v) U) : OGo p.tables e below Φ (T.setTop g) := by
  obtain ⟨fs, hr, hrun, hended, hW⟩ := X.leaveW hS (eT ▸ hkk) (v := v) hv hlk
  have hc2 : CHr Z EL vmS hs0 T.vm h := hC.trans (CHv.at X hZ hEL hC.1)
  exact ⟨_, _, st fs hr, hrun, hended, hq _ eT (by show CHr Z EL vmS hs0 T.vm T.heap; rw [eT]; exact hc2) ⟨hW.1, hW.2.1, hW.2.2.1, hW.2.2.2.mono hk hn⟩⟩
theorem own_backW {y : MethodName} {bytes : ByteArray} {maxL : Nat} {ret : Option FieldType} {rm : Room} {len W : Nat} {as' : Array Value} {sf : List Addr} {Q : Option Value → Heap → List Loc → Prop} (hM : OConW l Z EL y bytes maxL ret [] rm as' h sf Q)
    (hZ : Z.Warmed39 vm0) (wc : (Jvm.Cond.code y bytes maxL ret).before a0 Z = true) (wz : (Jvm.Cond.initialized y.cls).before a0 Z = true) (hf : rm.frames + 1 ≤ R.frames) (hl : W + (maxL + 11) + rm.locals ≤ R.locals) (hEL : EW Z a0 EL) (H : CHv Z EL vm0 h) (hsf : ∀ x ∈ sf, x < h.size ∧ Safe Z EL vm0 h x) :
    BackS l R p e below (s.setVm vm0) args y len W (fun A a => a = as' ∧ A.U.heap = h ∧ A.cells + rm.cells ≤ R.cells ∧ A.slots + rm.slots ≤ R.slots)
      (fun A _ v B => ∃ L, Q v B.U.heap L ∧ B.locs = A.locs ++ L ∧ B.cells = A.cells + rm.cells ∧ B.slots = A.slots + rm.slots ∧ CHr Z EL vm0 h B.U.vm B.U.heap) := by
  refine BackS.of_freeW (bytes := bytes) (maxL := maxL) (ret := ret) (E := fun _ first o t L k n => k = rm.cells ∧ n = rm.slots ∧ (∃ v, o = .returned v ∧ Q v t.heap L) ∧ CHr Z EL first.vm first.heap t.vm t.heap) hM hf hl ?_ ?_ ?_ ?_ ?_
  · intro m meth c A a Y hp
    have hU : Z.Warmed39 A.U.vm := wtrans (s := s.setVm vm0) hZ Y.warmed
    exact ⟨by show (Jvm.Cond.and _ .tt).before a A.U = true; rw [Cond.before_and, mv hU wc]; rfl, mv hU wc, mv hU wz, hp.2.2.1, hp.2.2.2⟩
  · intro m meth c A a g mk Y hp
    exact ⟨hp.1, wtrans (s := s.setVm vm0) hZ Y.warmed, hp.2.1, (CHv.at Y hZ hEL H).1, fun x hx => (CHv.at Y hZ hEL H).safe (hsf x hx).1 (hsf x hx).2⟩
  · intros; trivial
  · rintro _ _ _ _ ⟨v, L, q1, q2, q3, q4⟩
    exact ⟨L, _, _, q4, rfl, rfl, ⟨v, q1, q2⟩, q3⟩
  · rintro m meth c A a g mk v t L k n Y hp _ _ ⟨rfl, rfl, ⟨v', q3, q4⟩, q5⟩
    cases q3
    refine ⟨L, q4, rfl, rfl, rfl, (CHv.at Y hZ hEL H).trans ?_⟩
    rw [← hp.2.1]; exact q5
theorem own_callStW (X : Stand p l e R (s.setVm vm0) m args below meth c T locs cells slots) (hx : p.tables.exec = Jvm.exec) (hZ : Z.Warmed39 (s.setVm vm0).vm) {own : String} {index : Nat} {y : MethodName} {bytes : ByteArray} {maxL : Nat} {ret : Option FieldType} {rm : Room} {as' : Array Value} {sf : List Addr} {Q : Option Value → Heap → List Loc → Prop}
    (hown : (s.setVm vm0).vm.findClass own = some m.cls) (w1 : (Jvm.Cond.methodLink own index y).before a0 Z = true) (w2 : (Jvm.Cond.static y).before a0 Z = true) (w3 : (Jvm.Cond.initialized y.cls).before a0 Z = true) (w4 : (Jvm.Cond.code y bytes maxL ret).before a0 Z = true) (hy : y.cls ≠ "java/lang/invoke/MethodHandle" ∧ y.cls ≠ "java/lang/invoke/VarHandle")
    (hM : OConW l Z EL y bytes maxL ret [] rm as' h sf Q) (eT : T.heap = h) {W : Nat} (hf : rm.frames + 1 ≤ R.frames) (hl : W + (maxL + 11) + rm.locals ≤ R.locals) (hcl : cells + rm.cells ≤ R.cells) (hsl : slots + rm.slots ≤ R.slots)
    {pc : Nat} {ls : Array Slot} {stk : List Value} (hsize : ls.size = c.maxLocals) {argsL rest : List Value} (hlen : ∀ sig, parseMethodDescriptor y.desc = some sig → argsL.length = sig.parameters.length) (has : argsL.toArray = as') (hstack : stk = argsL.reverse ++ rest) (hW : (rest.map fun v => v.category).sum ≤ W)
    (hd : decode c.code pc = .ok (.invokestatic index, 3)) {k0 : Nat} (hS : s.Since vm0 k0) (hkk : k0 ≤ h.size) (hEL : EW Z a0 EL) {vmS : Vm} {hs0 : Heap} (hC : CHr Z EL vmS hs0 vm0 h) (hsf : ∀ x ∈ sf, x < h.size ∧ Safe Z EL vm0 h x) :
    ∃ v T' L, Stand p l e R (s.setVm T'.vm) m args below meth c T' (locs ++ L) (cells + rm.cells) (slots + rm.slots) ∧ Q v T'.heap L ∧ (∀ target, Steps p.tables e below (T'.setTop (mkF m (pc + 3) ls (v.toList ++ rest))) target → Steps p.tables e below (T.setTop (mkF m pc ls stk)) target) ∧
      s.Since T'.vm T'.heap.size ∧ Z.Warmed39 (s.setVm T'.vm).vm ∧ (s.setVm T'.vm).vm.findClass own = some m.cls ∧ CHr Z EL vm0 h T'.vm T'.heap := by
  subst has
  obtain ⟨v, vm₁, ⟨T', L', k', n'⟩, -, X', S', hg, ⟨L, hQ, l1, y1, z1, hc⟩, st⟩ := callSS X hx (y := y) hown (mvT hZ w1) (mvT hZ w2) (mvT hZ w3) (mvT hZ w4) hy (own_backW (W := W) hM hZ w4 w3 hf hl hEL hC.1 hsf) (g := mkF m pc ls stk) rfl hsize (argsL := argsL) (rest := rest) hlen hstack (by simpa using hW) hd (fun _ _ => ⟨rfl, eT, hcl, hsl⟩)
  dsimp only [Pt.U, Pt.locs, Pt.cells, Pt.slots] at X' l1 y1 z1 st hQ S' hg hc
  subst l1 y1 z1
  obtain ⟨X2, S2, Z2, o2⟩ := rebS hS hkk X' S' (by rw [← eT]; exact hg) hZ hown
  exact ⟨v, T', L, X2, hQ, fun t k => st.trans k, S2, Z2, o2, hc⟩
theorem own_callSpW (X : Stand p l e R (s.setVm vm0) m args below meth c T locs cells slots) (hx : p.tables.exec = Jvm.exec) (hZ : Z.Warmed39 (s.setVm vm0).vm) {own : String} {index : Nat} {y : MethodName} {bytes : ByteArray} {maxL : Nat} {rm : Room} {as' : Array Value} {sf : List Addr} {Q : Option Value → Heap → List Loc → Prop}
    (hy1 : y.name = "<init>") (hown : (s.setVm vm0).vm.findClass own = some m.cls) (w1 : (Jvm.Cond.methodLink own index y).before a0 Z = true) (w2 : (Jvm.Cond.instanceMethod y).before a0 Z = true) (w3 : (Jvm.Cond.initialized y.cls).before a0 Z = true) (w4 : (Jvm.Cond.code y bytes maxL none).before a0 Z = true) (hy : y.cls ≠ "java/lang/invoke/MethodHandle" ∧ y.cls ≠ "java/lang/invoke/VarHandle")
    (hM : OConW l Z EL y bytes maxL none [] rm as' h sf Q) (eT : T.heap = h) {W : Nat} (hf : rm.frames + 1 ≤ R.frames) (hl : W + (maxL + 11) + rm.locals ≤ R.locals) (hcl : cells + rm.cells ≤ R.cells) (hsl : slots + rm.slots ≤ R.slots)
    {pc : Nat} {ls : Array Slot} {stk : List Value} (hsize : ls.size = c.maxLocals) {a : Addr} {argsL rest : List Value} (hlen : ∀ sig, parseMethodDescriptor y.desc = some sig → argsL.length = sig.parameters.length) (has : (.ref a :: argsL).toArray = as') (hstack : stk = argsL.reverse ++ .ref a :: rest) (hW : (rest.map fun v => v.category).sum ≤ W)
    (hd : decode c.code pc = .ok (.invokespecial index, 3)) {k0 : Nat} (hS : s.Since vm0 k0) (hkk : k0 ≤ h.size) (hEL : EW Z a0 EL) {vmS : Vm} {hs0 : Heap} (hC : CHr Z EL vmS hs0 vm0 h) (hsf : ∀ x ∈ sf, x < h.size ∧ Safe Z EL vm0 h x) :
    ∃ v T' L, Stand p l e R (s.setVm T'.vm) m args below meth c T' (locs ++ L) (cells + rm.cells) (slots + rm.slots) ∧ Q v T'.heap L ∧ (∀ target, Steps p.tables e below (T'.setTop (mkF m (pc + 3) ls (v.toList ++ rest))) target → Steps p.tables e below (T.setTop (mkF m pc ls stk)) target) ∧
      s.Since T'.vm T'.heap.size ∧ Z.Warmed39 (s.setVm T'.vm).vm ∧ (s.setVm T'.vm).vm.findClass own = some m.cls ∧ CHr Z EL vm0 h T'.vm T'.heap := by
  subst has
  obtain ⟨v, vm₁, ⟨T', L', k', n'⟩, -, X', S', hg, ⟨L, hQ, l1, y1, z1, hc⟩, st⟩ := X.specialBackS hx (y := y) hy1 hown (mvT hZ w1) (mvT hZ w2) (mvT hZ w4) hy (own_backW (W := W) hM hZ w4 w3 hf hl hEL hC.1 hsf) (g := mkF m pc ls stk) rfl hsize (Steps.refl _) (a := a) (argsL := argsL) (rest := rest) hlen hstack (by simpa using hW) hd (fun _ _ => ⟨rfl, eT, hcl, hsl⟩)
  dsimp only [Pt.U, Pt.locs, Pt.cells, Pt.slots] at X' l1 y1 z1 st hQ S' hg hc
  subst l1 y1 z1
  obtain ⟨X2, S2, Z2, o2⟩ := rebS hS hkk X' S' (by rw [← eT]; exact hg) hZ hown
  exact ⟨v, T', L, X2, hQ, fun t k => st.trans k, S2, Z2, o2, hc⟩
end OwnW
theorem ow0 {Z : State} {a0 : Array Value} (hw : ∀ d ∈ tables_1, d.before a0 Z = true) : (Jvm.Cond.methodLink "com/example/bindery/bindery/model/StructureIsRootPinLaw" (12 : Nat) ({ cls := "java/lang/String", name := "valueOf", desc := "(C)Ljava/lang/String;" } : Jvm.MethodName)).before a0 Z = true := hw _ (List.mem_of_getElem? (i := 0) rfl)
theorem ow1 {Z : State} {a0 : Array Value} (hw : ∀ d ∈ tables_1, d.before a0 Z = true) : (Jvm.Cond.static ({ cls := "java/lang/String", name := "valueOf", desc := "(C)Ljava/lang/String;" } : Jvm.MethodName)).before a0 Z = true := hw _ (List.mem_of_getElem? (i := 1) rfl)
theorem ow2 {Z : State} {a0 : Array Value} (hw : ∀ d ∈ tables_1, d.before a0 Z = true) : (Jvm.Cond.initialized "java/lang/String").before a0 Z = true := hw _ (List.mem_of_getElem? (i := 2) rfl)
theorem ow3 {Z : State} {a0 : Array Value} (hw : ∀ d ∈ tables_1, d.before a0 Z = true) : (Jvm.Cond.code ({ cls := "java/lang/String", name := "valueOf", desc := "(C)Ljava/lang/String;" } : Jvm.MethodName) jdk_42_method_139_code (1 : Nat) (Option.some (Jvm.ClassFile.FieldType.object "java/lang/String"))).before a0 Z = true := hw _ (List.mem_of_getElem? (i := 3) rfl)
theorem ow4 {Z : State} {a0 : Array Value} (hw : ∀ d ∈ tables_1, d.before a0 Z = true) : (Jvm.Cond.fieldLink "java/lang/String" (38 : Nat) "java/lang/String" "COMPACT_STRINGS" "Z").before a0 Z = true := hw _ (List.mem_of_getElem? (i := 4) rfl)
theorem ow5 {Z : State} {a0 : Array Value} (hw : ∀ d ∈ tables_1, d.before a0 Z = true) : (Jvm.Cond.methodLink "java/lang/String" (1015 : Nat) ({ cls := "java/lang/StringLatin1", name := "canEncode", desc := "(C)Z" } : Jvm.MethodName)).before a0 Z = true := hw _ (List.mem_of_getElem? (i := 5) rfl)
theorem ow6 {Z : State} {a0 : Array Value} (hw : ∀ d ∈ tables_1, d.before a0 Z = true) : (Jvm.Cond.static ({ cls := "java/lang/StringLatin1", name := "canEncode", desc := "(C)Z" } : Jvm.MethodName)).before a0 Z = true := hw _ (List.mem_of_getElem? (i := 6) rfl)
theorem ow7 {Z : State} {a0 : Array Value} (hw : ∀ d ∈ tables_1, d.before a0 Z = true) : (Jvm.Cond.initialized "java/lang/StringLatin1").before a0 Z = true := hw _ (List.mem_of_getElem? (i := 7) rfl)
theorem ow8 {Z : State} {a0 : Array Value} (hw : ∀ d ∈ tables_1, d.before a0 Z = true) : (Jvm.Cond.code ({ cls := "java/lang/StringLatin1", name := "canEncode", desc := "(C)Z" } : Jvm.MethodName) jdk_43_method_3_code (1 : Nat) (Option.some Jvm.ClassFile.FieldType.boolean)).before a0 Z = true := hw _ (List.mem_of_getElem? (i := 8) rfl)
theorem ow9 {Z : State} {a0 : Array Value} (hw : ∀ d ∈ tables_1, d.before a0 Z = true) : (Jvm.Cond.classLink "java/lang/String" (10 : Nat) "java/lang/String").before a0 Z = true := hw _ (List.mem_of_getElem? (i := 9) rfl)
theorem ow10 {Z : State} {a0 : Array Value} (hw : ∀ d ∈ tables_1, d.before a0 Z = true) : (Jvm.Cond.instantiable "java/lang/String" (4 : Nat)).before a0 Z = true := hw _ (List.mem_of_getElem? (i := 10) rfl)
theorem ow11 {Z : State} {a0 : Array Value} (hw : ∀ d ∈ tables_1, d.before a0 Z = true) : (Jvm.Cond.methodLink "java/lang/String" (1018 : Nat) ({ cls := "java/lang/StringLatin1", name := "toBytes", desc := "(C)[B" } : Jvm.MethodName)).before a0 Z = true := hw _ (List.mem_of_getElem? (i := 11) rfl)
theorem ow12 {Z : State} {a0 : Array Value} (hw : ∀ d ∈ tables_1, d.before a0 Z = true) : (Jvm.Cond.static ({ cls := "java/lang/StringLatin1", name := "toBytes", desc := "(C)[B" } : Jvm.MethodName)).before a0 Z = true := hw _ (List.mem_of_getElem? (i := 12) rfl)
theorem ow13 {Z : State} {a0 : Array Value} (hw : ∀ d ∈ tables_1, d.before a0 Z = true) : (Jvm.Cond.code ({ cls := "java/lang/StringLatin1", name := "toBytes", desc := "(C)[B" } : Jvm.MethodName) jdk_43_method_46_code (1 : Nat) (Option.some (Jvm.ClassFile.FieldType.array Jvm.ClassFile.FieldType.byte))).before a0 Z = true := hw _ (List.mem_of_getElem? (i := 13) rfl)
theorem ow14 {Z : State} {a0 : Array Value} (hw : ∀ d ∈ tables_1, d.before a0 Z = true) : (Jvm.Cond.arrayClass Jvm.ClassFile.FieldType.byte).before a0 Z = true := hw _ (List.mem_of_getElem? (i := 14) rfl)
theorem ow15 {Z : State} {a0 : Array Value} (hw : ∀ d ∈ tables_1, d.before a0 Z = true) : (Jvm.Cond.methodLink "java/lang/String" (209 : Nat) ({ cls := "java/lang/String", name := "<init>", desc := "([BB)V" } : Jvm.MethodName)).before a0 Z = true := hw _ (List.mem_of_getElem? (i := 15) rfl)
theorem ow16 {Z : State} {a0 : Array Value} (hw : ∀ d ∈ tables_1, d.before a0 Z = true) : (Jvm.Cond.instanceMethod ({ cls := "java/lang/String", name := "<init>", desc := "([BB)V" } : Jvm.MethodName)).before a0 Z = true := hw _ (List.mem_of_getElem? (i := 16) rfl)
theorem ow18 {Z : State} {a0 : Array Value} (hw : ∀ d ∈ tables_1, d.before a0 Z = true) : (Jvm.Cond.code ({ cls := "java/lang/String", name := "<init>", desc := "([BB)V" } : Jvm.MethodName) jdk_42_method_151_code (3 : Nat) (Option.none : Option Jvm.ClassFile.FieldType)).before a0 Z = true := hw _ (List.mem_of_getElem? (i := 18) rfl)
theorem ow19 {Z : State} {a0 : Array Value} (hw : ∀ d ∈ tables_1, d.before a0 Z = true) : (Jvm.Cond.methodLink "java/lang/String" (1 : Nat) ({ cls := "java/lang/Object", name := "<init>", desc := "()V" } : Jvm.MethodName)).before a0 Z = true := hw _ (List.mem_of_getElem? (i := 19) rfl)
theorem ow20 {Z : State} {a0 : Array Value} (hw : ∀ d ∈ tables_1, d.before a0 Z = true) : (Jvm.Cond.instanceMethod ({ cls := "java/lang/Object", name := "<init>", desc := "()V" } : Jvm.MethodName)).before a0 Z = true := hw _ (List.mem_of_getElem? (i := 20) rfl)
theorem ow21 {Z : State} {a0 : Array Value} (hw : ∀ d ∈ tables_1, d.before a0 Z = true) : (Jvm.Cond.code ({ cls := "java/lang/Object", name := "<init>", desc := "()V" } : Jvm.MethodName) object_method_1_code (1 : Nat) (Option.none : Option Jvm.ClassFile.FieldType)).before a0 Z = true := hw _ (List.mem_of_getElem? (i := 21) rfl)
theorem ow22 {Z : State} {a0 : Array Value} (hw : ∀ d ∈ tables_1, d.before a0 Z = true) : (Jvm.Cond.fieldLink "java/lang/String" (9 : Nat) "java/lang/String" "value" "[B").before a0 Z = true := hw _ (List.mem_of_getElem? (i := 22) rfl)
theorem ow23 {Z : State} {a0 : Array Value} (hw : ∀ d ∈ tables_1, d.before a0 Z = true) : (Jvm.Cond.laysFinal "java/lang/String" "java/lang/String" "value" "[B").before a0 Z = true := hw _ (List.mem_of_getElem? (i := 23) rfl)
theorem ow24 {Z : State} {a0 : Array Value} (hw : ∀ d ∈ tables_1, d.before a0 Z = true) : (Jvm.Cond.fieldLink "java/lang/String" (15 : Nat) "java/lang/String" "coder" "B").before a0 Z = true := hw _ (List.mem_of_getElem? (i := 24) rfl)
theorem ow25 {Z : State} {a0 : Array Value} (hw : ∀ d ∈ tables_1, d.before a0 Z = true) : (Jvm.Cond.laysFinal "java/lang/String" "java/lang/String" "coder" "B").before a0 Z = true := hw _ (List.mem_of_getElem? (i := 25) rfl)
theorem ow26 {Z : State} {a0 : Array Value} (hw : ∀ d ∈ tables_1, d.before a0 Z = true) : (Jvm.Cond.classLink "com/example/bindery/bindery/model/StructureIsRootPinLaw" (16 : Nat) "com/example/bindery/bindery/model/Structure").before a0 Z = true := hw _ (List.mem_of_getElem? (i := 26) rfl)
theorem ow27 {Z : State} {a0 : Array Value} (hw : ∀ d ∈ tables_1, d.before a0 Z = true) : (Jvm.Cond.instantiable "com/example/bindery/bindery/model/Structure" (7 : Nat)).before a0 Z = true := hw _ (List.mem_of_getElem? (i := 27) rfl)
theorem ow28 {Z : State} {a0 : Array Value} (hw : ∀ d ∈ tables_1, d.before a0 Z = true) : (Jvm.Cond.initialized "com/example/bindery/bindery/model/Structure").before a0 Z = true := hw _ (List.mem_of_getElem? (i := 28) rfl)
theorem ow29 {Z : State} {a0 : Array Value} (hw : ∀ d ∈ tables_1, d.before a0 Z = true) : (Jvm.Cond.methodLink "com/example/bindery/bindery/model/StructureIsRootPinLaw" (18 : Nat) ({ cls := "com/example/bindery/bindery/model/Structure", name := "<init>", desc := "(IILjava/lang/String;IIII)V" } : Jvm.MethodName)).before a0 Z = true := hw _ (List.mem_of_getElem? (i := 29) rfl)
theorem ow30 {Z : State} {a0 : Array Value} (hw : ∀ d ∈ tables_1, d.before a0 Z = true) : (Jvm.Cond.instanceMethod ({ cls := "com/example/bindery/bindery/model/Structure", name := "<init>", desc := "(IILjava/lang/String;IIII)V" } : Jvm.MethodName)).before a0 Z = true := hw _ (List.mem_of_getElem? (i := 30) rfl)
theorem ow31 {Z : State} {a0 : Array Value} (hw : ∀ d ∈ tables_1, d.before a0 Z = true) : (Jvm.Cond.code ({ cls := "com/example/bindery/bindery/model/Structure", name := "<init>", desc := "(IILjava/lang/String;IIII)V" } : Jvm.MethodName) prog_67_method_1_code (8 : Nat) (Option.none : Option Jvm.ClassFile.FieldType)).before a0 Z = true := hw _ (List.mem_of_getElem? (i := 31) rfl)
theorem ow32 {Z : State} {a0 : Array Value} (hw : ∀ d ∈ tables_1, d.before a0 Z = true) : (Jvm.Cond.methodLink "com/example/bindery/bindery/model/Structure" (1 : Nat) ({ cls := "java/lang/Record", name := "<init>", desc := "()V" } : Jvm.MethodName)).before a0 Z = true := hw _ (List.mem_of_getElem? (i := 32) rfl)
theorem ow33 {Z : State} {a0 : Array Value} (hw : ∀ d ∈ tables_1, d.before a0 Z = true) : (Jvm.Cond.instanceMethod ({ cls := "java/lang/Record", name := "<init>", desc := "()V" } : Jvm.MethodName)).before a0 Z = true := hw _ (List.mem_of_getElem? (i := 33) rfl)
theorem ow35 {Z : State} {a0 : Array Value} (hw : ∀ d ∈ tables_1, d.before a0 Z = true) : (Jvm.Cond.initialized "java/lang/Record").before a0 Z = true := hw _ (List.mem_of_getElem? (i := 35) rfl)
theorem ow36 {Z : State} {a0 : Array Value} (hw : ∀ d ∈ tables_1, d.before a0 Z = true) : (Jvm.Cond.code ({ cls := "java/lang/Record", name := "<init>", desc := "()V" } : Jvm.MethodName) jdk_30_method_1_code (1 : Nat) (Option.none : Option Jvm.ClassFile.FieldType)).before a0 Z = true := hw _ (List.mem_of_getElem? (i := 36) rfl)
theorem ow37 {Z : State} {a0 : Array Value} (hw : ∀ d ∈ tables_1, d.before a0 Z = true) : (Jvm.Cond.methodLink "java/lang/Record" (1 : Nat) ({ cls := "java/lang/Object", name := "<init>", desc := "()V" } : Jvm.MethodName)).before a0 Z = true := hw _ (List.mem_of_getElem? (i := 37) rfl)
theorem ow38 {Z : State} {a0 : Array Value} (hw : ∀ d ∈ tables_1, d.before a0 Z = true) : (Jvm.Cond.fieldLink "com/example/bindery/bindery/model/Structure" (7 : Nat) "com/example/bindery/bindery/model/Structure" "parent" "I").before a0 Z = true := hw _ (List.mem_of_getElem? (i := 38) rfl)
theorem ow39 {Z : State} {a0 : Array Value} (hw : ∀ d ∈ tables_1, d.before a0 Z = true) : (Jvm.Cond.laysFinal "com/example/bindery/bindery/model/Structure" "com/example/bindery/bindery/model/Structure" "parent" "I").before a0 Z = true := hw _ (List.mem_of_getElem? (i := 39) rfl)
theorem ow40 {Z : State} {a0 : Array Value} (hw : ∀ d ∈ tables_1, d.before a0 Z = true) : (Jvm.Cond.fieldLink "com/example/bindery/bindery/model/Structure" (13 : Nat) "com/example/bindery/bindery/model/Structure" "sequence" "I").before a0 Z = true := hw _ (List.mem_of_getElem? (i := 40) rfl)
theorem ow41 {Z : State} {a0 : Array Value} (hw : ∀ d ∈ tables_1, d.before a0 Z = true) : (Jvm.Cond.laysFinal "com/example/bindery/bindery/model/Structure" "com/example/bindery/bindery/model/Structure" "sequence" "I").before a0 Z = true := hw _ (List.mem_of_getElem? (i := 41) rfl)
theorem ow42 {Z : State} {a0 : Array Value} (hw : ∀ d ∈ tables_1, d.before a0 Z = true) : (Jvm.Cond.fieldLink "com/example/bindery/bindery/model/Structure" (16 : Nat) "com/example/bindery/bindery/model/Structure" "label" "Ljava/lang/String;").before a0 Z = true := hw _ (List.mem_of_getElem? (i := 42) rfl)
theorem ow43 {Z : State} {a0 : Array Value} (hw : ∀ d ∈ tables_1, d.before a0 Z = true) : (Jvm.Cond.laysFinal "com/example/bindery/bindery/model/Structure" "com/example/bindery/bindery/model/Structure" "label" "Ljava/lang/String;").before a0 Z = true := hw _ (List.mem_of_getElem? (i := 43) rfl)
theorem ow44 {Z : State} {a0 : Array Value} (hw : ∀ d ∈ tables_1, d.before a0 Z = true) : (Jvm.Cond.fieldLink "com/example/bindery/bindery/model/Structure" (20 : Nat) "com/example/bindery/bindery/model/Structure" "number" "I").before a0 Z = true := hw _ (List.mem_of_getElem? (i := 44) rfl)
theorem ow45 {Z : State} {a0 : Array Value} (hw : ∀ d ∈ tables_1, d.before a0 Z = true) : (Jvm.Cond.laysFinal "com/example/bindery/bindery/model/Structure" "com/example/bindery/bindery/model/Structure" "number" "I").before a0 Z = true := hw _ (List.mem_of_getElem? (i := 45) rfl)
theorem ow46 {Z : State} {a0 : Array Value} (hw : ∀ d ∈ tables_1, d.before a0 Z = true) : (Jvm.Cond.fieldLink "com/example/bindery/bindery/model/Structure" (23 : Nat) "com/example/bindery/bindery/model/Structure" "logicalChildren" "I").before a0 Z = true := hw _ (List.mem_of_getElem? (i := 46) rfl)
theorem ow47 {Z : State} {a0 : Array Value} (hw : ∀ d ∈ tables_1, d.before a0 Z = true) : (Jvm.Cond.laysFinal "com/example/bindery/bindery/model/Structure" "com/example/bindery/bindery/model/Structure" "logicalChildren" "I").before a0 Z = true := hw _ (List.mem_of_getElem? (i := 47) rfl)
theorem ow48 {Z : State} {a0 : Array Value} (hw : ∀ d ∈ tables_1, d.before a0 Z = true) : (Jvm.Cond.fieldLink "com/example/bindery/bindery/model/Structure" (26 : Nat) "com/example/bindery/bindery/model/Structure" "physicalChildren" "I").before a0 Z = true := hw _ (List.mem_of_getElem? (i := 48) rfl)
theorem ow49 {Z : State} {a0 : Array Value} (hw : ∀ d ∈ tables_1, d.before a0 Z = true) : (Jvm.Cond.laysFinal "com/example/bindery/bindery/model/Structure" "com/example/bindery/bindery/model/Structure" "physicalChildren" "I").before a0 Z = true := hw _ (List.mem_of_getElem? (i := 49) rfl)
theorem ow50 {Z : State} {a0 : Array Value} (hw : ∀ d ∈ tables_1, d.before a0 Z = true) : (Jvm.Cond.fieldLink "com/example/bindery/bindery/model/Structure" (29 : Nat) "com/example/bindery/bindery/model/Structure" "references" "I").before a0 Z = true := hw _ (List.mem_of_getElem? (i := 50) rfl)
theorem ow51 {Z : State} {a0 : Array Value} (hw : ∀ d ∈ tables_1, d.before a0 Z = true) : (Jvm.Cond.laysFinal "com/example/bindery/bindery/model/Structure" "com/example/bindery/bindery/model/Structure" "references" "I").before a0 Z = true := hw _ (List.mem_of_getElem? (i := 51) rfl)
theorem ow52 {Z : State} {a0 : Array Value} (hw : ∀ d ∈ tables_1, d.before a0 Z = true) : (Jvm.Cond.methodLink "com/example/bindery/bindery/model/StructureIsRootPinLaw" (21 : Nat) ({ cls := "com/example/bindery/bindery/model/Structure", name := "isRoot", desc := "()Z" } : Jvm.MethodName)).before a0 Z = true := hw _ (List.mem_of_getElem? (i := 52) rfl)
theorem ow53 {Z : State} {a0 : Array Value} (hw : ∀ d ∈ tables_1, d.before a0 Z = true) : (Jvm.Cond.declares ({ cls := "com/example/bindery/bindery/model/Structure", name := "isRoot", desc := "()Z" } : Jvm.MethodName)).before a0 Z = true := hw _ (List.mem_of_getElem? (i := 53) rfl)
theorem ow54 {Z : State} {a0 : Array Value} (hw : ∀ d ∈ tables_1, d.before a0 Z = true) : (Jvm.Cond.instanceMethod ({ cls := "com/example/bindery/bindery/model/Structure", name := "isRoot", desc := "()Z" } : Jvm.MethodName)).before a0 Z = true := hw _ (List.mem_of_getElem? (i := 54) rfl)
theorem ow55 {Z : State} {a0 : Array Value} (hw : ∀ d ∈ tables_1, d.before a0 Z = true) : (Jvm.Cond.selects "com/example/bindery/bindery/model/Structure" ({ cls := "com/example/bindery/bindery/model/Structure", name := "isRoot", desc := "()Z" } : Jvm.MethodName) ({ cls := "com/example/bindery/bindery/model/Structure", name := "isRoot", desc := "()Z" } : Jvm.MethodName)).before a0 Z = true := hw _ (List.mem_of_getElem? (i := 55) rfl)
theorem ow56 {Z : State} {a0 : Array Value} (hw : ∀ d ∈ tables_1, d.before a0 Z = true) : (Jvm.Cond.code ({ cls := "com/example/bindery/bindery/model/Structure", name := "isRoot", desc := "()Z" } : Jvm.MethodName) prog_67_method_2_code (1 : Nat) (Option.some Jvm.ClassFile.FieldType.boolean)).before a0 Z = true := hw _ (List.mem_of_getElem? (i := 56) rfl)
theorem ow57 {Z : State} {a0 : Array Value} (hw : ∀ d ∈ tables_1, d.before a0 Z = true) : (Jvm.Cond.classLink "com/example/bindery/bindery/model/StructureIsRootPinLaw" (7 : Nat) "java/lang/String").before a0 Z = true := hw _ (List.mem_of_getElem? (i := 57) rfl)
theorem ow58 {Z : State} {a0 : Array Value} (hw : ∀ d ∈ tables_1, d.before a0 Z = true) : (Jvm.Cond.arrayClass Jvm.ClassFile.FieldType.char).before a0 Z = true := hw _ (List.mem_of_getElem? (i := 58) rfl)
theorem ow59 {Z : State} {a0 : Array Value} (hw : ∀ d ∈ tables_1, d.before a0 Z = true) : (Jvm.Cond.methodLink "com/example/bindery/bindery/model/StructureIsRootPinLaw" (9 : Nat) ({ cls := "java/lang/String", name := "<init>", desc := "([C)V" } : Jvm.MethodName)).before a0 Z = true := hw _ (List.mem_of_getElem? (i := 59) rfl)
theorem ow60 {Z : State} {a0 : Array Value} (hw : ∀ d ∈ tables_1, d.before a0 Z = true) : (Jvm.Cond.instanceMethod ({ cls := "java/lang/String", name := "<init>", desc := "([C)V" } : Jvm.MethodName)).before a0 Z = true := hw _ (List.mem_of_getElem? (i := 60) rfl)
theorem ow61 {Z : State} {a0 : Array Value} (hw : ∀ d ∈ tables_1, d.before a0 Z = true) : (Jvm.Cond.code ({ cls := "java/lang/String", name := "<init>", desc := "([C)V" } : Jvm.MethodName) jdk_42_method_3_code (2 : Nat) (Option.none : Option Jvm.ClassFile.FieldType)).before a0 Z = true := hw _ (List.mem_of_getElem? (i := 61) rfl)
theorem ow62 {Z : State} {a0 : Array Value} (hw : ∀ d ∈ tables_1, d.before a0 Z = true) : (Jvm.Cond.methodLink "java/lang/String" (27 : Nat) ({ cls := "java/lang/String", name := "<init>", desc := "([CIILjava/lang/Void;)V" } : Jvm.MethodName)).before a0 Z = true := hw _ (List.mem_of_getElem? (i := 62) rfl)
theorem ow63 {Z : State} {a0 : Array Value} (hw : ∀ d ∈ tables_1, d.before a0 Z = true) : (Jvm.Cond.instanceMethod ({ cls := "java/lang/String", name := "<init>", desc := "([CIILjava/lang/Void;)V" } : Jvm.MethodName)).before a0 Z = true := hw _ (List.mem_of_getElem? (i := 63) rfl)
theorem ow64 {Z : State} {a0 : Array Value} (hw : ∀ d ∈ tables_1, d.before a0 Z = true) : (Jvm.Cond.code ({ cls := "java/lang/String", name := "<init>", desc := "([CIILjava/lang/Void;)V" } : Jvm.MethodName) jdk_42_method_149_code (6 : Nat) (Option.none : Option Jvm.ClassFile.FieldType)).before a0 Z = true := hw _ (List.mem_of_getElem? (i := 64) rfl)
theorem ow65 {Z : State} {a0 : Array Value} (hw : ∀ d ∈ tables_1, d.before a0 Z = true) : (Jvm.Cond.stringLink "java/lang/String" (7 : Nat) "").before a0 Z = true := hw _ (List.mem_of_getElem? (i := 65) rfl)
theorem ow66 {Z : State} {a0 : Array Value} (hw : ∀ d ∈ tables_1, d.before a0 Z = true) : (Jvm.Cond.soleField "java/lang/String" "value").before a0 Z = true := hw _ (List.mem_of_getElem? (i := 66) rfl)
theorem ow67 {Z : State} {a0 : Array Value} (hw : ∀ d ∈ tables_1, d.before a0 Z = true) : (Jvm.Cond.soleField "java/lang/String" "coder").before a0 Z = true := hw _ (List.mem_of_getElem? (i := 67) rfl)
def own_EL : List (String × Nat) := [("java/lang/String", 7)]
theorem own_mem0 : ("java/lang/String", 7) ∈ own_EL := List.mem_of_getElem? (i := 0) rfl
theorem own_EW {Z : State} {a0 : Array Value} (hw : ∀ d ∈ tables_1, d.before a0 Z = true) : EW Z a0 own_EL := (EW.cons (ow65 hw) (by decide) EW.nil)
theorem own_sA {Z : State} {a0 : Array Value} (hw : ∀ d ∈ tables_1, d.before a0 Z = true) : ∀ a ∈ Bundle.stringAtoms, a.before a0 Z = true := by
  intro a ha
  simp only [Bundle.stringAtoms, List.mem_cons, List.not_mem_nil, or_false] at ha
  rcases ha with rfl | rfl | rfl | rfl | rfl | rfl | rfl
  · exact (ow2 hw)
  · exact (ow10 hw)
  · exact (ow14 hw)
  · exact (ow23 hw)
  · exact (ow25 hw)
  · exact (ow66 hw)
  · exact (ow67 hw)

def own_root (a b : Int32) : Int32 := if a = 0 then (if b = 0 then 1 else 0) else 0
theorem own_same (a b : Int32) : own_root a b = (if (a ||| b) = 0 then (1 : Int32) else (0 : Int32)) := by
  have e : (a ||| b) = 0 ↔ a = 0 ∧ b = 0 := by simp
  unfold own_root
  by_cases h1 : a = 0 <;> by_cases h2 : b = 0 <;> simp [e, h1, h2]
theorem own_lat (x : Int32) : ¬ (255 : Int32) < (x &&& (255 : Int32)).toUInt32.toUInt16.toUInt32.toInt32 := by
  have a : (255 : Int32).toInt = 255 := by decide
  have m := (c_and x 255 (by decide)).2
  rw [i2c_mask, Int32.lt_iff_toInt_lt]; omega

theorem pn0 : plainName "java/lang/String" = true := by first | (simp [plainName, overriddenIn]; done) | decide +kernel
theorem d10_0 : decode jdk_42_method_149_code 0 = .ok (.aload_n 0, 1) := by decide +kernel
theorem d10_1 : decode jdk_42_method_149_code 1 = .ok (.invokespecial 1, 3) := by decide +kernel
theorem d10_4 : decode jdk_42_method_149_code 4 = .ok (.iload_n 3, 1) := by decide +kernel
theorem d10_5 : decode jdk_42_method_149_code 5 = .ok (.ifCond .ne 22, 3) := by decide +kernel
theorem d10_8 : decode jdk_42_method_149_code 8 = .ok (.aload_n 0, 1) := by decide +kernel
theorem d10_9 : decode jdk_42_method_149_code 9 = .ok (.ldc 7, 2) := by decide +kernel
theorem d10_11 : decode jdk_42_method_149_code 11 = .ok (.getfield 9, 3) := by decide +kernel
theorem d10_14 : decode jdk_42_method_149_code 14 = .ok (.putfield 9, 3) := by decide +kernel
theorem d10_17 : decode jdk_42_method_149_code 17 = .ok (.aload_n 0, 1) := by decide +kernel
theorem d10_18 : decode jdk_42_method_149_code 18 = .ok (.ldc 7, 2) := by decide +kernel
theorem d10_20 : decode jdk_42_method_149_code 20 = .ok (.getfield 15, 3) := by decide +kernel
theorem d10_23 : decode jdk_42_method_149_code 23 = .ok (.putfield 15, 3) := by decide +kernel
theorem d10_26 : decode jdk_42_method_149_code 26 = .ok (.return_, 1) := by decide +kernel
theorem ef_rse4 (m : MethodId) (x0 : Addr) (x1 : Addr) (x2 : Int32) (x3 : Int32) : entryFrame m #[(.ref x0), (.ref x1), (.int x2), (.int x3), .null] 6 = mkF m 0 #[.val (.ref x0), .val (.ref x1), .val (.int x2), .val (.int x3), .val .null, .unset] [] := by first | (simp [entryFrame, mkF, argsToLocals, Value.category]; done) | rfl
def Q_rse4 (Z : State) (s_ : Addr) (a : Addr) (ca : ClassId) (h0 : Heap) (n0 : Nat) (v : Option Value) (h : Heap) (L : List Loc) : Prop := v = none ∧ Fr n0 L ∧ Keep h0 h [s_] ∧ Exa Z h s_ "java/lang/String" ∧ ∃ b cb, Fld Z h s_ "java/lang/String" "value" "[B" (.ref b) ∧ Fld Z h s_ "java/lang/String" "coder" "B" (.int (0 : Int32)) ∧ Arv Z h b cb .byte (0 : Int32) [] (.int (0 : Int32))
set_option maxRecDepth 65536 in
set_option maxHeartbeats 40000000 in
theorem rse4 (l : Launch) (Z : State) (a0 : Array Value) (hw : ∀ d ∈ tables_1, d.before a0 Z = true) (ws : List Jvm.Cond) (s_ : Addr) (a : Addr) (ca : ClassId) (h0 : Heap) (n0 : Nat) (Z0 : n0 ≤ h0.size) (E_s : Exa Z h0 s_ "java/lang/String") (g_s : n0 ≤ s_) (F_v : Fld Z h0 s_ "java/lang/String" "value" "[B" .null) (F_c : Fld Z h0 s_ "java/lang/String" "coder" "B" (.int (0 : Int32))) (V_a : Arv Z h0 a ca .char (0 : Int32) [] (.int (0 : Int32))) (nsa : s_ ≠ a) :
    OConW l Z own_EL (⟨"java/lang/String", "<init>", "([CIILjava/lang/Void;)V"⟩ : MethodName) jdk_42_method_149_code 6 none ws ({ frames := 1, cells := 2, slots := 4, locals := 12 } : Room) #[(.ref s_), (.ref a), (.int (0 : Int32)), (.int (0 : Int32)), .null] h0 [s_] (Q_rse4 Z s_ a ca h0 n0) := by
  refine OConW.of (plainFor_of_name pn0) ?_
  intro p e s m below meth c s₁ Φ X0 hx hby hml hown hnm hret hlk hZ e0 hS hkk hC hsf hΦ
  have sf_s_ := hsf s_ (List.mem_of_getElem? (i := 0) rfl)
  have N0 := Fr.nil n0
  refine OGo.st (fun _ kz => castTop (ef_rse4 m s_ a (0 : Int32) (0 : Int32)) kz) ?_
  have K0 := Keep.refl h0 [s_]
  show OG p e below Φ s₁ m 0 #[rv s_, rv a, iv 0, iv 0, .val .null, .unset] []
  refine OGo.st (fun _ kz => XS.aloadN X0.here hx rfl (hb hby d10_0) rfl rfl kz) ?_
  show OG p e below Φ s₁ m 1 #[rv s_, rv a, iv 0, iv 0, .val .null, .unset] [(.ref s_)]
  obtain ⟨T1, X1, e1, st1⟩ := initO X0 hx hZ hown (ow19 hw) (ow20 hw) (ow21 hw) e0 (g := (mkF m 1 #[rv s_, rv a, iv 0, iv 0, .val .null, .unset] [(.ref s_)])) rfl (by rw [hml]; rfl) rfl (hb hby d10_1) (by decide) (W := 0) (Nat.le_of_eq rfl) (by decide)
  refine OGo.st st1 ?_
  show OG p e below Φ T1 m 4 #[rv s_, rv a, iv 0, iv 0, .val .null, .unset] []
  refine OGo.st (fun _ kz => XS.iloadN X1.here hx rfl (hb hby d10_4) rfl kz) ?_
  show OG p e below Φ T1 m 5 #[rv s_, rv a, iv 0, iv 0, .val .null, .unset] [(.int 0)]
  refine OGo.st (fun _ kz => XS.ifNo X1.here hx rfl (hb hby d10_5) rfl (XT.i0_ne_f (by decide)) kz) ?_
  show OG p e below Φ T1 m 8 #[rv s_, rv a, iv 0, iv 0, .val .null, .unset] []
  refine OGo.st (fun _ kz => XS.aloadN X1.here hx rfl (hb hby d10_8) rfl rfl kz) ?_
  show OG p e below Φ T1 m 9 #[rv s_, rv a, iv 0, iv 0, .val .null, .unset] [(.ref s_)]
  obtain ⟨a2, T2, h2, kq2, b2, cb2, X2, e2, E2, hS, hkk, hZ, hown, Ex2, Fc2, Fv2, Vb2, -, -, hB2, Li2, ne2, st2⟩ := ldcCH X1 hx hZ hown (ow65 hw) (own_sA hw) e1 hS hkk (own_EW hw) (own_mem0) hC.1 (vs := []) (z := 0) ⟨by decide, by decide⟩ (by decide) (by decide) (g := (mkF m 9 #[rv s_, rv a, iv 0, iv 0, .val .null, .unset] [(.ref s_)])) rfl (hb hby d10_9) (n := 0) (by decide) (by decide) (by decide) (by decide)
  have F3 := E_s.ext E2
  have F4 := F_v.ext E2
  have F5 := F_c.ext E2
  have F6 := V_a.ext E2
  have K2 := K0.ext E2
  have Zs2 : n0 ≤ h2.size := Nat.le_trans Z0 E2.1
  have hA7 := hB2
  have sf_s_ := hA7.safe E_s.lt sf_s_
  have hkk := hkk
  have hC := hC.trans hA7
  have nl2_s_ := ne2 s_ sf_s_
  refine OGo.st st2 ?_
  show OG p e below Φ T2 m 11 #[rv s_, rv a, iv 0, iv 0, .val .null, .unset] [(.ref a2), (.ref s_)]
  obtain ⟨T8, X8, e8, st8⟩ := getF X2 hx hZ hown (host := "") (Or.inl (ow22 hw)) Via.refl e2 Fv2 (g := (mkF m 11 #[rv s_, rv a, iv 0, iv 0, .val .null, .unset] [(.ref a2), (.ref s_)])) rfl rfl (hb hby d10_11)
  refine OGo.st st8 ?_
  show OG p e below Φ T8 m 14 #[rv s_, rv a, iv 0, iv 0, .val .null, .unset] [(.ref b2), (.ref s_)]
  obtain ⟨T9, h9, X9, e9, W9, st9⟩ := putF X8 hx hZ hown (host := "") (Or.inl (ow22 hw)) Via.refl e8 F4 F3 (Or.inr ⟨(ow23 hw), rfl, hnm⟩) (ow10 hw) (ty := (.array .byte)) (by decide) rfl rfl (g := (mkF m 14 #[rv s_, rv a, iv 0, iv 0, .val .null, .unset] [(.ref b2), (.ref s_)])) rfl rfl (hb hby d10_14)
  have F10 := F3.wr W9
  have F11 := F4.same W9
  have F12 := F5.other W9 (Or.inr (slot_ne (Or.inr (ow25 hw)) (Or.inr (ow23 hw)) (by decide) (t := .byte) (t' := (.array .byte)) (by decide) (by decide)))
  have F13 := F6.other W9 (Ne.symm nsa)
  have F14 := Ex2.wr W9
  have F15 := Fc2.other W9 (Or.inl (Ne.symm nl2_s_.1))
  have F16 := Fv2.other W9 (Or.inl (Ne.symm nl2_s_.1))
  have F17 := Vb2.other W9 (Ne.symm nl2_s_.2)
  have K9 := K2.wr W9 (Or.inl (List.mem_of_getElem? (i := 0) rfl))
  have N9 := Fr.snoc X9 N0 g_s
  have Zs9 : n0 ≤ h9.size := by rw [W9.size]; exact Zs2
  have hA18 := CHr.wr W9 sf_s_ hC.1
  have sf_s_ := hA18.safe F3.lt sf_s_
  have hkk := Nat.le_trans hkk hA18.2.1
  have hC := hC.trans hA18
  refine OGo.st st9 ?_
  show OG p e below Φ T9 m 17 #[rv s_, rv a, iv 0, iv 0, .val .null, .unset] []
  refine OGo.st (fun _ kz => XS.aloadN X9.here hx rfl (hb hby d10_17) rfl rfl kz) ?_
  show OG p e below Φ T9 m 18 #[rv s_, rv a, iv 0, iv 0, .val .null, .unset] [(.ref s_)]
  refine OGo.st (ldcAgain X9 hx hZ hown (ow65 hw) Li2 (g := (mkF m 18 #[rv s_, rv a, iv 0, iv 0, .val .null, .unset] [(.ref s_)])) rfl (hb hby d10_18)) ?_
  show OG p e below Φ T9 m 20 #[rv s_, rv a, iv 0, iv 0, .val .null, .unset] [(.ref a2), (.ref s_)]
  obtain ⟨T19, X19, e19, st19⟩ := getF X9 hx hZ hown (host := "") (Or.inl (ow24 hw)) Via.refl e9 F15 (g := (mkF m 20 #[rv s_, rv a, iv 0, iv 0, .val .null, .unset] [(.ref a2), (.ref s_)])) rfl rfl (hb hby d10_20)
  refine OGo.st st19 ?_
  show OG p e below Φ T19 m 23 #[rv s_, rv a, iv 0, iv 0, .val .null, .unset] [(.int 0), (.ref s_)]
  obtain ⟨T20, h20, X20, e20, W20, st20⟩ := putF X19 hx hZ hown (host := "") (Or.inl (ow24 hw)) Via.refl e19 F12 F10 (Or.inr ⟨(ow25 hw), rfl, hnm⟩) (ow10 hw) (ty := .byte) (by decide) (by decide) (by decide) (g := (mkF m 23 #[rv s_, rv a, iv 0, iv 0, .val .null, .unset] [(.int 0), (.ref s_)])) rfl rfl (hb hby d10_23)
  have F21 := F10.wr W20
  have F22 := F11.other W20 (Or.inr (slot_ne (Or.inr (ow23 hw)) (Or.inr (ow25 hw)) (by decide) (t := (.array .byte)) (t' := .byte) (by decide) (by decide)))
  have F23 := F12.same W20
  have F24 := F13.other W20 (Ne.symm nsa)
  have F25 := F14.wr W20
  have F26 := F15.other W20 (Or.inl (Ne.symm nl2_s_.1))
  have F27 := F16.other W20 (Or.inl (Ne.symm nl2_s_.1))
  have F28 := F17.other W20 (Ne.symm nl2_s_.2)
  have K20 := K9.wr W20 (Or.inl (List.mem_of_getElem? (i := 0) rfl))
  have N20 := Fr.snoc X20 N9 g_s
  have Zs20 : n0 ≤ h20.size := by rw [W20.size]; exact Zs9
  have hA29 := CHr.wr W20 sf_s_ hC.1
  have sf_s_ := hA29.safe F10.lt sf_s_
  have hkk := Nat.le_trans hkk hA29.2.1
  have hC := hC.trans hA29
  refine OGo.st st20 ?_
  show OG p e below Φ T20 m 26 #[rv s_, rv a, iv 0, iv 0, .val .null, .unset] []
  refine OGo.finW X20 hlk hS e20 hkk (v := none) (fun _ => rfl) (by decide) (by decide) hZ (own_EW hw) hC (fun fs hr => X20.returnOut hx hret (hb hby d10_26) hr) fun U eU hc hF => hΦ _ _ _ ?_ hc hF
  rw [eU]
  show Q_rse4 Z s_ a ca h0 n0 _ _ _
  exact ⟨rfl, N20, K20, F21, _, _, F22, F23, F28⟩

theorem d9_0 : decode jdk_42_method_3_code 0 = .ok (.aload_n 0, 1) := by decide +kernel
theorem d9_1 : decode jdk_42_method_3_code 1 = .ok (.aload_n 1, 1) := by decide +kernel
theorem d9_2 : decode jdk_42_method_3_code 2 = .ok (.iconst 0, 1) := by decide +kernel
theorem d9_3 : decode jdk_42_method_3_code 3 = .ok (.aload_n 1, 1) := by decide +kernel
theorem d9_4 : decode jdk_42_method_3_code 4 = .ok (.arraylength, 1) := by decide +kernel
theorem d9_5 : decode jdk_42_method_3_code 5 = .ok (.aconst_null, 1) := by decide +kernel
theorem d9_6 : decode jdk_42_method_3_code 6 = .ok (.invokespecial 27, 3) := by decide +kernel
theorem pd0 : parseMethodDescriptor "([CIILjava/lang/Void;)V" = some ⟨[(.array .char), .int, .int, (.object "java/lang/Void")], none⟩ := by decide +kernel
theorem d9_9 : decode jdk_42_method_3_code 9 = .ok (.return_, 1) := by decide +kernel
theorem ef_rse1 (m : MethodId) (x0 : Addr) (x1 : Addr) : entryFrame m #[(.ref x0), (.ref x1)] 2 = mkF m 0 #[.val (.ref x0), .val (.ref x1)] [] := by first | (simp [entryFrame, mkF, argsToLocals, Value.category]; done) | rfl
def Q_rse1 (Z : State) (s_ : Addr) (a : Addr) (ca : ClassId) (h0 : Heap) (n0 : Nat) (v : Option Value) (h : Heap) (L : List Loc) : Prop := v = none ∧ Fr n0 L ∧ Keep h0 h [s_] ∧ Exa Z h s_ "java/lang/String" ∧ ∃ b cb, Fld Z h s_ "java/lang/String" "value" "[B" (.ref b) ∧ Fld Z h s_ "java/lang/String" "coder" "B" (.int (0 : Int32)) ∧ Arv Z h b cb .byte (0 : Int32) [] (.int (0 : Int32))
set_option maxRecDepth 65536 in
set_option maxHeartbeats 40000000 in
theorem rse1 (l : Launch) (Z : State) (a0 : Array Value) (hw : ∀ d ∈ tables_1, d.before a0 Z = true) (ws : List Jvm.Cond) (s_ : Addr) (a : Addr) (ca : ClassId) (h0 : Heap) (n0 : Nat) (Z0 : n0 ≤ h0.size) (E_s : Exa Z h0 s_ "java/lang/String") (g_s : n0 ≤ s_) (F_v : Fld Z h0 s_ "java/lang/String" "value" "[B" .null) (F_c : Fld Z h0 s_ "java/lang/String" "coder" "B" (.int (0 : Int32))) (V_a : Arv Z h0 a ca .char (0 : Int32) [] (.int (0 : Int32))) (nsa : s_ ≠ a) :
    OConW l Z own_EL (⟨"java/lang/String", "<init>", "([C)V"⟩ : MethodName) jdk_42_method_3_code 2 none ws ({ frames := 2, cells := 2, slots := 4, locals := 29 } : Room) #[(.ref s_), (.ref a)] h0 [s_] (Q_rse1 Z s_ a ca h0 n0) := by
  refine OConW.of (plainFor_of_name pn0) ?_
  intro p e s m below meth c s₁ Φ X0 hx hby hml hown hnm hret hlk hZ e0 hS hkk hC hsf hΦ
  have sf_s_ := hsf s_ (List.mem_of_getElem? (i := 0) rfl)
  have N0 := Fr.nil n0
  refine OGo.st (fun _ kz => castTop (ef_rse1 m s_ a) kz) ?_
  have K0 := Keep.refl h0 [s_]
  show OG p e below Φ s₁ m 0 #[rv s_, rv a] []
  refine OGo.st (fun _ kz => XS.aloadN X0.here hx rfl (hb hby d9_0) rfl rfl kz) ?_
  show OG p e below Φ s₁ m 1 #[rv s_, rv a] [(.ref s_)]
  refine OGo.st (fun _ kz => XS.aloadN X0.here hx rfl (hb hby d9_1) rfl rfl kz) ?_
  show OG p e below Φ s₁ m 2 #[rv s_, rv a] [(.ref a), (.ref s_)]
  refine OGo.st (fun _ kz => XS.iconst X0.here hx rfl (hb hby d9_2) kz) ?_
  show OG p e below Φ s₁ m 3 #[rv s_, rv a] [(.int 0), (.ref a), (.ref s_)]
  refine OGo.st (fun _ kz => XS.aloadN X0.here hx rfl (hb hby d9_3) rfl rfl kz) ?_
  show OG p e below Φ s₁ m 4 #[rv s_, rv a] [(.ref a), (.int 0), (.ref a), (.ref s_)]
  obtain ⟨cl1, Aq1, -, S1, M1, -, -⟩ := id V_a
  refine OGo.st (fun _ kz => X0.arraylength hx (by rw [e0]; exact Aq1.1) (State.isArrayOf_alike hZ.alike Aq1.2.1) (g := (mkF m 4 #[rv s_, rv a] [(.ref a), (.int 0), (.ref a), (.ref s_)])) rfl rfl (hb hby d9_4) _ kz) ?_
  rw [len_of S1 M1]
  show OG p e below Φ s₁ m 5 #[rv s_, rv a] [(.int 0), (.int 0), (.ref a), (.ref s_)]
  refine OGo.st (fun _ kz => XS.aconstNull X0.here hx rfl (hb hby d9_5) kz) ?_
  show OG p e below Φ s₁ m 6 #[rv s_, rv a] [.null, (.int 0), (.int 0), (.ref a), (.ref s_)]
  obtain ⟨_, T2, L2, X2, hQ2, st2, hS, hZ, hown, hB2⟩ := own_callSpW X0 hx hZ rfl hown (ow62 hw) (ow63 hw) (ow2 hw) (ow64 hw) (by decide) (rse4 l Z a0 hw [] s_ a ca h0 n0 Z0 E_s g_s F_v F_c V_a nsa) e0 (W := 0) (by decide) (by decide) (by decide) (by decide) (pc := 6) (ls := #[rv s_, rv a]) (stk := [.null, (.int 0), (.int 0), (.ref a), (.ref s_)]) (by rw [hml]; rfl) (a := s_) (argsL := [(.ref a), (.int 0), (.int 0), .null]) (rest := []) (lenOf pd0 rfl) rfl rfl (Nat.le_of_eq rfl) (hb hby d9_6) hS hkk (own_EW hw) hC (allS ⟨E_s.lt, sf_s_⟩ all0)
  obtain ⟨rfl, Nq2, Kq2, Eq2, b2, cb2, Fv2, Fc2, Vq2⟩ := hQ2
  have N2 := Fr.app N0 Nq2
  have Zs2 : n0 ≤ T2.heap.size := Nat.le_trans Z0 Kq2.1
  have F3 := V_a.keep Kq2 (ninS (Ne.symm nsa) nin0)
  have K2 := K0.trans Kq2 (allS (Or.inl (List.mem_of_getElem? (i := 0) rfl)) all0)
  have hA4 := hB2
  have sf_s_ := hA4.safe E_s.lt sf_s_
  have hkk := Nat.le_refl T2.heap.size
  have hC := hC.trans hA4
  refine OGo.st st2 ?_
  show OG p e below Φ T2 m 9 #[rv s_, rv a] []
  refine OGo.finW X2 hlk hS rfl hkk (v := none) (fun _ => rfl) (by decide) (by decide) hZ (own_EW hw) hC (fun fs hr => X2.returnOut hx hret (hb hby d9_9) hr) fun U eU hc hF => hΦ _ _ _ ?_ hc hF
  rw [eU]
  show Q_rse1 Z s_ a ca h0 n0 _ _ _
  exact ⟨rfl, N2, K2, Eq2, _, _, Fv2, Fc2, Vq2⟩

theorem pn1 : plainName "java/lang/StringLatin1" = true := by first | (simp [plainName, overriddenIn]; done) | decide +kernel
theorem d2_0 : decode jdk_43_method_3_code 0 = .ok (.iload_n 0, 1) := by decide +kernel
theorem d2_1 : decode jdk_43_method_3_code 1 = .ok (.sipush 255, 3) := by decide +kernel
theorem d2_4 : decode jdk_43_method_3_code 4 = .ok (.if_icmp .gt 7, 3) := by decide +kernel
theorem d2_7 : decode jdk_43_method_3_code 7 = .ok (.iconst 1, 1) := by decide +kernel
theorem d2_8 : decode jdk_43_method_3_code 8 = .ok (.goto 4, 3) := by decide +kernel
theorem d2_12 : decode jdk_43_method_3_code 12 = .ok (.ireturn, 1) := by decide +kernel
theorem ef_rvcan (m : MethodId) (x0 : Int32) : entryFrame m #[(.int x0)] 1 = mkF m 0 #[.val (.int x0)] [] := by first | (simp [entryFrame, mkF, argsToLocals, Value.category]; done) | rfl
def Q_rvcan (Z : State) (xc : Int32) (h0 : Heap) (n0 : Nat) (v : Option Value) (h : Heap) (L : List Loc) : Prop := v = some (.int (1 : Int32)) ∧ Fr n0 L ∧ h = h0
set_option maxRecDepth 65536 in
set_option maxHeartbeats 40000000 in
theorem rvcan (l : Launch) (Z : State) (a0 : Array Value) (hw : ∀ d ∈ tables_1, d.before a0 Z = true) (ws : List Jvm.Cond) (xc : Int32) (h0 : Heap) (n0 : Nat) (Z0 : n0 ≤ h0.size) (hl : ¬ (255 : Int32) < xc) :
    OCon l Z (⟨"java/lang/StringLatin1", "canEncode", "(C)Z"⟩ : MethodName) jdk_43_method_3_code 1 (some .boolean) ws ({ frames := 0, cells := 0, slots := 0, locals := 0 } : Room) #[(.int xc)] h0 (Q_rvcan Z xc h0 n0) := by
  refine OCon.of (plainFor_of_name pn1) ?_
  intro p e s m below meth c s₁ Φ X0 hx hby hml hown hnm hret hlk hZ e0 hΦ
  have N0 := Fr.nil n0
  refine OGo.st (fun _ kz => castTop (ef_rvcan m xc) kz) ?_
  show OG p e below Φ s₁ m 0 #[iv xc] []
  refine OGo.st (fun _ kz => XS.iloadN X0.here hx rfl (hb hby d2_0) rfl kz) ?_
  show OG p e below Φ s₁ m 1 #[iv xc] [(.int xc)]
  refine OGo.st (fun _ kz => XS.sipush X0.here hx rfl (hb hby d2_1) kz) ?_
  show OG p e below Φ s₁ m 4 #[iv xc] [(.int 255), (.int xc)]
  refine OGo.st (fun _ kz => XS.icmpNo X0.here hx rfl (hb hby d2_4) rfl (XT.ii_gt_f hl) kz) ?_
  show OG p e below Φ s₁ m 7 #[iv xc] []
  refine OGo.st (fun _ kz => XS.iconst X0.here hx rfl (hb hby d2_7) kz) ?_
  show OG p e below Φ s₁ m 8 #[iv xc] [(.int 1)]
  refine OGo.st (fun _ kz => XS.goto X0.here hx rfl (pc0 := 8) (pc' := 12) rfl (hb hby d2_8) (by decide) (by decide) kz) ?_
  show OG p e below Φ s₁ m 12 #[iv xc] [(.int 1)]
  refine OGo.fin X0 hlk (v := (some (.int 1))) (fun h => by rw [hret] at h; cases h) (by decide) (by decide) (fun fs hr => X0.ireturnOut hx hret rfl (by simp) (hb hby d2_12) hr) fun U eU hF => hΦ _ _ _ ?_ hF
  rw [eU, e0]
  show Q_rvcan Z xc h0 n0 _ _ _
  exact ⟨rfl, N0, rfl⟩

theorem d3_0 : decode jdk_43_method_46_code 0 = .ok (.iconst 1, 1) := by decide +kernel
theorem d3_1 : decode jdk_43_method_46_code 1 = .ok (.newarray .byte, 2) := by decide +kernel
theorem d3_3 : decode jdk_43_method_46_code 3 = .ok (.dup, 1) := by decide +kernel
theorem d3_4 : decode jdk_43_method_46_code 4 = .ok (.iconst 0, 1) := by decide +kernel
theorem d3_5 : decode jdk_43_method_46_code 5 = .ok (.iload_n 0, 1) := by decide +kernel
theorem d3_6 : decode jdk_43_method_46_code 6 = .ok (.i2b, 1) := by decide +kernel
theorem d3_7 : decode jdk_43_method_46_code 7 = .ok (.bastore, 1) := by decide +kernel
theorem d3_8 : decode jdk_43_method_46_code 8 = .ok (.areturn, 1) := by decide +kernel
theorem ef_rvtob (m : MethodId) (x0 : Int32) : entryFrame m #[(.int x0)] 1 = mkF m 0 #[.val (.int x0)] [] := by first | (simp [entryFrame, mkF, argsToLocals, Value.category]; done) | rfl
def Q_rvtob (Z : State) (xc : Int32) (h0 : Heap) (n0 : Nat) (v : Option Value) (h : Heap) (L : List Loc) : Prop := ∃ b cb, v = some (.ref b) ∧ Fr n0 L ∧ Keep h0 h [] ∧ Arv Z h b cb .byte (1 : Int32) [(.int (nar .byte (xc.toInt8.toInt32)))] (.int (0 : Int32)) ∧ h0.size ≤ b
set_option maxRecDepth 65536 in
set_option maxHeartbeats 40000000 in
theorem rvtob (l : Launch) (Z : State) (a0 : Array Value) (hw : ∀ d ∈ tables_1, d.before a0 Z = true) (ws : List Jvm.Cond) (xc : Int32) (h0 : Heap) (n0 : Nat) (Z0 : n0 ≤ h0.size)  :
    OCon l Z (⟨"java/lang/StringLatin1", "toBytes", "(C)[B"⟩ : MethodName) jdk_43_method_46_code 1 (some (.array .byte)) ws ({ frames := 0, cells := 1, slots := 1, locals := 0 } : Room) #[(.int xc)] h0 (Q_rvtob Z xc h0 n0) := by
  refine OCon.of (plainFor_of_name pn1) ?_
  intro p e s m below meth c s₁ Φ X0 hx hby hml hown hnm hret hlk hZ e0 hΦ
  have N0 := Fr.nil n0
  refine OGo.st (fun _ kz => castTop (ef_rvtob m xc) kz) ?_
  have K0 := Keep.refl h0 []
  show OG p e below Φ s₁ m 0 #[iv xc] []
  refine OGo.st (fun _ kz => XS.iconst X0.here hx rfl (hb hby d3_0) kz) ?_
  show OG p e below Φ s₁ m 1 #[iv xc] [(.int 1)]
  obtain ⟨T1, h1, c1, X1, e1, E1, Ar1, st1⟩ := newP (aty := .byte) X0 hx hZ (ow14 hw) e0 (g := (mkF m 1 #[iv xc] [(.int 1)])) rfl (hb hby d3_1) rfl (by decide) (cap := 1) (by decide) (by decide) (by decide) (by decide)
  obtain ⟨b1, g1⟩ : ∃ z, z = h0.size := ⟨_, rfl⟩
  rw [← g1] at Ar1 st1
  have gb1 : n0 ≤ b1 := Nat.le_trans Z0 (Nat.le_of_eq g1.symm)
  have sz1 : h0.size ≤ b1 := Nat.le_trans K0.1 (Nat.le_of_eq g1.symm)
  have K1 := K0.ext E1
  have Zs1 : n0 ≤ h1.size := Nat.le_trans Z0 E1.1
  have V1 : Arv Z h1 b1 c1 .byte (1 : Int32) [(.int (0 : Int32))] (.int (0 : Int32)) := (Arv.new Ar1 (by decide)).pad (pad_rep [] _ 1)
  refine OGo.st st1 ?_
  show OG p e below Φ T1 m 3 #[iv xc] [(.ref b1)]
  refine OGo.st (fun _ kz => XS.dup X1.here hx rfl (hb hby d3_3) rfl rfl kz) ?_
  show OG p e below Φ T1 m 4 #[iv xc] [(.ref b1), (.ref b1)]
  refine OGo.st (fun _ kz => XS.iconst X1.here hx rfl (hb hby d3_4) kz) ?_
  show OG p e below Φ T1 m 5 #[iv xc] [(.int 0), (.ref b1), (.ref b1)]
  refine OGo.st (fun _ kz => XS.iloadN X1.here hx rfl (hb hby d3_5) rfl kz) ?_
  show OG p e below Φ T1 m 6 #[iv xc] [(.int xc), (.int 0), (.ref b1), (.ref b1)]
  refine OGo.st (fun _ kz => XT.i2b X1.here hx rfl (hb hby d3_6) rfl kz) ?_
  show OG p e below Φ T1 m 7 #[iv xc] [(.int (xc.toInt8.toInt32)), (.int 0), (.ref b1), (.ref b1)]
  obtain ⟨cl2, Aq2, Cq2, S2, M2, H2, G2⟩ := id V1
  have in2 : ¬ ((0 : Int32) < 0 ∨ cl2.slots.size ≤ (0 : Int32).toNatClampNeg) := inb_of S2 ⟨by decide, by decide⟩
  obtain ⟨T2, h2, X2, e2, W2, st2⟩ := stB X1 hx hZ e1 Aq2 in2 (g := (mkF m 7 #[iv xc] [(.int (xc.toInt8.toInt32)), (.int 0), (.ref b1), (.ref b1)])) rfl rfl (hb hby d3_7)
  have W2 : Wr h1 h2 b1 (0 : Int32).toNatClampNeg (.int (nar .byte (xc.toInt8.toInt32))) := W2
  have V2 : Arv Z h2 b1 c1 .byte (1 : Int32) [(.int (nar .byte (xc.toInt8.toInt32)))] (.int (0 : Int32)) := Arv.set Aq2 Cq2 S2 M2 H2 G2 (fits_nar_byte _) W2 0 (by decide) (by show 0 < 1; decide)
  have K2 := K1.wr W2 (Or.inr sz1)
  have N2 := Fr.snoc X2 N0 gb1
  have Zs2 : n0 ≤ h2.size := by rw [W2.size]; exact Zs1
  refine OGo.st st2 ?_
  show OG p e below Φ T2 m 8 #[iv xc] [(.ref b1)]
  refine OGo.fin X2 hlk (v := (some (.ref b1))) (fun h => by rw [hret] at h; cases h) (by decide) (by decide) (fun fs hr => X2.areturnOut hx rfl hret rfl (hb hby d3_8) hr) fun U eU hF => hΦ _ _ _ ?_ hF
  rw [eU, e2]
  show Q_rvtob Z xc h0 n0 _ _ _
  exact ⟨_, _, rfl, N2, K2, V2, sz1⟩

theorem d4_0 : decode jdk_42_method_151_code 0 = .ok (.aload_n 0, 1) := by decide +kernel
theorem d4_1 : decode jdk_42_method_151_code 1 = .ok (.invokespecial 1, 3) := by decide +kernel
theorem d4_4 : decode jdk_42_method_151_code 4 = .ok (.aload_n 0, 1) := by decide +kernel
theorem d4_5 : decode jdk_42_method_151_code 5 = .ok (.aload_n 1, 1) := by decide +kernel
theorem d4_6 : decode jdk_42_method_151_code 6 = .ok (.putfield 9, 3) := by decide +kernel
theorem d4_9 : decode jdk_42_method_151_code 9 = .ok (.aload_n 0, 1) := by decide +kernel
theorem d4_10 : decode jdk_42_method_151_code 10 = .ok (.iload_n 2, 1) := by decide +kernel
theorem d4_11 : decode jdk_42_method_151_code 11 = .ok (.putfield 15, 3) := by decide +kernel
theorem d4_14 : decode jdk_42_method_151_code 14 = .ok (.return_, 1) := by decide +kernel
theorem ef_rvinb (m : MethodId) (x0 : Addr) (x1 : Addr) (x2 : Int32) : entryFrame m #[(.ref x0), (.ref x1), (.int x2)] 3 = mkF m 0 #[.val (.ref x0), .val (.ref x1), .val (.int x2)] [] := by first | (simp [entryFrame, mkF, argsToLocals, Value.category]; done) | rfl
def Q_rvinb (Z : State) (s_ : Addr) (b : Addr) (h0 : Heap) (n0 : Nat) (v : Option Value) (h : Heap) (L : List Loc) : Prop := v = none ∧ Fr n0 L ∧ Keep h0 h [s_] ∧ Exa Z h s_ "java/lang/String" ∧ Fld Z h s_ "java/lang/String" "value" "[B" (.ref b) ∧ Fld Z h s_ "java/lang/String" "coder" "B" (.int (0 : Int32))
set_option maxRecDepth 65536 in
set_option maxHeartbeats 40000000 in
theorem rvinb (l : Launch) (Z : State) (a0 : Array Value) (hw : ∀ d ∈ tables_1, d.before a0 Z = true) (ws : List Jvm.Cond) (s_ : Addr) (b : Addr) (h0 : Heap) (n0 : Nat) (Z0 : n0 ≤ h0.size) (E_s : Exa Z h0 s_ "java/lang/String") (g_s : n0 ≤ s_) (F_v : Fld Z h0 s_ "java/lang/String" "value" "[B" .null) (F_c : Fld Z h0 s_ "java/lang/String" "coder" "B" (.int (0 : Int32))) :
    OCon l Z (⟨"java/lang/String", "<init>", "([BB)V"⟩ : MethodName) jdk_42_method_151_code 3 none ws ({ frames := 1, cells := 0, slots := 0, locals := 12 } : Room) #[(.ref s_), (.ref b), (.int (0 : Int32))] h0 (Q_rvinb Z s_ b h0 n0) := by
  refine OCon.of (plainFor_of_name pn0) ?_
  intro p e s m below meth c s₁ Φ X0 hx hby hml hown hnm hret hlk hZ e0 hΦ
  have N0 := Fr.nil n0
  refine OGo.st (fun _ kz => castTop (ef_rvinb m s_ b (0 : Int32)) kz) ?_
  have K0 := Keep.refl h0 [s_]
  show OG p e below Φ s₁ m 0 #[rv s_, rv b, iv 0] []
  refine OGo.st (fun _ kz => XS.aloadN X0.here hx rfl (hb hby d4_0) rfl rfl kz) ?_
  show OG p e below Φ s₁ m 1 #[rv s_, rv b, iv 0] [(.ref s_)]
  obtain ⟨T1, X1, e1, st1⟩ := initO X0 hx hZ hown (ow19 hw) (ow20 hw) (ow21 hw) e0 (g := (mkF m 1 #[rv s_, rv b, iv 0] [(.ref s_)])) rfl (by rw [hml]; rfl) rfl (hb hby d4_1) (by decide) (W := 0) (Nat.le_of_eq rfl) (by decide)
  refine OGo.st st1 ?_
  show OG p e below Φ T1 m 4 #[rv s_, rv b, iv 0] []
  refine OGo.st (fun _ kz => XS.aloadN X1.here hx rfl (hb hby d4_4) rfl rfl kz) ?_
  show OG p e below Φ T1 m 5 #[rv s_, rv b, iv 0] [(.ref s_)]
  refine OGo.st (fun _ kz => XS.aloadN X1.here hx rfl (hb hby d4_5) rfl rfl kz) ?_
  show OG p e below Φ T1 m 6 #[rv s_, rv b, iv 0] [(.ref b), (.ref s_)]
  obtain ⟨T2, h2, X2, e2, W2, st2⟩ := putF X1 hx hZ hown (host := "") (Or.inl (ow22 hw)) Via.refl e1 F_v E_s (Or.inr ⟨(ow23 hw), rfl, hnm⟩) (ow10 hw) (ty := (.array .byte)) (by decide) rfl rfl (g := (mkF m 6 #[rv s_, rv b, iv 0] [(.ref b), (.ref s_)])) rfl rfl (hb hby d4_6)
  have F3 := E_s.wr W2
  have F4 := F_v.same W2
  have F5 := F_c.other W2 (Or.inr (slot_ne (Or.inr (ow25 hw)) (Or.inr (ow23 hw)) (by decide) (t := .byte) (t' := (.array .byte)) (by decide) (by decide)))
  have K2 := K0.wr W2 (Or.inl (List.mem_of_getElem? (i := 0) rfl))
  have N2 := Fr.snoc X2 N0 g_s
  have Zs2 : n0 ≤ h2.size := by rw [W2.size]; exact Z0
  refine OGo.st st2 ?_
  show OG p e below Φ T2 m 9 #[rv s_, rv b, iv 0] []
  refine OGo.st (fun _ kz => XS.aloadN X2.here hx rfl (hb hby d4_9) rfl rfl kz) ?_
  show OG p e below Φ T2 m 10 #[rv s_, rv b, iv 0] [(.ref s_)]
  refine OGo.st (fun _ kz => XS.iloadN X2.here hx rfl (hb hby d4_10) rfl kz) ?_
  show OG p e below Φ T2 m 11 #[rv s_, rv b, iv 0] [(.int 0), (.ref s_)]
  obtain ⟨T6, h6, X6, e6, W6, st6⟩ := putF X2 hx hZ hown (host := "") (Or.inl (ow24 hw)) Via.refl e2 F5 F3 (Or.inr ⟨(ow25 hw), rfl, hnm⟩) (ow10 hw) (ty := .byte) (by decide) (by decide) (by decide) (g := (mkF m 11 #[rv s_, rv b, iv 0] [(.int 0), (.ref s_)])) rfl rfl (hb hby d4_11)
  have F7 := F3.wr W6
  have F8 := F4.other W6 (Or.inr (slot_ne (Or.inr (ow23 hw)) (Or.inr (ow25 hw)) (by decide) (t := (.array .byte)) (t' := .byte) (by decide) (by decide)))
  have F9 := F5.same W6
  have K6 := K2.wr W6 (Or.inl (List.mem_of_getElem? (i := 0) rfl))
  have N6 := Fr.snoc X6 N2 g_s
  have Zs6 : n0 ≤ h6.size := by rw [W6.size]; exact Zs2
  refine OGo.st st6 ?_
  show OG p e below Φ T6 m 14 #[rv s_, rv b, iv 0] []
  refine OGo.fin X6 hlk (v := none) (fun _ => rfl) (by decide) (by decide) (fun fs hr => X6.returnOut hx hret (hb hby d4_14) hr) fun U eU hF => hΦ _ _ _ ?_ hF
  rw [eU, e6]
  show Q_rvinb Z s_ b h0 n0 _ _ _
  exact ⟨rfl, N6, K6, F7, F8, F9⟩

theorem d1_0 : decode jdk_42_method_139_code 0 = .ok (.getstatic 38, 3) := by decide +kernel
theorem d1_3 : decode jdk_42_method_139_code 3 = .ok (.ifCond .eq 23, 3) := by decide +kernel
theorem d1_6 : decode jdk_42_method_139_code 6 = .ok (.iload_n 0, 1) := by decide +kernel
theorem d1_7 : decode jdk_42_method_139_code 7 = .ok (.invokestatic 1015, 3) := by decide +kernel
theorem pd1 : parseMethodDescriptor "(C)Z" = some ⟨[.char], some .boolean⟩ := by decide +kernel
theorem d1_10 : decode jdk_42_method_139_code 10 = .ok (.ifCond .eq 16, 3) := by decide +kernel
theorem d1_13 : decode jdk_42_method_139_code 13 = .ok (.new 10, 3) := by decide +kernel
theorem d1_16 : decode jdk_42_method_139_code 16 = .ok (.dup, 1) := by decide +kernel
theorem d1_17 : decode jdk_42_method_139_code 17 = .ok (.iload_n 0, 1) := by decide +kernel
theorem d1_18 : decode jdk_42_method_139_code 18 = .ok (.invokestatic 1018, 3) := by decide +kernel
theorem pd2 : parseMethodDescriptor "(C)[B" = some ⟨[.char], some (.array .byte)⟩ := by decide +kernel
theorem d1_21 : decode jdk_42_method_139_code 21 = .ok (.iconst 0, 1) := by decide +kernel
theorem d1_22 : decode jdk_42_method_139_code 22 = .ok (.invokespecial 209, 3) := by decide +kernel
theorem pd3 : parseMethodDescriptor "([BB)V" = some ⟨[(.array .byte), .byte], none⟩ := by decide +kernel
theorem d1_25 : decode jdk_42_method_139_code 25 = .ok (.areturn, 1) := by decide +kernel
theorem ef_rvvof (m : MethodId) (x0 : Int32) : entryFrame m #[(.int x0)] 1 = mkF m 0 #[.val (.int x0)] [] := by first | (simp [entryFrame, mkF, argsToLocals, Value.category]; done) | rfl
def Q_rvvof (Z : State) (xc : Int32) (qc : Int32) (h0 : Heap) (n0 : Nat) (v : Option Value) (h : Heap) (L : List Loc) : Prop := ∃ s_ b cb, v = some (.ref s_) ∧ Fr n0 L ∧ Keep h0 h [] ∧ Exa Z h s_ "java/lang/String" ∧ Fld Z h s_ "java/lang/String" "value" "[B" (.ref b) ∧ Fld Z h s_ "java/lang/String" "coder" "B" (.int (0 : Int32)) ∧ Arv Z h b cb .byte (1 : Int32) [(.int (nar .byte (xc.toInt8.toInt32)))] (.int (0 : Int32)) ∧ h0.size ≤ s_ ∧ h0.size ≤ b ∧ s_ ≠ b
set_option maxRecDepth 65536 in
set_option maxHeartbeats 40000000 in
theorem rvvof (l : Launch) (Z : State) (a0 : Array Value) (hw : ∀ d ∈ tables_1, d.before a0 Z = true) (ws : List Jvm.Cond) (xc : Int32) (qc : Int32) (h0 : Heap) (n0 : Nat) (Z0 : n0 ≤ h0.size) (S_q : Sta Z h0 "java/lang/String" "COMPACT_STRINGS" "Z" (.int qc)) (hq : ¬ qc = 0) (hl : ¬ (255 : Int32) < xc) :
    OCon l Z (⟨"java/lang/String", "valueOf", "(C)Ljava/lang/String;"⟩ : MethodName) jdk_42_method_139_code 1 (some (.object "java/lang/String")) ws ({ frames := 2, cells := 2, slots := 5, locals := 27 } : Room) #[(.int xc)] h0 (Q_rvvof Z xc qc h0 n0) := by
  refine OCon.of (plainFor_of_name pn0) ?_
  intro p e s m below meth c s₁ Φ X0 hx hby hml hown hnm hret hlk hZ e0 hΦ
  have N0 := Fr.nil n0
  refine OGo.st (fun _ kz => castTop (ef_rvvof m xc) kz) ?_
  have K0 := Keep.refl h0 []
  show OG p e below Φ s₁ m 0 #[iv xc] []
  obtain ⟨T1, X1, e1, st1⟩ := getS2 X0 hx hZ hown (host := "") (Or.inl (ow4 hw)) Via.refl e0 S_q (g := (mkF m 0 #[iv xc] [])) rfl (hb hby d1_0)
  refine OGo.st st1 ?_
  show OG p e below Φ T1 m 3 #[iv xc] [(.int qc)]
  refine OGo.st (fun _ kz => XS.ifNo X1.here hx rfl (hb hby d1_3) rfl (XT.i0_eq_f hq) kz) ?_
  show OG p e below Φ T1 m 6 #[iv xc] []
  refine OGo.st (fun _ kz => XS.iloadN X1.here hx rfl (hb hby d1_6) rfl kz) ?_
  show OG p e below Φ T1 m 7 #[iv xc] [(.int xc)]
  obtain ⟨_, T2, L2, X2, hQ2, st2⟩ := own_callSt X1 hx hZ hown (ow5 hw) (ow6 hw) (ow7 hw) (ow8 hw) (by decide) (rvcan l Z a0 hw [] xc h0 n0 Z0 hl) e1 (W := 0) (by decide) (by decide) (by decide) (by decide) (pc := 7) (ls := #[iv xc]) (stk := [(.int xc)]) (by rw [hml]; rfl) (argsL := [(.int xc)]) (rest := []) (lenOf pd1 rfl) rfl rfl (Nat.le_of_eq rfl) (hb hby d1_7)
  obtain ⟨rfl, Nq2, e2⟩ := hQ2
  have N2 := Fr.app N0 Nq2
  refine OGo.st st2 ?_
  show OG p e below Φ T2 m 10 #[iv xc] [(.int 1)]
  refine OGo.st (fun _ kz => XS.ifNo X2.here hx rfl (hb hby d1_10) rfl (XT.i0_eq_f (by decide)) kz) ?_
  show OG p e below Φ T2 m 13 #[iv xc] []
  obtain ⟨T3, h3, X3, e3, E3, A3, D3, U3, st3⟩ := newO X2 hx hZ hown (ow9 hw) (ow10 hw) (ow2 hw) e2 (g := (mkF m 13 #[iv xc] [])) rfl (hb hby d1_13) (by decide) (by decide)
  obtain ⟨b3, g3⟩ : ∃ z, z = h0.size := ⟨_, rfl⟩
  rw [← g3] at A3 D3 st3 U3
  have F4 := S_q.ext E3
  have gb3 : n0 ≤ b3 := Nat.le_trans Z0 (Nat.le_of_eq g3.symm)
  have K3 := K0.ext E3
  have sz3 : h0.size ≤ b3 := Nat.le_trans K0.1 (Nat.le_of_eq g3.symm)
  have Zs3 : n0 ≤ h3.size := Nat.le_trans Z0 E3.1
  have F3_23 : Fld Z h3 b3 "java/lang/String" "value" "[B" .null := D3 (Or.inr (ow23 hw)) (ty := (.array .byte)) (by decide)
  have F3_25 : Fld Z h3 b3 "java/lang/String" "coder" "B" (.int (0 : Int32)) := D3 (Or.inr (ow25 hw)) (ty := .byte) (by decide)
  refine OGo.st (st3) ?_
  show OG p e below Φ T3 m 16 #[iv xc] [(.ref b3)]
  refine OGo.st (fun _ kz => XS.dup X3.here hx rfl (hb hby d1_16) rfl rfl kz) ?_
  show OG p e below Φ T3 m 17 #[iv xc] [(.ref b3), (.ref b3)]
  refine OGo.st (fun _ kz => XS.iloadN X3.here hx rfl (hb hby d1_17) rfl kz) ?_
  show OG p e below Φ T3 m 18 #[iv xc] [(.int xc), (.ref b3), (.ref b3)]
  obtain ⟨_, T5, L5, X5, hQ5, st5⟩ := own_callSt X3 hx hZ hown (ow11 hw) (ow12 hw) (ow7 hw) (ow13 hw) (by decide) (rvtob l Z a0 hw [] xc h3 n0 Zs3 ) e3 (W := 2) (by decide) (by decide) (by decide) (by decide) (pc := 18) (ls := #[iv xc]) (stk := [(.int xc), (.ref b3), (.ref b3)]) (by rw [hml]; rfl) (argsL := [(.int xc)]) (rest := [(.ref b3), (.ref b3)]) (lenOf pd2 rfl) rfl rfl (Nat.le_of_eq rfl) (hb hby d1_18)
  obtain ⟨b5, cb5, rfl, Nq5, Kq5, Vq5, hz5⟩ := hQ5
  have nq5_b3 : b3 ≠ b5 := Nat.ne_of_lt (Nat.lt_of_lt_of_le A3.lt hz5)
  have gq5 : n0 ≤ b5 := Nat.le_trans Zs3 hz5
  have sq5 : h0.size ≤ b5 := Nat.le_trans K3.1 hz5
  have N5 := Fr.app N2 Nq5
  have Zs5 : n0 ≤ T5.heap.size := Nat.le_trans Zs3 Kq5.1
  have F6 := A3.keep Kq5
  have F7 := F3_23.keep Kq5 nin0
  have F8 := F3_25.keep Kq5 nin0
  have K5 := K3.trans Kq5 all0
  refine OGo.st st5 ?_
  show OG p e below Φ T5 m 21 #[iv xc] [(.ref b5), (.ref b3), (.ref b3)]
  refine OGo.st (fun _ kz => XS.iconst X5.here hx rfl (hb hby d1_21) kz) ?_
  show OG p e below Φ T5 m 22 #[iv xc] [(.int 0), (.ref b5), (.ref b3), (.ref b3)]
  obtain ⟨_, T9, L9, X9, hQ9, st9⟩ := own_callSp X5 hx hZ rfl hown (ow15 hw) (ow16 hw) (ow2 hw) (ow18 hw) (by decide) (rvinb l Z a0 hw [] b3 b5 T5.heap n0 Zs5 F6 gb3 F7 F8) rfl (W := 1) (by decide) (by decide) (by decide) (by decide) (pc := 22) (ls := #[iv xc]) (stk := [(.int 0), (.ref b5), (.ref b3), (.ref b3)]) (by rw [hml]; rfl) (a := b3) (argsL := [(.ref b5), (.int 0)]) (rest := [(.ref b3)]) (lenOf pd3 rfl) rfl rfl (Nat.le_of_eq rfl) (hb hby d1_22)
  obtain ⟨rfl, Nq9, Kq9, Eq9, Fq9_0, Fq9_1⟩ := hQ9
  have N9 := Fr.app N5 Nq9
  have Zs9 : n0 ≤ T9.heap.size := Nat.le_trans Zs5 Kq9.1
  have F10 := Vq5.keep Kq9 (ninS (Ne.symm nq5_b3) nin0)
  have K9 := K5.trans Kq9 (allS (Or.inr sz3) all0)
  refine OGo.st st9 ?_
  show OG p e below Φ T9 m 25 #[iv xc] [(.ref b3)]
  refine OGo.fin X9 hlk (v := (some (.ref b3))) (fun h => by rw [hret] at h; cases h) (by decide) (by decide) (fun fs hr => X9.areturnOut hx rfl hret rfl (hb hby d1_25) hr) fun U eU hF => hΦ _ _ _ ?_ hF
  rw [eU]
  show Q_rvvof Z xc qc h0 n0 _ _ _
  exact ⟨_, _, _, rfl, N9, K9, Eq9, Fq9_0, Fq9_1, F10, sz3, sq5, nq5_b3⟩

theorem pn2 : plainName "java/lang/Record" = true := by first | (simp [plainName, overriddenIn]; done) | decide +kernel
theorem d7_0 : decode jdk_30_method_1_code 0 = .ok (.aload_n 0, 1) := by decide +kernel
theorem d7_1 : decode jdk_30_method_1_code 1 = .ok (.invokespecial 1, 3) := by decide +kernel
theorem d7_4 : decode jdk_30_method_1_code 4 = .ok (.return_, 1) := by decide +kernel
theorem ef_rm1 (m : MethodId) (x0 : Addr) : entryFrame m #[(.ref x0)] 1 = mkF m 0 #[.val (.ref x0)] [] := by first | (simp [entryFrame, mkF, argsToLocals, Value.category]; done) | rfl
def Q_rm1 (Z : State) (a : Addr) (h0 : Heap) (n0 : Nat) (v : Option Value) (h : Heap) (L : List Loc) : Prop := v = none ∧ Fr n0 L ∧ h = h0
set_option maxRecDepth 65536 in
set_option maxHeartbeats 40000000 in
theorem rm1 (l : Launch) (Z : State) (a0 : Array Value) (hw : ∀ d ∈ tables_1, d.before a0 Z = true) (ws : List Jvm.Cond) (a : Addr) (h0 : Heap) (n0 : Nat) (Z0 : n0 ≤ h0.size)  :
    OCon l Z (⟨"java/lang/Record", "<init>", "()V"⟩ : MethodName) jdk_30_method_1_code 1 none ws ({ frames := 1, cells := 0, slots := 0, locals := 12 } : Room) #[(.ref a)] h0 (Q_rm1 Z a h0 n0) := by
  refine OCon.of (plainFor_of_name pn2) ?_
  intro p e s m below meth c s₁ Φ X0 hx hby hml hown hnm hret hlk hZ e0 hΦ
  have N0 := Fr.nil n0
  refine OGo.st (fun _ kz => castTop (ef_rm1 m a) kz) ?_
  show OG p e below Φ s₁ m 0 #[rv a] []
  refine OGo.st (fun _ kz => XS.aloadN X0.here hx rfl (hb hby d7_0) rfl rfl kz) ?_
  show OG p e below Φ s₁ m 1 #[rv a] [(.ref a)]
  obtain ⟨T1, X1, e1, st1⟩ := initO X0 hx hZ hown (ow37 hw) (ow20 hw) (ow21 hw) e0 (g := (mkF m 1 #[rv a] [(.ref a)])) rfl (by rw [hml]; rfl) rfl (hb hby d7_1) (by decide) (W := 0) (Nat.le_of_eq rfl) (by decide)
  refine OGo.st st1 ?_
  show OG p e below Φ T1 m 4 #[rv a] []
  refine OGo.fin X1 hlk (v := none) (fun _ => rfl) (by decide) (by decide) (fun fs hr => X1.returnOut hx hret (hb hby d7_4) hr) fun U eU hF => hΦ _ _ _ ?_ hF
  rw [eU, e1]
  show Q_rm1 Z a h0 n0 _ _ _
  exact ⟨rfl, N0, rfl⟩

theorem pn3 : plainName "com/example/bindery/bindery/model/Structure" = true := by first | (simp [plainName, overriddenIn]; done) | decide +kernel
theorem d6_0 : decode prog_67_method_1_code 0 = .ok (.aload_n 0, 1) := by decide +kernel
theorem d6_1 : decode prog_67_method_1_code 1 = .ok (.invokespecial 1, 3) := by decide +kernel
theorem pd4 : parseMethodDescriptor "()V" = some ⟨[], none⟩ := by decide +kernel
theorem d6_4 : decode prog_67_method_1_code 4 = .ok (.aload_n 0, 1) := by decide +kernel
theorem d6_5 : decode prog_67_method_1_code 5 = .ok (.iload_n 1, 1) := by decide +kernel
theorem d6_6 : decode prog_67_method_1_code 6 = .ok (.putfield 7, 3) := by decide +kernel
theorem d6_9 : decode prog_67_method_1_code 9 = .ok (.aload_n 0, 1) := by decide +kernel
theorem d6_10 : decode prog_67_method_1_code 10 = .ok (.iload_n 2, 1) := by decide +kernel
theorem d6_11 : decode prog_67_method_1_code 11 = .ok (.putfield 13, 3) := by decide +kernel
theorem d6_14 : decode prog_67_method_1_code 14 = .ok (.aload_n 0, 1) := by decide +kernel
theorem d6_15 : decode prog_67_method_1_code 15 = .ok (.aload_n 3, 1) := by decide +kernel
theorem d6_16 : decode prog_67_method_1_code 16 = .ok (.putfield 16, 3) := by decide +kernel
theorem d6_19 : decode prog_67_method_1_code 19 = .ok (.aload_n 0, 1) := by decide +kernel
theorem d6_20 : decode prog_67_method_1_code 20 = .ok (.iload 4, 2) := by decide +kernel
theorem d6_22 : decode prog_67_method_1_code 22 = .ok (.putfield 20, 3) := by decide +kernel
theorem d6_25 : decode prog_67_method_1_code 25 = .ok (.aload_n 0, 1) := by decide +kernel
theorem d6_26 : decode prog_67_method_1_code 26 = .ok (.iload 5, 2) := by decide +kernel
theorem d6_28 : decode prog_67_method_1_code 28 = .ok (.putfield 23, 3) := by decide +kernel
theorem d6_31 : decode prog_67_method_1_code 31 = .ok (.aload_n 0, 1) := by decide +kernel
theorem d6_32 : decode prog_67_method_1_code 32 = .ok (.iload 6, 2) := by decide +kernel
theorem d6_34 : decode prog_67_method_1_code 34 = .ok (.putfield 26, 3) := by decide +kernel
theorem d6_37 : decode prog_67_method_1_code 37 = .ok (.aload_n 0, 1) := by decide +kernel
theorem d6_38 : decode prog_67_method_1_code 38 = .ok (.iload 7, 2) := by decide +kernel
theorem d6_40 : decode prog_67_method_1_code 40 = .ok (.putfield 29, 3) := by decide +kernel
theorem d6_43 : decode prog_67_method_1_code 43 = .ok (.return_, 1) := by decide +kernel
theorem ef_rm2 (m : MethodId) (x0 : Addr) (x1 : Int32) (x2 : Int32) (x3 : Addr) (x4 : Int32) (x5 : Int32) (x6 : Int32) (x7 : Int32) : entryFrame m #[(.ref x0), (.int x1), (.int x2), (.ref x3), (.int x4), (.int x5), (.int x6), (.int x7)] 8 = mkF m 0 #[.val (.ref x0), .val (.int x1), .val (.int x2), .val (.ref x3), .val (.int x4), .val (.int x5), .val (.int x6), .val (.int x7)] [] := by first | (simp [entryFrame, mkF, argsToLocals, Value.category]; done) | rfl
def Q_rm2 (Z : State) (a : Addr) (x1 : Int32) (x2 : Int32) (x3 : Addr) (x4 : Int32) (x5 : Int32) (x6 : Int32) (x7 : Int32) (u0 : Value) (u1 : Value) (u2 : Value) (u3 : Value) (u4 : Value) (u5 : Value) (u6 : Value) (h0 : Heap) (n0 : Nat) (v : Option Value) (h : Heap) (L : List Loc) : Prop := v = none ∧ Fr n0 L ∧ Keep h0 h [a] ∧ Exa Z h a "com/example/bindery/bindery/model/Structure" ∧ Fld Z h a "com/example/bindery/bindery/model/Structure" "parent" "I" (.int x1) ∧ Fld Z h a "com/example/bindery/bindery/model/Structure" "sequence" "I" (.int x2) ∧ Fld Z h a "com/example/bindery/bindery/model/Structure" "label" "Ljava/lang/String;" (.ref x3) ∧ Fld Z h a "com/example/bindery/bindery/model/Structure" "number" "I" (.int x4) ∧ Fld Z h a "com/example/bindery/bindery/model/Structure" "logicalChildren" "I" (.int x5) ∧ Fld Z h a "com/example/bindery/bindery/model/Structure" "physicalChildren" "I" (.int x6) ∧ Fld Z h a "com/example/bindery/bindery/model/Structure" "references" "I" (.int x7)
set_option maxRecDepth 65536 in
set_option maxHeartbeats 40000000 in
theorem rm2 (l : Launch) (Z : State) (a0 : Array Value) (hw : ∀ d ∈ tables_1, d.before a0 Z = true) (ws : List Jvm.Cond) (a : Addr) (x1 : Int32) (x2 : Int32) (x3 : Addr) (x4 : Int32) (x5 : Int32) (x6 : Int32) (x7 : Int32) (u0 : Value) (u1 : Value) (u2 : Value) (u3 : Value) (u4 : Value) (u5 : Value) (u6 : Value) (h0 : Heap) (n0 : Nat) (Z0 : n0 ≤ h0.size) (E_a : Exa Z h0 a "com/example/bindery/bindery/model/Structure") (g_a : n0 ≤ a) (F_0 : Fld Z h0 a "com/example/bindery/bindery/model/Structure" "parent" "I" u0) (F_1 : Fld Z h0 a "com/example/bindery/bindery/model/Structure" "sequence" "I" u1) (F_2 : Fld Z h0 a "com/example/bindery/bindery/model/Structure" "label" "Ljava/lang/String;" u2) (F_3 : Fld Z h0 a "com/example/bindery/bindery/model/Structure" "number" "I" u3) (F_4 : Fld Z h0 a "com/example/bindery/bindery/model/Structure" "logicalChildren" "I" u4) (F_5 : Fld Z h0 a "com/example/bindery/bindery/model/Structure" "physicalChildren" "I" u5) (F_6 : Fld Z h0 a "com/example/bindery/bindery/model/Structure" "references" "I" u6) :
    OCon l Z (⟨"com/example/bindery/bindery/model/Structure", "<init>", "(IILjava/lang/String;IIII)V"⟩ : MethodName) prog_67_method_1_code 8 none ws ({ frames := 2, cells := 0, slots := 0, locals := 24 } : Room) #[(.ref a), (.int x1), (.int x2), (.ref x3), (.int x4), (.int x5), (.int x6), (.int x7)] h0 (Q_rm2 Z a x1 x2 x3 x4 x5 x6 x7 u0 u1 u2 u3 u4 u5 u6 h0 n0) := by
  refine OCon.of (plainFor_of_name pn3) ?_
  intro p e s m below meth c s₁ Φ X0 hx hby hml hown hnm hret hlk hZ e0 hΦ
  have N0 := Fr.nil n0
  refine OGo.st (fun _ kz => castTop (ef_rm2 m a x1 x2 x3 x4 x5 x6 x7) kz) ?_
  have K0 := Keep.refl h0 [a]
  show OG p e below Φ s₁ m 0 #[rv a, iv x1, iv x2, rv x3, iv x4, iv x5, iv x6, iv x7] []
  refine OGo.st (fun _ kz => XS.aloadN X0.here hx rfl (hb hby d6_0) rfl rfl kz) ?_
  show OG p e below Φ s₁ m 1 #[rv a, iv x1, iv x2, rv x3, iv x4, iv x5, iv x6, iv x7] [(.ref a)]
  obtain ⟨_, T1, L1, X1, hQ1, st1⟩ := own_callSp X0 hx hZ rfl hown (ow32 hw) (ow33 hw) (ow35 hw) (ow36 hw) (by decide) (rm1 l Z a0 hw [] a h0 n0 Z0 ) e0 (W := 0) (by decide) (by decide) (by decide) (by decide) (pc := 1) (ls := #[rv a, iv x1, iv x2, rv x3, iv x4, iv x5, iv x6, iv x7]) (stk := [(.ref a)]) (by rw [hml]; rfl) (a := a) (argsL := []) (rest := []) (lenOf pd4 rfl) rfl rfl (Nat.le_of_eq rfl) (hb hby d6_1)
  obtain ⟨rfl, Nq1, e1⟩ := hQ1
  have N1 := Fr.app N0 Nq1
  refine OGo.st st1 ?_
  show OG p e below Φ T1 m 4 #[rv a, iv x1, iv x2, rv x3, iv x4, iv x5, iv x6, iv x7] []
  refine OGo.st (fun _ kz => XS.aloadN X1.here hx rfl (hb hby d6_4) rfl rfl kz) ?_
  show OG p e below Φ T1 m 5 #[rv a, iv x1, iv x2, rv x3, iv x4, iv x5, iv x6, iv x7] [(.ref a)]
  refine OGo.st (fun _ kz => XS.iloadN X1.here hx rfl (hb hby d6_5) rfl kz) ?_
  show OG p e below Φ T1 m 6 #[rv a, iv x1, iv x2, rv x3, iv x4, iv x5, iv x6, iv x7] [(.int x1), (.ref a)]
  obtain ⟨T2, h2, X2, e2, W2, st2⟩ := putF X1 hx hZ hown (host := "") (Or.inl (ow38 hw)) Via.refl e1 F_0 E_a (Or.inr ⟨(ow39 hw), rfl, hnm⟩) (ow27 hw) (ty := .int) (by decide) rfl rfl (g := (mkF m 6 #[rv a, iv x1, iv x2, rv x3, iv x4, iv x5, iv x6, iv x7] [(.int x1), (.ref a)])) rfl rfl (hb hby d6_6)
  have F3 := E_a.wr W2
  have F4 := F_0.same W2
  have F5 := F_1.other W2 (Or.inr (slot_ne (Or.inr (ow41 hw)) (Or.inr (ow39 hw)) (by decide) (t := .int) (t' := .int) (by decide) (by decide)))
  have F6 := F_2.other W2 (Or.inr (slot_ne (Or.inr (ow43 hw)) (Or.inr (ow39 hw)) (by decide) (t := (.object "java/lang/String")) (t' := .int) (by decide) (by decide)))
  have F7 := F_3.other W2 (Or.inr (slot_ne (Or.inr (ow45 hw)) (Or.inr (ow39 hw)) (by decide) (t := .int) (t' := .int) (by decide) (by decide)))
  have F8 := F_4.other W2 (Or.inr (slot_ne (Or.inr (ow47 hw)) (Or.inr (ow39 hw)) (by decide) (t := .int) (t' := .int) (by decide) (by decide)))
  have F9 := F_5.other W2 (Or.inr (slot_ne (Or.inr (ow49 hw)) (Or.inr (ow39 hw)) (by decide) (t := .int) (t' := .int) (by decide) (by decide)))
  have F10 := F_6.other W2 (Or.inr (slot_ne (Or.inr (ow51 hw)) (Or.inr (ow39 hw)) (by decide) (t := .int) (t' := .int) (by decide) (by decide)))
  have K2 := K0.wr W2 (Or.inl (List.mem_of_getElem? (i := 0) rfl))
  have N2 := Fr.snoc X2 N1 g_a
  have Zs2 : n0 ≤ h2.size := by rw [W2.size]; exact Z0
  refine OGo.st st2 ?_
  show OG p e below Φ T2 m 9 #[rv a, iv x1, iv x2, rv x3, iv x4, iv x5, iv x6, iv x7] []
  refine OGo.st (fun _ kz => XS.aloadN X2.here hx rfl (hb hby d6_9) rfl rfl kz) ?_
  show OG p e below Φ T2 m 10 #[rv a, iv x1, iv x2, rv x3, iv x4, iv x5, iv x6, iv x7] [(.ref a)]
  refine OGo.st (fun _ kz => XS.iloadN X2.here hx rfl (hb hby d6_10) rfl kz) ?_
  show OG p e below Φ T2 m 11 #[rv a, iv x1, iv x2, rv x3, iv x4, iv x5, iv x6, iv x7] [(.int x2), (.ref a)]
  obtain ⟨T11, h11, X11, e11, W11, st11⟩ := putF X2 hx hZ hown (host := "") (Or.inl (ow40 hw)) Via.refl e2 F5 F3 (Or.inr ⟨(ow41 hw), rfl, hnm⟩) (ow27 hw) (ty := .int) (by decide) rfl rfl (g := (mkF m 11 #[rv a, iv x1, iv x2, rv x3, iv x4, iv x5, iv x6, iv x7] [(.int x2), (.ref a)])) rfl rfl (hb hby d6_11)
  have F12 := F3.wr W11
  have F13 := F4.other W11 (Or.inr (slot_ne (Or.inr (ow39 hw)) (Or.inr (ow41 hw)) (by decide) (t := .int) (t' := .int) (by decide) (by decide)))
  have F14 := F5.same W11
  have F15 := F6.other W11 (Or.inr (slot_ne (Or.inr (ow43 hw)) (Or.inr (ow41 hw)) (by decide) (t := (.object "java/lang/String")) (t' := .int) (by decide) (by decide)))
  have F16 := F7.other W11 (Or.inr (slot_ne (Or.inr (ow45 hw)) (Or.inr (ow41 hw)) (by decide) (t := .int) (t' := .int) (by decide) (by decide)))
  have F17 := F8.other W11 (Or.inr (slot_ne (Or.inr (ow47 hw)) (Or.inr (ow41 hw)) (by decide) (t := .int) (t' := .int) (by decide) (by decide)))
  have F18 := F9.other W11 (Or.inr (slot_ne (Or.inr (ow49 hw)) (Or.inr (ow41 hw)) (by decide) (t := .int) (t' := .int) (by decide) (by decide)))
  have F19 := F10.other W11 (Or.inr (slot_ne (Or.inr (ow51 hw)) (Or.inr (ow41 hw)) (by decide) (t := .int) (t' := .int) (by decide) (by decide)))
  have K11 := K2.wr W11 (Or.inl (List.mem_of_getElem? (i := 0) rfl))
  have N11 := Fr.snoc X11 N2 g_a
  have Zs11 : n0 ≤ h11.size := by rw [W11.size]; exact Zs2
  refine OGo.st st11 ?_
  show OG p e below Φ T11 m 14 #[rv a, iv x1, iv x2, rv x3, iv x4, iv x5, iv x6, iv x7] []
  refine OGo.st (fun _ kz => XS.aloadN X11.here hx rfl (hb hby d6_14) rfl rfl kz) ?_
  show OG p e below Φ T11 m 15 #[rv a, iv x1, iv x2, rv x3, iv x4, iv x5, iv x6, iv x7] [(.ref a)]
  refine OGo.st (fun _ kz => XS.aloadN X11.here hx rfl (hb hby d6_15) rfl rfl kz) ?_
  show OG p e below Φ T11 m 16 #[rv a, iv x1, iv x2, rv x3, iv x4, iv x5, iv x6, iv x7] [(.ref x3), (.ref a)]
  obtain ⟨T20, h20, X20, e20, W20, st20⟩ := putF X11 hx hZ hown (host := "") (Or.inl (ow42 hw)) Via.refl e11 F15 F12 (Or.inr ⟨(ow43 hw), rfl, hnm⟩) (ow27 hw) (ty := (.object "java/lang/String")) (by decide) rfl rfl (g := (mkF m 16 #[rv a, iv x1, iv x2, rv x3, iv x4, iv x5, iv x6, iv x7] [(.ref x3), (.ref a)])) rfl rfl (hb hby d6_16)
  have F21 := F12.wr W20
  have F22 := F13.other W20 (Or.inr (slot_ne (Or.inr (ow39 hw)) (Or.inr (ow43 hw)) (by decide) (t := .int) (t' := (.object "java/lang/String")) (by decide) (by decide)))
  have F23 := F14.other W20 (Or.inr (slot_ne (Or.inr (ow41 hw)) (Or.inr (ow43 hw)) (by decide) (t := .int) (t' := (.object "java/lang/String")) (by decide) (by decide)))
  have F24 := F15.same W20
  have F25 := F16.other W20 (Or.inr (slot_ne (Or.inr (ow45 hw)) (Or.inr (ow43 hw)) (by decide) (t := .int) (t' := (.object "java/lang/String")) (by decide) (by decide)))
  have F26 := F17.other W20 (Or.inr (slot_ne (Or.inr (ow47 hw)) (Or.inr (ow43 hw)) (by decide) (t := .int) (t' := (.object "java/lang/String")) (by decide) (by decide)))
  have F27 := F18.other W20 (Or.inr (slot_ne (Or.inr (ow49 hw)) (Or.inr (ow43 hw)) (by decide) (t := .int) (t' := (.object "java/lang/String")) (by decide) (by decide)))
  have F28 := F19.other W20 (Or.inr (slot_ne (Or.inr (ow51 hw)) (Or.inr (ow43 hw)) (by decide) (t := .int) (t' := (.object "java/lang/String")) (by decide) (by decide)))
  have K20 := K11.wr W20 (Or.inl (List.mem_of_getElem? (i := 0) rfl))
  have N20 := Fr.snoc X20 N11 g_a
  have Zs20 : n0 ≤ h20.size := by rw [W20.size]; exact Zs11
  refine OGo.st st20 ?_
  show OG p e below Φ T20 m 19 #[rv a, iv x1, iv x2, rv x3, iv x4, iv x5, iv x6, iv x7] []
  refine OGo.st (fun _ kz => XS.aloadN X20.here hx rfl (hb hby d6_19) rfl rfl kz) ?_
  show OG p e below Φ T20 m 20 #[rv a, iv x1, iv x2, rv x3, iv x4, iv x5, iv x6, iv x7] [(.ref a)]
  refine OGo.st (fun _ kz => XS.iload X20.here hx rfl (hb hby d6_20) rfl kz) ?_
  show OG p e below Φ T20 m 22 #[rv a, iv x1, iv x2, rv x3, iv x4, iv x5, iv x6, iv x7] [(.int x4), (.ref a)]
  obtain ⟨T29, h29, X29, e29, W29, st29⟩ := putF X20 hx hZ hown (host := "") (Or.inl (ow44 hw)) Via.refl e20 F25 F21 (Or.inr ⟨(ow45 hw), rfl, hnm⟩) (ow27 hw) (ty := .int) (by decide) rfl rfl (g := (mkF m 22 #[rv a, iv x1, iv x2, rv x3, iv x4, iv x5, iv x6, iv x7] [(.int x4), (.ref a)])) rfl rfl (hb hby d6_22)
  have F30 := F21.wr W29
  have F31 := F22.other W29 (Or.inr (slot_ne (Or.inr (ow39 hw)) (Or.inr (ow45 hw)) (by decide) (t := .int) (t' := .int) (by decide) (by decide)))
  have F32 := F23.other W29 (Or.inr (slot_ne (Or.inr (ow41 hw)) (Or.inr (ow45 hw)) (by decide) (t := .int) (t' := .int) (by decide) (by decide)))
  have F33 := F24.other W29 (Or.inr (slot_ne (Or.inr (ow43 hw)) (Or.inr (ow45 hw)) (by decide) (t := (.object "java/lang/String")) (t' := .int) (by decide) (by decide)))
  have F34 := F25.same W29
  have F35 := F26.other W29 (Or.inr (slot_ne (Or.inr (ow47 hw)) (Or.inr (ow45 hw)) (by decide) (t := .int) (t' := .int) (by decide) (by decide)))
  have F36 := F27.other W29 (Or.inr (slot_ne (Or.inr (ow49 hw)) (Or.inr (ow45 hw)) (by decide) (t := .int) (t' := .int) (by decide) (by decide)))
  have F37 := F28.other W29 (Or.inr (slot_ne (Or.inr (ow51 hw)) (Or.inr (ow45 hw)) (by decide) (t := .int) (t' := .int) (by decide) (by decide)))
  have K29 := K20.wr W29 (Or.inl (List.mem_of_getElem? (i := 0) rfl))
  have N29 := Fr.snoc X29 N20 g_a
  have Zs29 : n0 ≤ h29.size := by rw [W29.size]; exact Zs20
  refine OGo.st st29 ?_
  show OG p e below Φ T29 m 25 #[rv a, iv x1, iv x2, rv x3, iv x4, iv x5, iv x6, iv x7] []
  refine OGo.st (fun _ kz => XS.aloadN X29.here hx rfl (hb hby d6_25) rfl rfl kz) ?_
  show OG p e below Φ T29 m 26 #[rv a, iv x1, iv x2, rv x3, iv x4, iv x5, iv x6, iv x7] [(.ref a)]
  refine OGo.st (fun _ kz => XS.iload X29.here hx rfl (hb hby d6_26) rfl kz) ?_
  show OG p e below Φ T29 m 28 #[rv a, iv x1, iv x2, rv x3, iv x4, iv x5, iv x6, iv x7] [(.int x5), (.ref a)]
  obtain ⟨T38, h38, X38, e38, W38, st38⟩ := putF X29 hx hZ hown (host := "") (Or.inl (ow46 hw)) Via.refl e29 F35 F30 (Or.inr ⟨(ow47 hw), rfl, hnm⟩) (ow27 hw) (ty := .int) (by decide) rfl rfl (g := (mkF m 28 #[rv a, iv x1, iv x2, rv x3, iv x4, iv x5, iv x6, iv x7] [(.int x5), (.ref a)])) rfl rfl (hb hby d6_28)
  have F39 := F30.wr W38
  have F40 := F31.other W38 (Or.inr (slot_ne (Or.inr (ow39 hw)) (Or.inr (ow47 hw)) (by decide) (t := .int) (t' := .int) (by decide) (by decide)))
  have F41 := F32.other W38 (Or.inr (slot_ne (Or.inr (ow41 hw)) (Or.inr (ow47 hw)) (by decide) (t := .int) (t' := .int) (by decide) (by decide)))
  have F42 := F33.other W38 (Or.inr (slot_ne (Or.inr (ow43 hw)) (Or.inr (ow47 hw)) (by decide) (t := (.object "java/lang/String")) (t' := .int) (by decide) (by decide)))
  have F43 := F34.other W38 (Or.inr (slot_ne (Or.inr (ow45 hw)) (Or.inr (ow47 hw)) (by decide) (t := .int) (t' := .int) (by decide) (by decide)))
  have F44 := F35.same W38
  have F45 := F36.other W38 (Or.inr (slot_ne (Or.inr (ow49 hw)) (Or.inr (ow47 hw)) (by decide) (t := .int) (t' := .int) (by decide) (by decide)))
  have F46 := F37.other W38 (Or.inr (slot_ne (Or.inr (ow51 hw)) (Or.inr (ow47 hw)) (by decide) (t := .int) (t' := .int) (by decide) (by decide)))
  have K38 := K29.wr W38 (Or.inl (List.mem_of_getElem? (i := 0) rfl))
  have N38 := Fr.snoc X38 N29 g_a
  have Zs38 : n0 ≤ h38.size := by rw [W38.size]; exact Zs29
  refine OGo.st st38 ?_
  show OG p e below Φ T38 m 31 #[rv a, iv x1, iv x2, rv x3, iv x4, iv x5, iv x6, iv x7] []
  refine OGo.st (fun _ kz => XS.aloadN X38.here hx rfl (hb hby d6_31) rfl rfl kz) ?_
  show OG p e below Φ T38 m 32 #[rv a, iv x1, iv x2, rv x3, iv x4, iv x5, iv x6, iv x7] [(.ref a)]
  refine OGo.st (fun _ kz => XS.iload X38.here hx rfl (hb hby d6_32) rfl kz) ?_
  show OG p e below Φ T38 m 34 #[rv a, iv x1, iv x2, rv x3, iv x4, iv x5, iv x6, iv x7] [(.int x6), (.ref a)]
  obtain ⟨T47, h47, X47, e47, W47, st47⟩ := putF X38 hx hZ hown (host := "") (Or.inl (ow48 hw)) Via.refl e38 F45 F39 (Or.inr ⟨(ow49 hw), rfl, hnm⟩) (ow27 hw) (ty := .int) (by decide) rfl rfl (g := (mkF m 34 #[rv a, iv x1, iv x2, rv x3, iv x4, iv x5, iv x6, iv x7] [(.int x6), (.ref a)])) rfl rfl (hb hby d6_34)
  have F48 := F39.wr W47
  have F49 := F40.other W47 (Or.inr (slot_ne (Or.inr (ow39 hw)) (Or.inr (ow49 hw)) (by decide) (t := .int) (t' := .int) (by decide) (by decide)))
  have F50 := F41.other W47 (Or.inr (slot_ne (Or.inr (ow41 hw)) (Or.inr (ow49 hw)) (by decide) (t := .int) (t' := .int) (by decide) (by decide)))
  have F51 := F42.other W47 (Or.inr (slot_ne (Or.inr (ow43 hw)) (Or.inr (ow49 hw)) (by decide) (t := (.object "java/lang/String")) (t' := .int) (by decide) (by decide)))
  have F52 := F43.other W47 (Or.inr (slot_ne (Or.inr (ow45 hw)) (Or.inr (ow49 hw)) (by decide) (t := .int) (t' := .int) (by decide) (by decide)))
  have F53 := F44.other W47 (Or.inr (slot_ne (Or.inr (ow47 hw)) (Or.inr (ow49 hw)) (by decide) (t := .int) (t' := .int) (by decide) (by decide)))
  have F54 := F45.same W47
  have F55 := F46.other W47 (Or.inr (slot_ne (Or.inr (ow51 hw)) (Or.inr (ow49 hw)) (by decide) (t := .int) (t' := .int) (by decide) (by decide)))
  have K47 := K38.wr W47 (Or.inl (List.mem_of_getElem? (i := 0) rfl))
  have N47 := Fr.snoc X47 N38 g_a
  have Zs47 : n0 ≤ h47.size := by rw [W47.size]; exact Zs38
  refine OGo.st st47 ?_
  show OG p e below Φ T47 m 37 #[rv a, iv x1, iv x2, rv x3, iv x4, iv x5, iv x6, iv x7] []
  refine OGo.st (fun _ kz => XS.aloadN X47.here hx rfl (hb hby d6_37) rfl rfl kz) ?_
  show OG p e below Φ T47 m 38 #[rv a, iv x1, iv x2, rv x3, iv x4, iv x5, iv x6, iv x7] [(.ref a)]
  refine OGo.st (fun _ kz => XS.iload X47.here hx rfl (hb hby d6_38) rfl kz) ?_
  show OG p e below Φ T47 m 40 #[rv a, iv x1, iv x2, rv x3, iv x4, iv x5, iv x6, iv x7] [(.int x7), (.ref a)]
  obtain ⟨T56, h56, X56, e56, W56, st56⟩ := putF X47 hx hZ hown (host := "") (Or.inl (ow50 hw)) Via.refl e47 F55 F48 (Or.inr ⟨(ow51 hw), rfl, hnm⟩) (ow27 hw) (ty := .int) (by decide) rfl rfl (g := (mkF m 40 #[rv a, iv x1, iv x2, rv x3, iv x4, iv x5, iv x6, iv x7] [(.int x7), (.ref a)])) rfl rfl (hb hby d6_40)
  have F57 := F48.wr W56
  have F58 := F49.other W56 (Or.inr (slot_ne (Or.inr (ow39 hw)) (Or.inr (ow51 hw)) (by decide) (t := .int) (t' := .int) (by decide) (by decide)))
  have F59 := F50.other W56 (Or.inr (slot_ne (Or.inr (ow41 hw)) (Or.inr (ow51 hw)) (by decide) (t := .int) (t' := .int) (by decide) (by decide)))
  have F60 := F51.other W56 (Or.inr (slot_ne (Or.inr (ow43 hw)) (Or.inr (ow51 hw)) (by decide) (t := (.object "java/lang/String")) (t' := .int) (by decide) (by decide)))
  have F61 := F52.other W56 (Or.inr (slot_ne (Or.inr (ow45 hw)) (Or.inr (ow51 hw)) (by decide) (t := .int) (t' := .int) (by decide) (by decide)))
  have F62 := F53.other W56 (Or.inr (slot_ne (Or.inr (ow47 hw)) (Or.inr (ow51 hw)) (by decide) (t := .int) (t' := .int) (by decide) (by decide)))
  have F63 := F54.other W56 (Or.inr (slot_ne (Or.inr (ow49 hw)) (Or.inr (ow51 hw)) (by decide) (t := .int) (t' := .int) (by decide) (by decide)))
  have F64 := F55.same W56
  have K56 := K47.wr W56 (Or.inl (List.mem_of_getElem? (i := 0) rfl))
  have N56 := Fr.snoc X56 N47 g_a
  have Zs56 : n0 ≤ h56.size := by rw [W56.size]; exact Zs47
  refine OGo.st st56 ?_
  show OG p e below Φ T56 m 43 #[rv a, iv x1, iv x2, rv x3, iv x4, iv x5, iv x6, iv x7] []
  refine OGo.fin X56 hlk (v := none) (fun _ => rfl) (by decide) (by decide) (fun fs hr => X56.returnOut hx hret (hb hby d6_43) hr) fun U eU hF => hΦ _ _ _ ?_ hF
  rw [eU, e56]
  show Q_rm2 Z a x1 x2 x3 x4 x5 x6 x7 u0 u1 u2 u3 u4 u5 u6 h0 n0 _ _ _
  exact ⟨rfl, N56, K56, F57, F58, F59, F60, F61, F62, F63, F64⟩

theorem d8_0 : decode prog_67_method_2_code 0 = .ok (.aload_n 0, 1) := by decide +kernel
theorem d8_1 : decode prog_67_method_2_code 1 = .ok (.getfield 7, 3) := by decide +kernel
theorem d8_4 : decode prog_67_method_2_code 4 = .ok (.ifCond .ne 14, 3) := by decide +kernel
theorem d8_7 : decode prog_67_method_2_code 7 = .ok (.aload_n 0, 1) := by decide +kernel
theorem d8_8 : decode prog_67_method_2_code 8 = .ok (.getfield 20, 3) := by decide +kernel
theorem d8_11 : decode prog_67_method_2_code 11 = .ok (.ifCond .ne 7, 3) := by decide +kernel
theorem d8_14 : decode prog_67_method_2_code 14 = .ok (.iconst 1, 1) := by decide +kernel
theorem d8_15 : decode prog_67_method_2_code 15 = .ok (.goto 4, 3) := by decide +kernel
theorem d8_19 : decode prog_67_method_2_code 19 = .ok (.ireturn, 1) := by decide +kernel
theorem d8_18 : decode prog_67_method_2_code 18 = .ok (.iconst 0, 1) := by decide +kernel
theorem ef_rm3 (m : MethodId) (x0 : Addr) : entryFrame m #[(.ref x0)] 1 = mkF m 0 #[.val (.ref x0)] [] := by first | (simp [entryFrame, mkF, argsToLocals, Value.category]; done) | rfl
def Q_rm3 (Z : State) (a : Addr) (x : Int32) (y : Int32) (h0 : Heap) (n0 : Nat) (v : Option Value) (h : Heap) (L : List Loc) : Prop := v = some (.int (own_root x y)) ∧ Fr n0 L ∧ h = h0
set_option maxRecDepth 65536 in
set_option maxHeartbeats 40000000 in
theorem rm3 (l : Launch) (Z : State) (a0 : Array Value) (hw : ∀ d ∈ tables_1, d.before a0 Z = true) (ws : List Jvm.Cond) (a : Addr) (x : Int32) (y : Int32) (h0 : Heap) (n0 : Nat) (Z0 : n0 ≤ h0.size) (F_p : Fld Z h0 a "com/example/bindery/bindery/model/Structure" "parent" "I" (.int x)) (F_n : Fld Z h0 a "com/example/bindery/bindery/model/Structure" "number" "I" (.int y)) :
    OCon l Z (⟨"com/example/bindery/bindery/model/Structure", "isRoot", "()Z"⟩ : MethodName) prog_67_method_2_code 1 (some .boolean) ws ({ frames := 0, cells := 0, slots := 0, locals := 0 } : Room) #[(.ref a)] h0 (Q_rm3 Z a x y h0 n0) := by
  refine OCon.of (plainFor_of_name pn3) ?_
  intro p e s m below meth c s₁ Φ X0 hx hby hml hown hnm hret hlk hZ e0 hΦ
  have N0 := Fr.nil n0
  refine OGo.st (fun _ kz => castTop (ef_rm3 m a) kz) ?_
  show OG p e below Φ s₁ m 0 #[rv a] []
  refine OGo.st (fun _ kz => XS.aloadN X0.here hx rfl (hb hby d8_0) rfl rfl kz) ?_
  show OG p e below Φ s₁ m 1 #[rv a] [(.ref a)]
  obtain ⟨T1, X1, e1, st1⟩ := getF X0 hx hZ hown (host := "") (Or.inl (ow38 hw)) Via.refl e0 F_p (g := (mkF m 1 #[rv a] [(.ref a)])) rfl rfl (hb hby d8_1)
  refine OGo.st st1 ?_
  show OG p e below Φ T1 m 4 #[rv a] [(.int x)]
  by_cases hc2 : x = 0
  · refine OGo.st (fun _ kz => XS.ifNo X1.here hx rfl (hb hby d8_4) rfl (XT.i0_ne_f hc2) kz) ?_
    show OG p e below Φ T1 m 7 #[rv a] []
    refine OGo.st (fun _ kz => XS.aloadN X1.here hx rfl (hb hby d8_7) rfl rfl kz) ?_
    show OG p e below Φ T1 m 8 #[rv a] [(.ref a)]
    obtain ⟨T3, X3, e3, st3⟩ := getF X1 hx hZ hown (host := "") (Or.inl (ow44 hw)) Via.refl e1 F_n (g := (mkF m 8 #[rv a] [(.ref a)])) rfl rfl (hb hby d8_8)
    refine OGo.st st3 ?_
    show OG p e below Φ T3 m 11 #[rv a] [(.int y)]
    by_cases hc4 : y = 0
    · refine OGo.st (fun _ kz => XS.ifNo X3.here hx rfl (hb hby d8_11) rfl (XT.i0_ne_f hc4) kz) ?_
      show OG p e below Φ T3 m 14 #[rv a] []
      refine OGo.st (fun _ kz => XS.iconst X3.here hx rfl (hb hby d8_14) kz) ?_
      show OG p e below Φ T3 m 15 #[rv a] [(.int 1)]
      refine OGo.st (fun _ kz => XS.goto X3.here hx rfl (pc0 := 15) (pc' := 19) rfl (hb hby d8_15) (by decide) (by decide) kz) ?_
      show OG p e below Φ T3 m 19 #[rv a] [(.int 1)]
      refine OGo.fin X3 hlk (v := (some (.int 1))) (fun h => by rw [hret] at h; cases h) (by decide) (by decide) (fun fs hr => X3.ireturnOut hx hret rfl (by simp) (hb hby d8_19) hr) fun U eU hF => hΦ _ _ _ ?_ hF
      rw [eU, e3]
      show Q_rm3 Z a x y h0 n0 _ _ _
      exact ⟨by simp [own_root, hc2, hc4], N0, rfl⟩
    · refine OGo.st (fun _ kz => XS.ifYes X3.here hx rfl (pc0 := 11) (pc' := 18) rfl (hb hby d8_11) rfl (XT.i0_ne_t hc4) (by decide) (by decide) kz) ?_
      show OG p e below Φ T3 m 18 #[rv a] []
      refine OGo.st (fun _ kz => XS.iconst X3.here hx rfl (hb hby d8_18) kz) ?_
      show OG p e below Φ T3 m 19 #[rv a] [(.int 0)]
      refine OGo.fin X3 hlk (v := (some (.int 0))) (fun h => by rw [hret] at h; cases h) (by decide) (by decide) (fun fs hr => X3.ireturnOut hx hret rfl (by simp) (hb hby d8_19) hr) fun U eU hF => hΦ _ _ _ ?_ hF
      rw [eU, e3]
      show Q_rm3 Z a x y h0 n0 _ _ _
      exact ⟨by simp [own_root, hc2, hc4], N0, rfl⟩
  · refine OGo.st (fun _ kz => XS.ifYes X1.here hx rfl (pc0 := 4) (pc' := 18) rfl (hb hby d8_4) rfl (XT.i0_ne_t hc2) (by decide) (by decide) kz) ?_
    show OG p e below Φ T1 m 18 #[rv a] []
    refine OGo.st (fun _ kz => XS.iconst X1.here hx rfl (hb hby d8_18) kz) ?_
    show OG p e below Φ T1 m 19 #[rv a] [(.int 0)]
    refine OGo.fin X1 hlk (v := (some (.int 0))) (fun h => by rw [hret] at h; cases h) (by decide) (by decide) (fun fs hr => X1.ireturnOut hx hret rfl (by simp) (hb hby d8_19) hr) fun U eU hF => hΦ _ _ _ ?_ hF
    rw [eU, e1]
    show Q_rm3 Z a x y h0 n0 _ _ _
    exact ⟨by simp [own_root, hc2], N0, rfl⟩

theorem pn4 : plainName "com/example/bindery/bindery/model/StructureIsRootPinLaw" = true := by first | (simp [plainName, overriddenIn]; done) | decide +kernel
theorem pd5 : parseMethodDescriptor "(C)Ljava/lang/String;" = some ⟨[.char], some (.object "java/lang/String")⟩ := by decide +kernel
theorem pd6 : parseMethodDescriptor "(IILjava/lang/String;IIII)V" = some ⟨[.int, .int, (.object "java/lang/String"), .int, .int, .int, .int], none⟩ := by decide +kernel
theorem pd7 : parseMethodDescriptor "()Z" = some ⟨[], some .boolean⟩ := by decide +kernel
theorem pd8 : parseMethodDescriptor "([C)V" = some ⟨[(.array .char)], none⟩ := by decide +kernel
theorem ef_rm0 (m : MethodId) (x0 : Int32) (x1 : Int32) (x2 : Int32) (x3 : Int32) (x4 : Int32) (x5 : Int32) : entryFrame m #[(.int x0), (.int x1), (.int x2), (.int x3), (.int x4), (.int x5)] maxLocals = mkF m 0 #[.val (.int x0), .val (.int x1), .val (.int x2), .val (.int x3), .val (.int x4), .val (.int x5), .unset, .unset, .unset, .unset, .unset, .unset, .unset] [] := by first | (simp [entryFrame, mkF, argsToLocals, Value.category, maxLocals]; done) | rfl
def Q_rm0 (Z : State) (xp : Int32) (xn : Int32) (xs : Int32) (xl : Int32) (xpc : Int32) (xr : Int32) (qc : Int32) (h0 : Heap) (n0 : Nat) (v : Option Value) (h : Heap) (L : List Loc) : Prop := v = some (.int (1 : Int32)) ∧ Fr n0 L
set_option maxRecDepth 65536 in
set_option maxHeartbeats 40000000 in
theorem rm0 (l : Launch) (Z : State) (a0 : Array Value) (hw : ∀ d ∈ tables_1, d.before a0 Z = true) (ws : List Jvm.Cond) (xp : Int32) (xn : Int32) (xs : Int32) (xl : Int32) (xpc : Int32) (xr : Int32) (qc : Int32) (h0 : Heap) (n0 : Nat) (Z0 : n0 ≤ h0.size) (O_0 : Old Z n0 h0) (S_cs : Sta Z Z.heap "java/lang/String" "COMPACT_STRINGS" "Z" (.int qc)) (hq : ¬ qc = 0) :
    OConW l Z own_EL x code maxLocals ret ws room_1 #[(.int xp), (.int xn), (.int xs), (.int xl), (.int xpc), (.int xr)] h0 [] (Q_rm0 Z xp xn xs xl xpc xr qc h0 n0) := by
  refine OConW.of (plainFor_of_name pn4) ?_
  intro p e s m below meth c s₁ Φ X0 hx hby hml hown hnm hret hlk hZ e0 hS hkk hC hsf hΦ
  have N0 := Fr.nil n0
  refine OGo.st (fun _ kz => castTop (ef_rm0 m xp xn xs xl xpc xr) kz) ?_
  show OG p e below Φ s₁ m 0 #[iv xp, iv xn, iv xs, iv xl, iv xpc, iv xr, .unset, .unset, .unset, .unset, .unset, .unset, .unset] []
  refine OGo.st (fun _ kz => XS.iloadN X0.here hx rfl (hb hby at_0) rfl kz) ?_
  show OG p e below Φ s₁ m 1 #[iv xp, iv xn, iv xs, iv xl, iv xpc, iv xr, .unset, .unset, .unset, .unset, .unset, .unset, .unset] [(.int xs)]
  refine OGo.st (fun _ kz => XS.iconst X0.here hx rfl (hb hby at_1) kz) ?_
  show OG p e below Φ s₁ m 2 #[iv xp, iv xn, iv xs, iv xl, iv xpc, iv xr, .unset, .unset, .unset, .unset, .unset, .unset, .unset] [(.int 1), (.int xs)]
  refine OGo.st (fun _ kz => XS.iand X0.here hx rfl (hb hby at_2) rfl kz) ?_
  show OG p e below Φ s₁ m 3 #[iv xp, iv xn, iv xs, iv xl, iv xpc, iv xr, .unset, .unset, .unset, .unset, .unset, .unset, .unset] [(.int (xs &&& (1 : Int32)))]
  have hJ2 : OG p e below Φ s₁ m 11 #[iv xp, iv xn, iv xs, iv xl, iv xpc, iv xr, .unset, .unset, .unset, .unset, .unset, .unset, .unset] [(.int (if (xs &&& (1 : Int32)) = 0 then xp else (0 : Int32)))] → OG p e below Φ s₁ m 3 #[iv xp, iv xn, iv xs, iv xl, iv xpc, iv xr, .unset, .unset, .unset, .unset, .unset, .unset, .unset] [(.int (xs &&& (1 : Int32)))] := by
    intro hJ
    by_cases hc1 : (xs &&& (1 : Int32)) = 0
    · rw [show (if (xs &&& (1 : Int32)) = 0 then xp else (0 : Int32)) = xp from if_pos hc1] at hJ
      refine OGo.st (fun _ kz => XS.ifYes X0.here hx rfl (pc0 := 3) (pc' := 10) rfl (hb hby at_3) rfl (XT.i0_eq_t hc1) (by decide) (by decide) kz) ?_
      show OG p e below Φ s₁ m 10 #[iv xp, iv xn, iv xs, iv xl, iv xpc, iv xr, .unset, .unset, .unset, .unset, .unset, .unset, .unset] []
      refine OGo.st (fun _ kz => XS.iloadN X0.here hx rfl (hb hby at_10) rfl kz) ?_
      show OG p e below Φ s₁ m 11 #[iv xp, iv xn, iv xs, iv xl, iv xpc, iv xr, .unset, .unset, .unset, .unset, .unset, .unset, .unset] [(.int xp)]
      exact hJ
    · rw [show (if (xs &&& (1 : Int32)) = 0 then xp else (0 : Int32)) = (0 : Int32) from if_neg hc1] at hJ
      refine OGo.st (fun _ kz => XS.ifNo X0.here hx rfl (hb hby at_3) rfl (XT.i0_eq_f hc1) kz) ?_
      show OG p e below Φ s₁ m 6 #[iv xp, iv xn, iv xs, iv xl, iv xpc, iv xr, .unset, .unset, .unset, .unset, .unset, .unset, .unset] []
      refine OGo.st (fun _ kz => XS.iconst X0.here hx rfl (hb hby at_6) kz) ?_
      show OG p e below Φ s₁ m 7 #[iv xp, iv xn, iv xs, iv xl, iv xpc, iv xr, .unset, .unset, .unset, .unset, .unset, .unset, .unset] [(.int 0)]
      refine OGo.st (fun _ kz => XS.goto X0.here hx rfl (pc0 := 7) (pc' := 11) rfl (hb hby at_7) (by decide) (by decide) kz) ?_
      show OG p e below Φ s₁ m 11 #[iv xp, iv xn, iv xs, iv xl, iv xpc, iv xr, .unset, .unset, .unset, .unset, .unset, .unset, .unset] [(.int 0)]
      exact hJ
  refine hJ2 ?_
  show OG p e below Φ s₁ m 11 #[iv xp, iv xn, iv xs, iv xl, iv xpc, iv xr, .unset, .unset, .unset, .unset, .unset, .unset, .unset] [(.int (if (xs &&& (1 : Int32)) = 0 then xp else (0 : Int32)))]
  obtain ⟨pa, h_pa⟩ : ∃ z, z = (if (xs &&& (1 : Int32)) = 0 then xp else (0 : Int32)) := ⟨_, rfl⟩
  rw [← h_pa]
  show OG p e below Φ s₁ m 11 #[iv xp, iv xn, iv xs, iv xl, iv xpc, iv xr, .unset, .unset, .unset, .unset, .unset, .unset, .unset] [(.int pa)]
  refine OGo.st (fun _ kz => XS.istore X0.here hx rfl (hb hby at_11) rfl (l' := #[iv xp, iv xn, iv xs, iv xl, iv xpc, iv xr, iv pa, .unset, .unset, .unset, .unset, .unset, .unset]) rfl kz) ?_
  show OG p e below Φ s₁ m 13 #[iv xp, iv xn, iv xs, iv xl, iv xpc, iv xr, iv pa, .unset, .unset, .unset, .unset, .unset, .unset] []
  refine OGo.st (fun _ kz => XS.iloadN X0.here hx rfl (hb hby at_13) rfl kz) ?_
  show OG p e below Φ s₁ m 14 #[iv xp, iv xn, iv xs, iv xl, iv xpc, iv xr, iv pa, .unset, .unset, .unset, .unset, .unset, .unset] [(.int xs)]
  refine OGo.st (fun _ kz => XS.iconst X0.here hx rfl (hb hby at_14) kz) ?_
  show OG p e below Φ s₁ m 15 #[iv xp, iv xn, iv xs, iv xl, iv xpc, iv xr, iv pa, .unset, .unset, .unset, .unset, .unset, .unset] [(.int 2), (.int xs)]
  refine OGo.st (fun _ kz => XS.iand X0.here hx rfl (hb hby at_15) rfl kz) ?_
  show OG p e below Φ s₁ m 16 #[iv xp, iv xn, iv xs, iv xl, iv xpc, iv xr, iv pa, .unset, .unset, .unset, .unset, .unset, .unset] [(.int (xs &&& (2 : Int32)))]
  have hJ4 : OG p e below Φ s₁ m 24 #[iv xp, iv xn, iv xs, iv xl, iv xpc, iv xr, iv pa, .unset, .unset, .unset, .unset, .unset, .unset] [(.int (if (xs &&& (2 : Int32)) = 0 then xn else (0 : Int32)))] → OG p e below Φ s₁ m 16 #[iv xp, iv xn, iv xs, iv xl, iv xpc, iv xr, iv pa, .unset, .unset, .unset, .unset, .unset, .unset] [(.int (xs &&& (2 : Int32)))] := by
    intro hJ
    by_cases hc3 : (xs &&& (2 : Int32)) = 0
    · rw [show (if (xs &&& (2 : Int32)) = 0 then xn else (0 : Int32)) = xn from if_pos hc3] at hJ
      refine OGo.st (fun _ kz => XS.ifYes X0.here hx rfl (pc0 := 16) (pc' := 23) rfl (hb hby at_16) rfl (XT.i0_eq_t hc3) (by decide) (by decide) kz) ?_
      show OG p e below Φ s₁ m 23 #[iv xp, iv xn, iv xs, iv xl, iv xpc, iv xr, iv pa, .unset, .unset, .unset, .unset, .unset, .unset] []
      refine OGo.st (fun _ kz => XS.iloadN X0.here hx rfl (hb hby at_23) rfl kz) ?_
      show OG p e below Φ s₁ m 24 #[iv xp, iv xn, iv xs, iv xl, iv xpc, iv xr, iv pa, .unset, .unset, .unset, .unset, .unset, .unset] [(.int xn)]
      exact hJ
    · rw [show (if (xs &&& (2 : Int32)) = 0 then xn else (0 : Int32)) = (0 : Int32) from if_neg hc3] at hJ
      refine OGo.st (fun _ kz => XS.ifNo X0.here hx rfl (hb hby at_16) rfl (XT.i0_eq_f hc3) kz) ?_
      show OG p e below Φ s₁ m 19 #[iv xp, iv xn, iv xs, iv xl, iv xpc, iv xr, iv pa, .unset, .unset, .unset, .unset, .unset, .unset] []
      refine OGo.st (fun _ kz => XS.iconst X0.here hx rfl (hb hby at_19) kz) ?_
      show OG p e below Φ s₁ m 20 #[iv xp, iv xn, iv xs, iv xl, iv xpc, iv xr, iv pa, .unset, .unset, .unset, .unset, .unset, .unset] [(.int 0)]
      refine OGo.st (fun _ kz => XS.goto X0.here hx rfl (pc0 := 20) (pc' := 24) rfl (hb hby at_20) (by decide) (by decide) kz) ?_
      show OG p e below Φ s₁ m 24 #[iv xp, iv xn, iv xs, iv xl, iv xpc, iv xr, iv pa, .unset, .unset, .unset, .unset, .unset, .unset] [(.int 0)]
      exact hJ
  refine hJ4 ?_
  show OG p e below Φ s₁ m 24 #[iv xp, iv xn, iv xs, iv xl, iv xpc, iv xr, iv pa, .unset, .unset, .unset, .unset, .unset, .unset] [(.int (if (xs &&& (2 : Int32)) = 0 then xn else (0 : Int32)))]
  obtain ⟨nu, h_nu⟩ : ∃ z, z = (if (xs &&& (2 : Int32)) = 0 then xn else (0 : Int32)) := ⟨_, rfl⟩
  rw [← h_nu]
  show OG p e below Φ s₁ m 24 #[iv xp, iv xn, iv xs, iv xl, iv xpc, iv xr, iv pa, .unset, .unset, .unset, .unset, .unset, .unset] [(.int nu)]
  refine OGo.st (fun _ kz => XS.istore X0.here hx rfl (hb hby at_24) rfl (l' := #[iv xp, iv xn, iv xs, iv xl, iv xpc, iv xr, iv pa, iv nu, .unset, .unset, .unset, .unset, .unset]) rfl kz) ?_
  show OG p e below Φ s₁ m 26 #[iv xp, iv xn, iv xs, iv xl, iv xpc, iv xr, iv pa, iv nu, .unset, .unset, .unset, .unset, .unset] []
  refine OGo.st (fun _ kz => XS.iloadN X0.here hx rfl (hb hby at_26) rfl kz) ?_
  show OG p e below Φ s₁ m 27 #[iv xp, iv xn, iv xs, iv xl, iv xpc, iv xr, iv pa, iv nu, .unset, .unset, .unset, .unset, .unset] [(.int xl)]
  refine OGo.st (fun _ kz => XS.sipush X0.here hx rfl (hb hby at_27) kz) ?_
  show OG p e below Φ s₁ m 30 #[iv xp, iv xn, iv xs, iv xl, iv xpc, iv xr, iv pa, iv nu, .unset, .unset, .unset, .unset, .unset] [(.int 256), (.int xl)]
  refine OGo.st (fun _ kz => XS.iand X0.here hx rfl (hb hby at_30) rfl kz) ?_
  show OG p e below Φ s₁ m 31 #[iv xp, iv xn, iv xs, iv xl, iv xpc, iv xr, iv pa, iv nu, .unset, .unset, .unset, .unset, .unset] [(.int (xl &&& (256 : Int32)))]
  by_cases hc5 : (xl &&& (256 : Int32)) = 0
  · refine OGo.st (fun _ kz => XS.ifYes X0.here hx rfl (pc0 := 31) (pc' := 47) rfl (hb hby at_31) rfl (XT.i0_eq_t hc5) (by decide) (by decide) kz) ?_
    show OG p e below Φ s₁ m 47 #[iv xp, iv xn, iv xs, iv xl, iv xpc, iv xr, iv pa, iv nu, .unset, .unset, .unset, .unset, .unset] []
    refine OGo.st (fun _ kz => XS.iloadN X0.here hx rfl (hb hby at_47) rfl kz) ?_
    show OG p e below Φ s₁ m 48 #[iv xp, iv xn, iv xs, iv xl, iv xpc, iv xr, iv pa, iv nu, .unset, .unset, .unset, .unset, .unset] [(.int xl)]
    refine OGo.st (fun _ kz => XS.sipush X0.here hx rfl (hb hby at_48) kz) ?_
    show OG p e below Φ s₁ m 51 #[iv xp, iv xn, iv xs, iv xl, iv xpc, iv xr, iv pa, iv nu, .unset, .unset, .unset, .unset, .unset] [(.int 255), (.int xl)]
    refine OGo.st (fun _ kz => XS.iand X0.here hx rfl (hb hby at_51) rfl kz) ?_
    show OG p e below Φ s₁ m 52 #[iv xp, iv xn, iv xs, iv xl, iv xpc, iv xr, iv pa, iv nu, .unset, .unset, .unset, .unset, .unset] [(.int (xl &&& (255 : Int32)))]
    refine OGo.st (fun _ kz => XT.i2c X0.here hx rfl (hb hby at_52) rfl kz) ?_
    show OG p e below Φ s₁ m 53 #[iv xp, iv xn, iv xs, iv xl, iv xpc, iv xr, iv pa, iv nu, .unset, .unset, .unset, .unset, .unset] [(.int ((xl &&& (255 : Int32)).toUInt32.toUInt16.toUInt32.toInt32))]
    obtain ⟨_, T6, L6, X6, hQ6, st6⟩ := own_callSt X0 hx hZ hown (ow0 hw) (ow1 hw) (ow2 hw) (ow3 hw) (by decide) (rvvof l Z a0 hw [] ((xl &&& (255 : Int32)).toUInt32.toUInt16.toUInt32.toInt32) qc h0 n0 Z0 (S_cs.ext O_0.2) hq (own_lat _)) e0 (W := 0) (by decide) (by decide) (by decide) (by decide) (pc := 53) (ls := #[iv xp, iv xn, iv xs, iv xl, iv xpc, iv xr, iv pa, iv nu, .unset, .unset, .unset, .unset, .unset]) (stk := [(.int ((xl &&& (255 : Int32)).toUInt32.toUInt16.toUInt32.toInt32))]) (by rw [hml]; rfl) (argsL := [(.int ((xl &&& (255 : Int32)).toUInt32.toUInt16.toUInt32.toInt32))]) (rest := []) (lenOf pd5 rfl) rfl rfl (Nat.le_of_eq rfl) (hb hby at_53)
    obtain ⟨sx6, bx6, cx6, rfl, Nq6, Kq6, Eq6, Fv6, Fc6, Vq6, hz6, hy6, nn6⟩ := hQ6
    have gq6 : n0 ≤ sx6 := Nat.le_trans Z0 hz6
    have gq100006 : n0 ≤ bx6 := Nat.le_trans Z0 hy6
    have N6 := Fr.app N0 Nq6
    have Zs6 : n0 ≤ T6.heap.size := Nat.le_trans Z0 Kq6.1
    have F7 := O_0.keep Kq6 all0
    have hA8 := CHr.keep Kq6 sf0 hC.1
    have hkk := Nat.le_trans hkk hA8.2.1
    have hC := hC.trans hA8
    refine OGo.st st6 ?_
    show OG p e below Φ T6 m 56 #[iv xp, iv xn, iv xs, iv xl, iv xpc, iv xr, iv pa, iv nu, .unset, .unset, .unset, .unset, .unset] [(.ref sx6)]
    refine OGo.st (fun _ kz => XS.astore X6.here hx rfl (hb hby at_56) rfl rfl (l' := #[iv xp, iv xn, iv xs, iv xl, iv xpc, iv xr, iv pa, iv nu, rv sx6, .unset, .unset, .unset, .unset]) rfl kz) ?_
    show OG p e below Φ T6 m 58 #[iv xp, iv xn, iv xs, iv xl, iv xpc, iv xr, iv pa, iv nu, rv sx6, .unset, .unset, .unset, .unset] []
    refine OGo.st (fun _ kz => XS.iload X6.here hx rfl (hb hby at_58) rfl kz) ?_
    show OG p e below Φ T6 m 60 #[iv xp, iv xn, iv xs, iv xl, iv xpc, iv xr, iv pa, iv nu, rv sx6, .unset, .unset, .unset, .unset] [(.int xpc)]
    refine OGo.st (fun _ kz => XS.bipush X6.here hx rfl (hb hby at_60) kz) ?_
    show OG p e below Φ T6 m 62 #[iv xp, iv xn, iv xs, iv xl, iv xpc, iv xr, iv pa, iv nu, rv sx6, .unset, .unset, .unset, .unset] [(.int 8), (.int xpc)]
    refine OGo.st (fun _ kz => XT.iushr X6.here hx rfl (hb hby at_62) rfl kz) ?_
    show OG p e below Φ T6 m 63 #[iv xp, iv xn, iv xs, iv xl, iv xpc, iv xr, iv pa, iv nu, rv sx6, .unset, .unset, .unset, .unset] [(.int (XT.ushr xpc (8 : Int32)))]
    refine OGo.st (fun _ kz => XS.sipush X6.here hx rfl (hb hby at_63) kz) ?_
    show OG p e below Φ T6 m 66 #[iv xp, iv xn, iv xs, iv xl, iv xpc, iv xr, iv pa, iv nu, rv sx6, .unset, .unset, .unset, .unset] [(.int 255), (.int (XT.ushr xpc (8 : Int32)))]
    refine OGo.st (fun _ kz => XS.iand X6.here hx rfl (hb hby at_66) rfl kz) ?_
    show OG p e below Φ T6 m 67 #[iv xp, iv xn, iv xs, iv xl, iv xpc, iv xr, iv pa, iv nu, rv sx6, .unset, .unset, .unset, .unset] [(.int ((XT.ushr xpc (8 : Int32)) &&& (255 : Int32)))]
    refine OGo.st (fun _ kz => XT.i2c X6.here hx rfl (hb hby at_67) rfl kz) ?_
    show OG p e below Φ T6 m 68 #[iv xp, iv xn, iv xs, iv xl, iv xpc, iv xr, iv pa, iv nu, rv sx6, .unset, .unset, .unset, .unset] [(.int (((XT.ushr xpc (8 : Int32)) &&& (255 : Int32)).toUInt32.toUInt16.toUInt32.toInt32))]
    obtain ⟨_, T9, L9, X9, hQ9, st9⟩ := own_callSt X6 hx hZ hown (ow0 hw) (ow1 hw) (ow2 hw) (ow3 hw) (by decide) (rvvof l Z a0 hw [] (((XT.ushr xpc (8 : Int32)) &&& (255 : Int32)).toUInt32.toUInt16.toUInt32.toInt32) qc T6.heap n0 Zs6 (S_cs.ext F7.2) hq (own_lat _)) rfl (W := 0) (by decide) (by decide) (by decide) (by decide) (pc := 68) (ls := #[iv xp, iv xn, iv xs, iv xl, iv xpc, iv xr, iv pa, iv nu, rv sx6, .unset, .unset, .unset, .unset]) (stk := [(.int (((XT.ushr xpc (8 : Int32)) &&& (255 : Int32)).toUInt32.toUInt16.toUInt32.toInt32))]) (by rw [hml]; rfl) (argsL := [(.int (((XT.ushr xpc (8 : Int32)) &&& (255 : Int32)).toUInt32.toUInt16.toUInt32.toInt32))]) (rest := []) (lenOf pd5 rfl) rfl rfl (Nat.le_of_eq rfl) (hb hby at_68)
    obtain ⟨sx9, bx9, cx9, rfl, Nq9, Kq9, Eq9, Fv9, Fc9, Vq9, hz9, hy9, nn9⟩ := hQ9
    have nq9_bx6 : bx6 ≠ sx9 := Nat.ne_of_lt (Nat.lt_of_lt_of_le Vq6.lt hz9)
    have nq9_sx6 : sx6 ≠ sx9 := Nat.ne_of_lt (Nat.lt_of_lt_of_le Eq6.lt hz9)
    have gq9 : n0 ≤ sx9 := Nat.le_trans Zs6 hz9
    have nq100009_bx6 : bx6 ≠ bx9 := Nat.ne_of_lt (Nat.lt_of_lt_of_le Vq6.lt hy9)
    have nq100009_sx6 : sx6 ≠ bx9 := Nat.ne_of_lt (Nat.lt_of_lt_of_le Eq6.lt hy9)
    have gq100009 : n0 ≤ bx9 := Nat.le_trans Zs6 hy9
    have N9 := Fr.app N6 Nq9
    have Zs9 : n0 ≤ T9.heap.size := Nat.le_trans Zs6 Kq9.1
    have F10 := F7.keep Kq9 all0
    have F11 := Eq6.keep Kq9
    have F12 := Fv6.keep Kq9 nin0
    have F13 := Fc6.keep Kq9 nin0
    have F14 := Vq6.keep Kq9 nin0
    have hA15 := CHr.keep Kq9 sf0 hC.1
    have hkk := Nat.le_trans hkk hA15.2.1
    have hC := hC.trans hA15
    refine OGo.st st9 ?_
    show OG p e below Φ T9 m 71 #[iv xp, iv xn, iv xs, iv xl, iv xpc, iv xr, iv pa, iv nu, rv sx6, .unset, .unset, .unset, .unset] [(.ref sx9)]
    refine OGo.st (fun _ kz => XS.astore X9.here hx rfl (hb hby at_71) rfl rfl (l' := #[iv xp, iv xn, iv xs, iv xl, iv xpc, iv xr, iv pa, iv nu, rv sx6, rv sx9, .unset, .unset, .unset]) rfl kz) ?_
    show OG p e below Φ T9 m 73 #[iv xp, iv xn, iv xs, iv xl, iv xpc, iv xr, iv pa, iv nu, rv sx6, rv sx9, .unset, .unset, .unset] []
    refine OGo.st (fun _ kz => XS.iload X9.here hx rfl (hb hby at_73) rfl kz) ?_
    show OG p e below Φ T9 m 75 #[iv xp, iv xn, iv xs, iv xl, iv xpc, iv xr, iv pa, iv nu, rv sx6, rv sx9, .unset, .unset, .unset] [(.int pa)]
    refine OGo.st (fun _ kz => XS.iload X9.here hx rfl (hb hby at_75) rfl kz) ?_
    show OG p e below Φ T9 m 77 #[iv xp, iv xn, iv xs, iv xl, iv xpc, iv xr, iv pa, iv nu, rv sx6, rv sx9, .unset, .unset, .unset] [(.int nu), (.int pa)]
    refine OGo.st (fun _ kz => XT.ior X9.here hx rfl (hb hby at_77) rfl kz) ?_
    show OG p e below Φ T9 m 78 #[iv xp, iv xn, iv xs, iv xl, iv xpc, iv xr, iv pa, iv nu, rv sx6, rv sx9, .unset, .unset, .unset] [(.int (pa ||| nu))]
    have hJ17 : OG p e below Φ T9 m 86 #[iv xp, iv xn, iv xs, iv xl, iv xpc, iv xr, iv pa, iv nu, rv sx6, rv sx9, .unset, .unset, .unset] [(.int (if (pa ||| nu) = 0 then (1 : Int32) else (0 : Int32)))] → OG p e below Φ T9 m 78 #[iv xp, iv xn, iv xs, iv xl, iv xpc, iv xr, iv pa, iv nu, rv sx6, rv sx9, .unset, .unset, .unset] [(.int (pa ||| nu))] := by
      intro hJ
      by_cases hc16 : (pa ||| nu) = 0
      · rw [show (if (pa ||| nu) = 0 then (1 : Int32) else (0 : Int32)) = (1 : Int32) from if_pos hc16] at hJ
        refine OGo.st (fun _ kz => XS.ifNo X9.here hx rfl (hb hby at_78) rfl (XT.i0_ne_f hc16) kz) ?_
        show OG p e below Φ T9 m 81 #[iv xp, iv xn, iv xs, iv xl, iv xpc, iv xr, iv pa, iv nu, rv sx6, rv sx9, .unset, .unset, .unset] []
        refine OGo.st (fun _ kz => XS.iconst X9.here hx rfl (hb hby at_81) kz) ?_
        show OG p e below Φ T9 m 82 #[iv xp, iv xn, iv xs, iv xl, iv xpc, iv xr, iv pa, iv nu, rv sx6, rv sx9, .unset, .unset, .unset] [(.int 1)]
        refine OGo.st (fun _ kz => XS.goto X9.here hx rfl (pc0 := 82) (pc' := 86) rfl (hb hby at_82) (by decide) (by decide) kz) ?_
        show OG p e below Φ T9 m 86 #[iv xp, iv xn, iv xs, iv xl, iv xpc, iv xr, iv pa, iv nu, rv sx6, rv sx9, .unset, .unset, .unset] [(.int 1)]
        exact hJ
      · rw [show (if (pa ||| nu) = 0 then (1 : Int32) else (0 : Int32)) = (0 : Int32) from if_neg hc16] at hJ
        refine OGo.st (fun _ kz => XS.ifYes X9.here hx rfl (pc0 := 78) (pc' := 85) rfl (hb hby at_78) rfl (XT.i0_ne_t hc16) (by decide) (by decide) kz) ?_
        show OG p e below Φ T9 m 85 #[iv xp, iv xn, iv xs, iv xl, iv xpc, iv xr, iv pa, iv nu, rv sx6, rv sx9, .unset, .unset, .unset] []
        refine OGo.st (fun _ kz => XS.iconst X9.here hx rfl (hb hby at_85) kz) ?_
        show OG p e below Φ T9 m 86 #[iv xp, iv xn, iv xs, iv xl, iv xpc, iv xr, iv pa, iv nu, rv sx6, rv sx9, .unset, .unset, .unset] [(.int 0)]
        exact hJ
    refine hJ17 ?_
    show OG p e below Φ T9 m 86 #[iv xp, iv xn, iv xs, iv xl, iv xpc, iv xr, iv pa, iv nu, rv sx6, rv sx9, .unset, .unset, .unset] [(.int (if (pa ||| nu) = 0 then (1 : Int32) else (0 : Int32)))]
    refine OGo.st (fun _ kz => XS.istore X9.here hx rfl (hb hby at_86) rfl (l' := #[iv xp, iv xn, iv xs, iv xl, iv xpc, iv xr, iv pa, iv nu, rv sx6, rv sx9, iv (if (pa ||| nu) = 0 then (1 : Int32) else (0 : Int32)), .unset, .unset]) rfl kz) ?_
    show OG p e below Φ T9 m 88 #[iv xp, iv xn, iv xs, iv xl, iv xpc, iv xr, iv pa, iv nu, rv sx6, rv sx9, iv (if (pa ||| nu) = 0 then (1 : Int32) else (0 : Int32)), .unset, .unset] []
    obtain ⟨T18, h18, X18, e18, E18, A18, D18, U18, st18⟩ := newO X9 hx hZ hown (ow26 hw) (ow27 hw) (ow28 hw) rfl (g := (mkF m 88 #[iv xp, iv xn, iv xs, iv xl, iv xpc, iv xr, iv pa, iv nu, rv sx6, rv sx9, iv (if (pa ||| nu) = 0 then (1 : Int32) else (0 : Int32)), .unset, .unset] [])) rfl (hb hby at_88) (by decide) (by decide)
    obtain ⟨b18, g18⟩ : ∃ z, z = T9.heap.size := ⟨_, rfl⟩
    rw [← g18] at A18 D18 st18 U18
    have ne18_bx6 : bx6 ≠ b18 := by rw [g18]; exact Nat.ne_of_lt F14.lt
    have ne18_bx9 : bx9 ≠ b18 := by rw [g18]; exact Nat.ne_of_lt Vq9.lt
    have ne18_sx6 : sx6 ≠ b18 := by rw [g18]; exact Nat.ne_of_lt F11.lt
    have ne18_sx9 : sx9 ≠ b18 := by rw [g18]; exact Nat.ne_of_lt Eq9.lt
    have F19 := F10.ext E18
    have F20 := F11.ext E18
    have F21 := F12.ext E18
    have F22 := F13.ext E18
    have F23 := F14.ext E18
    have F24 := Eq9.ext E18
    have F25 := Fv9.ext E18
    have F26 := Fc9.ext E18
    have F27 := Vq9.ext E18
    have gb18 : n0 ≤ b18 := Nat.le_trans Zs9 (Nat.le_of_eq g18.symm)
    have Zs18 : n0 ≤ h18.size := Nat.le_trans Zs9 E18.1
    have F18_39 : Fld Z h18 b18 "com/example/bindery/bindery/model/Structure" "parent" "I" (.int (0 : Int32)) := D18 (Or.inr (ow39 hw)) (ty := .int) (by decide)
    have F18_41 : Fld Z h18 b18 "com/example/bindery/bindery/model/Structure" "sequence" "I" (.int (0 : Int32)) := D18 (Or.inr (ow41 hw)) (ty := .int) (by decide)
    have F18_43 : Fld Z h18 b18 "com/example/bindery/bindery/model/Structure" "label" "Ljava/lang/String;" .null := D18 (Or.inr (ow43 hw)) (ty := (.object "java/lang/String")) (by decide)
    have F18_45 : Fld Z h18 b18 "com/example/bindery/bindery/model/Structure" "number" "I" (.int (0 : Int32)) := D18 (Or.inr (ow45 hw)) (ty := .int) (by decide)
    have F18_47 : Fld Z h18 b18 "com/example/bindery/bindery/model/Structure" "logicalChildren" "I" (.int (0 : Int32)) := D18 (Or.inr (ow47 hw)) (ty := .int) (by decide)
    have F18_49 : Fld Z h18 b18 "com/example/bindery/bindery/model/Structure" "physicalChildren" "I" (.int (0 : Int32)) := D18 (Or.inr (ow49 hw)) (ty := .int) (by decide)
    have F18_51 : Fld Z h18 b18 "com/example/bindery/bindery/model/Structure" "references" "I" (.int (0 : Int32)) := D18 (Or.inr (ow51 hw)) (ty := .int) (by decide)
    have hA28 := CHr.ext E18 hC.1
    have sf_b18 := Safe.ext E18 hC.1 (Safe.new (Nat.le_of_eq g18.symm))
    have hkk := Nat.le_trans hkk hA28.2.1
    have hC := hC.trans hA28
    refine OGo.st (st18) ?_
    show OG p e below Φ T18 m 91 #[iv xp, iv xn, iv xs, iv xl, iv xpc, iv xr, iv pa, iv nu, rv sx6, rv sx9, iv (if (pa ||| nu) = 0 then (1 : Int32) else (0 : Int32)), .unset, .unset] [(.ref b18)]
    refine OGo.st (fun _ kz => XS.dup X18.here hx rfl (hb hby at_91) rfl rfl kz) ?_
    show OG p e below Φ T18 m 92 #[iv xp, iv xn, iv xs, iv xl, iv xpc, iv xr, iv pa, iv nu, rv sx6, rv sx9, iv (if (pa ||| nu) = 0 then (1 : Int32) else (0 : Int32)), .unset, .unset] [(.ref b18), (.ref b18)]
    refine OGo.st (fun _ kz => XS.iload X18.here hx rfl (hb hby at_92) rfl kz) ?_
    show OG p e below Φ T18 m 94 #[iv xp, iv xn, iv xs, iv xl, iv xpc, iv xr, iv pa, iv nu, rv sx6, rv sx9, iv (if (pa ||| nu) = 0 then (1 : Int32) else (0 : Int32)), .unset, .unset] [(.int pa), (.ref b18), (.ref b18)]
    refine OGo.st (fun _ kz => XS.iloadN X18.here hx rfl (hb hby at_94) rfl kz) ?_
    show OG p e below Φ T18 m 95 #[iv xp, iv xn, iv xs, iv xl, iv xpc, iv xr, iv pa, iv nu, rv sx6, rv sx9, iv (if (pa ||| nu) = 0 then (1 : Int32) else (0 : Int32)), .unset, .unset] [(.int xs), (.int pa), (.ref b18), (.ref b18)]
    refine OGo.st (fun _ kz => XS.aload X18.here hx rfl (hb hby at_95) rfl rfl kz) ?_
    show OG p e below Φ T18 m 97 #[iv xp, iv xn, iv xs, iv xl, iv xpc, iv xr, iv pa, iv nu, rv sx6, rv sx9, iv (if (pa ||| nu) = 0 then (1 : Int32) else (0 : Int32)), .unset, .unset] [(.ref sx6), (.int xs), (.int pa), (.ref b18), (.ref b18)]
    refine OGo.st (fun _ kz => XS.iload X18.here hx rfl (hb hby at_97) rfl kz) ?_
    show OG p e below Φ T18 m 99 #[iv xp, iv xn, iv xs, iv xl, iv xpc, iv xr, iv pa, iv nu, rv sx6, rv sx9, iv (if (pa ||| nu) = 0 then (1 : Int32) else (0 : Int32)), .unset, .unset] [(.int nu), (.ref sx6), (.int xs), (.int pa), (.ref b18), (.ref b18)]
    refine OGo.st (fun _ kz => XS.iloadN X18.here hx rfl (hb hby at_99) rfl kz) ?_
    show OG p e below Φ T18 m 100 #[iv xp, iv xn, iv xs, iv xl, iv xpc, iv xr, iv pa, iv nu, rv sx6, rv sx9, iv (if (pa ||| nu) = 0 then (1 : Int32) else (0 : Int32)), .unset, .unset] [(.int xl), (.int nu), (.ref sx6), (.int xs), (.int pa), (.ref b18), (.ref b18)]
    refine OGo.st (fun _ kz => XS.iload X18.here hx rfl (hb hby at_100) rfl kz) ?_
    show OG p e below Φ T18 m 102 #[iv xp, iv xn, iv xs, iv xl, iv xpc, iv xr, iv pa, iv nu, rv sx6, rv sx9, iv (if (pa ||| nu) = 0 then (1 : Int32) else (0 : Int32)), .unset, .unset] [(.int xpc), (.int xl), (.int nu), (.ref sx6), (.int xs), (.int pa), (.ref b18), (.ref b18)]
    refine OGo.st (fun _ kz => XS.iload X18.here hx rfl (hb hby at_102) rfl kz) ?_
    show OG p e below Φ T18 m 104 #[iv xp, iv xn, iv xs, iv xl, iv xpc, iv xr, iv pa, iv nu, rv sx6, rv sx9, iv (if (pa ||| nu) = 0 then (1 : Int32) else (0 : Int32)), .unset, .unset] [(.int xr), (.int xpc), (.int xl), (.int nu), (.ref sx6), (.int xs), (.int pa), (.ref b18), (.ref b18)]
    obtain ⟨_, T29, L29, X29, hQ29, st29⟩ := own_callSp X18 hx hZ rfl hown (ow29 hw) (ow30 hw) (ow28 hw) (ow31 hw) (by decide) (rm2 l Z a0 hw [] b18 pa xs sx6 nu xl xpc xr (.int 0) (.int 0) .null (.int 0) (.int 0) (.int 0) (.int 0) h18 n0 Zs18 A18 gb18 F18_39 F18_41 F18_43 F18_45 F18_47 F18_49 F18_51) e18 (W := 1) (by decide) (by decide) (by decide) (by decide) (pc := 104) (ls := #[iv xp, iv xn, iv xs, iv xl, iv xpc, iv xr, iv pa, iv nu, rv sx6, rv sx9, iv (if (pa ||| nu) = 0 then (1 : Int32) else (0 : Int32)), .unset, .unset]) (stk := [(.int xr), (.int xpc), (.int xl), (.int nu), (.ref sx6), (.int xs), (.int pa), (.ref b18), (.ref b18)]) (by rw [hml]; rfl) (a := b18) (argsL := [(.int pa), (.int xs), (.ref sx6), (.int nu), (.int xl), (.int xpc), (.int xr)]) (rest := [(.ref b18)]) (lenOf pd6 rfl) rfl rfl (Nat.le_of_eq rfl) (hb hby at_104)
    obtain ⟨rfl, Nq29, Kq29, Eq29, Fq29_0, Fq29_1, Fq29_2, Fq29_3, Fq29_4, Fq29_5, Fq29_6⟩ := hQ29
    have N29 := Fr.app N9 Nq29
    have Zs29 : n0 ≤ T29.heap.size := Nat.le_trans Zs18 Kq29.1
    have F30 := F19.keep Kq29 (allS gb18 all0)
    have F31 := F20.keep Kq29
    have F32 := F21.keep Kq29 (ninS ne18_sx6 nin0)
    have F33 := F22.keep Kq29 (ninS ne18_sx6 nin0)
    have F34 := F23.keep Kq29 (ninS ne18_bx6 nin0)
    have F35 := F24.keep Kq29
    have F36 := F25.keep Kq29 (ninS ne18_sx9 nin0)
    have F37 := F26.keep Kq29 (ninS ne18_sx9 nin0)
    have F38 := F27.keep Kq29 (ninS ne18_bx9 nin0)
    have hA39 := CHr.keep Kq29 (sfS sf_b18 sf0) hC.1
    have sf_b18 := hA39.safe A18.lt sf_b18
    have hkk := Nat.le_trans hkk hA39.2.1
    have hC := hC.trans hA39
    refine OGo.st st29 ?_
    show OG p e below Φ T29 m 107 #[iv xp, iv xn, iv xs, iv xl, iv xpc, iv xr, iv pa, iv nu, rv sx6, rv sx9, iv (if (pa ||| nu) = 0 then (1 : Int32) else (0 : Int32)), .unset, .unset] [(.ref b18)]
    refine OGo.st (fun _ kz => XS.astore X29.here hx rfl (hb hby at_107) rfl rfl (l' := #[iv xp, iv xn, iv xs, iv xl, iv xpc, iv xr, iv pa, iv nu, rv sx6, rv sx9, iv (if (pa ||| nu) = 0 then (1 : Int32) else (0 : Int32)), rv b18, .unset]) rfl kz) ?_
    show OG p e below Φ T29 m 109 #[iv xp, iv xn, iv xs, iv xl, iv xpc, iv xr, iv pa, iv nu, rv sx6, rv sx9, iv (if (pa ||| nu) = 0 then (1 : Int32) else (0 : Int32)), rv b18, .unset] []
    obtain ⟨T40, h40, X40, e40, E40, A40, D40, U40, st40⟩ := newO X29 hx hZ hown (ow26 hw) (ow27 hw) (ow28 hw) rfl (g := (mkF m 109 #[iv xp, iv xn, iv xs, iv xl, iv xpc, iv xr, iv pa, iv nu, rv sx6, rv sx9, iv (if (pa ||| nu) = 0 then (1 : Int32) else (0 : Int32)), rv b18, .unset] [])) rfl (hb hby at_109) (by decide) (by decide)
    obtain ⟨b40, g40⟩ : ∃ z, z = T29.heap.size := ⟨_, rfl⟩
    rw [← g40] at A40 D40 st40 U40
    have ne40_b18 : b18 ≠ b40 := by rw [g40]; exact Nat.ne_of_lt Eq29.lt
    have ne40_bx6 : bx6 ≠ b40 := by rw [g40]; exact Nat.ne_of_lt F34.lt
    have ne40_bx9 : bx9 ≠ b40 := by rw [g40]; exact Nat.ne_of_lt F38.lt
    have ne40_sx6 : sx6 ≠ b40 := by rw [g40]; exact Nat.ne_of_lt F31.lt
    have ne40_sx9 : sx9 ≠ b40 := by rw [g40]; exact Nat.ne_of_lt F35.lt
    have F41 := F30.ext E40
    have F42 := F31.ext E40
    have F43 := F32.ext E40
    have F44 := F33.ext E40
    have F45 := F34.ext E40
    have F46 := F35.ext E40
    have F47 := F36.ext E40
    have F48 := F37.ext E40
    have F49 := F38.ext E40
    have F50 := Eq29.ext E40
    have F51 := Fq29_0.ext E40
    have F52 := Fq29_1.ext E40
    have F53 := Fq29_2.ext E40
    have F54 := Fq29_3.ext E40
    have F55 := Fq29_4.ext E40
    have F56 := Fq29_5.ext E40
    have F57 := Fq29_6.ext E40
    have gb40 : n0 ≤ b40 := Nat.le_trans Zs29 (Nat.le_of_eq g40.symm)
    have Zs40 : n0 ≤ h40.size := Nat.le_trans Zs29 E40.1
    have F40_39 : Fld Z h40 b40 "com/example/bindery/bindery/model/Structure" "parent" "I" (.int (0 : Int32)) := D40 (Or.inr (ow39 hw)) (ty := .int) (by decide)
    have F40_41 : Fld Z h40 b40 "com/example/bindery/bindery/model/Structure" "sequence" "I" (.int (0 : Int32)) := D40 (Or.inr (ow41 hw)) (ty := .int) (by decide)
    have F40_43 : Fld Z h40 b40 "com/example/bindery/bindery/model/Structure" "label" "Ljava/lang/String;" .null := D40 (Or.inr (ow43 hw)) (ty := (.object "java/lang/String")) (by decide)
    have F40_45 : Fld Z h40 b40 "com/example/bindery/bindery/model/Structure" "number" "I" (.int (0 : Int32)) := D40 (Or.inr (ow45 hw)) (ty := .int) (by decide)
    have F40_47 : Fld Z h40 b40 "com/example/bindery/bindery/model/Structure" "logicalChildren" "I" (.int (0 : Int32)) := D40 (Or.inr (ow47 hw)) (ty := .int) (by decide)
    have F40_49 : Fld Z h40 b40 "com/example/bindery/bindery/model/Structure" "physicalChildren" "I" (.int (0 : Int32)) := D40 (Or.inr (ow49 hw)) (ty := .int) (by decide)
    have F40_51 : Fld Z h40 b40 "com/example/bindery/bindery/model/Structure" "references" "I" (.int (0 : Int32)) := D40 (Or.inr (ow51 hw)) (ty := .int) (by decide)
    have hA58 := CHr.ext E40 hC.1
    have sf_b40 := Safe.ext E40 hC.1 (Safe.new (Nat.le_of_eq g40.symm))
    have sf_b18 := hA58.safe Eq29.lt sf_b18
    have hkk := Nat.le_trans hkk hA58.2.1
    have hC := hC.trans hA58
    refine OGo.st (st40) ?_
    show OG p e below Φ T40 m 112 #[iv xp, iv xn, iv xs, iv xl, iv xpc, iv xr, iv pa, iv nu, rv sx6, rv sx9, iv (if (pa ||| nu) = 0 then (1 : Int32) else (0 : Int32)), rv b18, .unset] [(.ref b40)]
    refine OGo.st (fun _ kz => XS.dup X40.here hx rfl (hb hby at_112) rfl rfl kz) ?_
    show OG p e below Φ T40 m 113 #[iv xp, iv xn, iv xs, iv xl, iv xpc, iv xr, iv pa, iv nu, rv sx6, rv sx9, iv (if (pa ||| nu) = 0 then (1 : Int32) else (0 : Int32)), rv b18, .unset] [(.ref b40), (.ref b40)]
    refine OGo.st (fun _ kz => XS.iload X40.here hx rfl (hb hby at_113) rfl kz) ?_
    show OG p e below Φ T40 m 115 #[iv xp, iv xn, iv xs, iv xl, iv xpc, iv xr, iv pa, iv nu, rv sx6, rv sx9, iv (if (pa ||| nu) = 0 then (1 : Int32) else (0 : Int32)), rv b18, .unset] [(.int pa), (.ref b40), (.ref b40)]
    refine OGo.st (fun _ kz => XS.iloadN X40.here hx rfl (hb hby at_115) rfl kz) ?_
    show OG p e below Φ T40 m 116 #[iv xp, iv xn, iv xs, iv xl, iv xpc, iv xr, iv pa, iv nu, rv sx6, rv sx9, iv (if (pa ||| nu) = 0 then (1 : Int32) else (0 : Int32)), rv b18, .unset] [(.int xs), (.int pa), (.ref b40), (.ref b40)]
    refine OGo.st (fun _ kz => XS.iconst X40.here hx rfl (hb hby at_116) kz) ?_
    show OG p e below Φ T40 m 117 #[iv xp, iv xn, iv xs, iv xl, iv xpc, iv xr, iv pa, iv nu, rv sx6, rv sx9, iv (if (pa ||| nu) = 0 then (1 : Int32) else (0 : Int32)), rv b18, .unset] [(.int (-1)), (.int xs), (.int pa), (.ref b40), (.ref b40)]
    refine OGo.st (fun _ kz => XT.ixor X40.here hx rfl (hb hby at_117) rfl kz) ?_
    show OG p e below Φ T40 m 118 #[iv xp, iv xn, iv xs, iv xl, iv xpc, iv xr, iv pa, iv nu, rv sx6, rv sx9, iv (if (pa ||| nu) = 0 then (1 : Int32) else (0 : Int32)), rv b18, .unset] [(.int (xs ^^^ (-1 : Int32))), (.int pa), (.ref b40), (.ref b40)]
    refine OGo.st (fun _ kz => XS.aload X40.here hx rfl (hb hby at_118) rfl rfl kz) ?_
    show OG p e below Φ T40 m 120 #[iv xp, iv xn, iv xs, iv xl, iv xpc, iv xr, iv pa, iv nu, rv sx6, rv sx9, iv (if (pa ||| nu) = 0 then (1 : Int32) else (0 : Int32)), rv b18, .unset] [(.ref sx9), (.int (xs ^^^ (-1 : Int32))), (.int pa), (.ref b40), (.ref b40)]
    refine OGo.st (fun _ kz => XS.iload X40.here hx rfl (hb hby at_120) rfl kz) ?_
    show OG p e below Φ T40 m 122 #[iv xp, iv xn, iv xs, iv xl, iv xpc, iv xr, iv pa, iv nu, rv sx6, rv sx9, iv (if (pa ||| nu) = 0 then (1 : Int32) else (0 : Int32)), rv b18, .unset] [(.int nu), (.ref sx9), (.int (xs ^^^ (-1 : Int32))), (.int pa), (.ref b40), (.ref b40)]
    refine OGo.st (fun _ kz => XS.iloadN X40.here hx rfl (hb hby at_122) rfl kz) ?_
    show OG p e below Φ T40 m 123 #[iv xp, iv xn, iv xs, iv xl, iv xpc, iv xr, iv pa, iv nu, rv sx6, rv sx9, iv (if (pa ||| nu) = 0 then (1 : Int32) else (0 : Int32)), rv b18, .unset] [(.int xl), (.int nu), (.ref sx9), (.int (xs ^^^ (-1 : Int32))), (.int pa), (.ref b40), (.ref b40)]
    refine OGo.st (fun _ kz => XS.iconst X40.here hx rfl (hb hby at_123) kz) ?_
    show OG p e below Φ T40 m 124 #[iv xp, iv xn, iv xs, iv xl, iv xpc, iv xr, iv pa, iv nu, rv sx6, rv sx9, iv (if (pa ||| nu) = 0 then (1 : Int32) else (0 : Int32)), rv b18, .unset] [(.int (-1)), (.int xl), (.int nu), (.ref sx9), (.int (xs ^^^ (-1 : Int32))), (.int pa), (.ref b40), (.ref b40)]
    refine OGo.st (fun _ kz => XT.ixor X40.here hx rfl (hb hby at_124) rfl kz) ?_
    show OG p e below Φ T40 m 125 #[iv xp, iv xn, iv xs, iv xl, iv xpc, iv xr, iv pa, iv nu, rv sx6, rv sx9, iv (if (pa ||| nu) = 0 then (1 : Int32) else (0 : Int32)), rv b18, .unset] [(.int (xl ^^^ (-1 : Int32))), (.int nu), (.ref sx9), (.int (xs ^^^ (-1 : Int32))), (.int pa), (.ref b40), (.ref b40)]
    refine OGo.st (fun _ kz => XS.iload X40.here hx rfl (hb hby at_125) rfl kz) ?_
    show OG p e below Φ T40 m 127 #[iv xp, iv xn, iv xs, iv xl, iv xpc, iv xr, iv pa, iv nu, rv sx6, rv sx9, iv (if (pa ||| nu) = 0 then (1 : Int32) else (0 : Int32)), rv b18, .unset] [(.int xpc), (.int (xl ^^^ (-1 : Int32))), (.int nu), (.ref sx9), (.int (xs ^^^ (-1 : Int32))), (.int pa), (.ref b40), (.ref b40)]
    refine OGo.st (fun _ kz => XS.iconst X40.here hx rfl (hb hby at_127) kz) ?_
    show OG p e below Φ T40 m 128 #[iv xp, iv xn, iv xs, iv xl, iv xpc, iv xr, iv pa, iv nu, rv sx6, rv sx9, iv (if (pa ||| nu) = 0 then (1 : Int32) else (0 : Int32)), rv b18, .unset] [(.int (-1)), (.int xpc), (.int (xl ^^^ (-1 : Int32))), (.int nu), (.ref sx9), (.int (xs ^^^ (-1 : Int32))), (.int pa), (.ref b40), (.ref b40)]
    refine OGo.st (fun _ kz => XT.ixor X40.here hx rfl (hb hby at_128) rfl kz) ?_
    show OG p e below Φ T40 m 129 #[iv xp, iv xn, iv xs, iv xl, iv xpc, iv xr, iv pa, iv nu, rv sx6, rv sx9, iv (if (pa ||| nu) = 0 then (1 : Int32) else (0 : Int32)), rv b18, .unset] [(.int (xpc ^^^ (-1 : Int32))), (.int (xl ^^^ (-1 : Int32))), (.int nu), (.ref sx9), (.int (xs ^^^ (-1 : Int32))), (.int pa), (.ref b40), (.ref b40)]
    refine OGo.st (fun _ kz => XS.iload X40.here hx rfl (hb hby at_129) rfl kz) ?_
    show OG p e below Φ T40 m 131 #[iv xp, iv xn, iv xs, iv xl, iv xpc, iv xr, iv pa, iv nu, rv sx6, rv sx9, iv (if (pa ||| nu) = 0 then (1 : Int32) else (0 : Int32)), rv b18, .unset] [(.int xr), (.int (xpc ^^^ (-1 : Int32))), (.int (xl ^^^ (-1 : Int32))), (.int nu), (.ref sx9), (.int (xs ^^^ (-1 : Int32))), (.int pa), (.ref b40), (.ref b40)]
    refine OGo.st (fun _ kz => XS.iconst X40.here hx rfl (hb hby at_131) kz) ?_
    show OG p e below Φ T40 m 132 #[iv xp, iv xn, iv xs, iv xl, iv xpc, iv xr, iv pa, iv nu, rv sx6, rv sx9, iv (if (pa ||| nu) = 0 then (1 : Int32) else (0 : Int32)), rv b18, .unset] [(.int (-1)), (.int xr), (.int (xpc ^^^ (-1 : Int32))), (.int (xl ^^^ (-1 : Int32))), (.int nu), (.ref sx9), (.int (xs ^^^ (-1 : Int32))), (.int pa), (.ref b40), (.ref b40)]
    refine OGo.st (fun _ kz => XT.ixor X40.here hx rfl (hb hby at_132) rfl kz) ?_
    show OG p e below Φ T40 m 133 #[iv xp, iv xn, iv xs, iv xl, iv xpc, iv xr, iv pa, iv nu, rv sx6, rv sx9, iv (if (pa ||| nu) = 0 then (1 : Int32) else (0 : Int32)), rv b18, .unset] [(.int (xr ^^^ (-1 : Int32))), (.int (xpc ^^^ (-1 : Int32))), (.int (xl ^^^ (-1 : Int32))), (.int nu), (.ref sx9), (.int (xs ^^^ (-1 : Int32))), (.int pa), (.ref b40), (.ref b40)]
    obtain ⟨_, T59, L59, X59, hQ59, st59⟩ := own_callSp X40 hx hZ rfl hown (ow29 hw) (ow30 hw) (ow28 hw) (ow31 hw) (by decide) (rm2 l Z a0 hw [] b40 pa (xs ^^^ (-1 : Int32)) sx9 nu (xl ^^^ (-1 : Int32)) (xpc ^^^ (-1 : Int32)) (xr ^^^ (-1 : Int32)) (.int 0) (.int 0) .null (.int 0) (.int 0) (.int 0) (.int 0) h40 n0 Zs40 A40 gb40 F40_39 F40_41 F40_43 F40_45 F40_47 F40_49 F40_51) e40 (W := 1) (by decide) (by decide) (by decide) (by decide) (pc := 133) (ls := #[iv xp, iv xn, iv xs, iv xl, iv xpc, iv xr, iv pa, iv nu, rv sx6, rv sx9, iv (if (pa ||| nu) = 0 then (1 : Int32) else (0 : Int32)), rv b18, .unset]) (stk := [(.int (xr ^^^ (-1 : Int32))), (.int (xpc ^^^ (-1 : Int32))), (.int (xl ^^^ (-1 : Int32))), (.int nu), (.ref sx9), (.int (xs ^^^ (-1 : Int32))), (.int pa), (.ref b40), (.ref b40)]) (by rw [hml]; rfl) (a := b40) (argsL := [(.int pa), (.int (xs ^^^ (-1 : Int32))), (.ref sx9), (.int nu), (.int (xl ^^^ (-1 : Int32))), (.int (xpc ^^^ (-1 : Int32))), (.int (xr ^^^ (-1 : Int32)))]) (rest := [(.ref b40)]) (lenOf pd6 rfl) rfl rfl (Nat.le_of_eq rfl) (hb hby at_133)
    obtain ⟨rfl, Nq59, Kq59, Eq59, Fq59_0, Fq59_1, Fq59_2, Fq59_3, Fq59_4, Fq59_5, Fq59_6⟩ := hQ59
    have N59 := Fr.app N29 Nq59
    have Zs59 : n0 ≤ T59.heap.size := Nat.le_trans Zs40 Kq59.1
    have F60 := F41.keep Kq59 (allS gb40 all0)
    have F61 := F42.keep Kq59
    have F62 := F43.keep Kq59 (ninS ne40_sx6 nin0)
    have F63 := F44.keep Kq59 (ninS ne40_sx6 nin0)
    have F64 := F45.keep Kq59 (ninS ne40_bx6 nin0)
    have F65 := F46.keep Kq59
    have F66 := F47.keep Kq59 (ninS ne40_sx9 nin0)
    have F67 := F48.keep Kq59 (ninS ne40_sx9 nin0)
    have F68 := F49.keep Kq59 (ninS ne40_bx9 nin0)
    have F69 := F50.keep Kq59
    have F70 := F51.keep Kq59 (ninS ne40_b18 nin0)
    have F71 := F52.keep Kq59 (ninS ne40_b18 nin0)
    have F72 := F53.keep Kq59 (ninS ne40_b18 nin0)
    have F73 := F54.keep Kq59 (ninS ne40_b18 nin0)
    have F74 := F55.keep Kq59 (ninS ne40_b18 nin0)
    have F75 := F56.keep Kq59 (ninS ne40_b18 nin0)
    have F76 := F57.keep Kq59 (ninS ne40_b18 nin0)
    have hA77 := CHr.keep Kq59 (sfS sf_b40 sf0) hC.1
    have sf_b18 := hA77.safe F50.lt sf_b18
    have sf_b40 := hA77.safe A40.lt sf_b40
    have hkk := Nat.le_trans hkk hA77.2.1
    have hC := hC.trans hA77
    refine OGo.st st59 ?_
    show OG p e below Φ T59 m 136 #[iv xp, iv xn, iv xs, iv xl, iv xpc, iv xr, iv pa, iv nu, rv sx6, rv sx9, iv (if (pa ||| nu) = 0 then (1 : Int32) else (0 : Int32)), rv b18, .unset] [(.ref b40)]
    refine OGo.st (fun _ kz => XS.astore X59.here hx rfl (hb hby at_136) rfl rfl (l' := #[iv xp, iv xn, iv xs, iv xl, iv xpc, iv xr, iv pa, iv nu, rv sx6, rv sx9, iv (if (pa ||| nu) = 0 then (1 : Int32) else (0 : Int32)), rv b18, rv b40]) rfl kz) ?_
    show OG p e below Φ T59 m 138 #[iv xp, iv xn, iv xs, iv xl, iv xpc, iv xr, iv pa, iv nu, rv sx6, rv sx9, iv (if (pa ||| nu) = 0 then (1 : Int32) else (0 : Int32)), rv b18, rv b40] []
    refine OGo.st (fun _ kz => XS.aload X59.here hx rfl (hb hby at_138) rfl rfl kz) ?_
    show OG p e below Φ T59 m 140 #[iv xp, iv xn, iv xs, iv xl, iv xpc, iv xr, iv pa, iv nu, rv sx6, rv sx9, iv (if (pa ||| nu) = 0 then (1 : Int32) else (0 : Int32)), rv b18, rv b40] [(.ref b18)]
    obtain ⟨_, T78, L78, X78, hQ78, st78⟩ := own_callVi X59 hx hZ hown (ow52 hw) (ow53 hw) (notFace_of_selects (args := #[]) (mvT hZ (ow55 hw))) (ow55 hw) (ow54 hw) (ow28 hw) (ow56 hw) (by decide) (rm3 l Z a0 hw [] b18 pa nu T59.heap n0 Zs59 F70 F73) rfl (W := 0) (by decide) (by decide) (by decide) (by decide) F69 (pc := 140) (ls := #[iv xp, iv xn, iv xs, iv xl, iv xpc, iv xr, iv pa, iv nu, rv sx6, rv sx9, iv (if (pa ||| nu) = 0 then (1 : Int32) else (0 : Int32)), rv b18, rv b40]) (stk := [(.ref b18)]) (by rw [hml]; rfl) (argsL := []) (rest := []) (lenOf pd7 rfl) rfl rfl (Nat.le_of_eq rfl) (hb hby at_140)
    obtain ⟨rfl, Nq78, e78⟩ := hQ78
    have N78 := Fr.app N59 Nq78
    refine OGo.st st78 ?_
    show OG p e below Φ T78 m 143 #[iv xp, iv xn, iv xs, iv xl, iv xpc, iv xr, iv pa, iv nu, rv sx6, rv sx9, iv (if (pa ||| nu) = 0 then (1 : Int32) else (0 : Int32)), rv b18, rv b40] [(.int (own_root pa nu))]
    refine OGo.st (fun _ kz => XS.iload X78.here hx rfl (hb hby at_143) rfl kz) ?_
    show OG p e below Φ T78 m 145 #[iv xp, iv xn, iv xs, iv xl, iv xpc, iv xr, iv pa, iv nu, rv sx6, rv sx9, iv (if (pa ||| nu) = 0 then (1 : Int32) else (0 : Int32)), rv b18, rv b40] [(.int (if (pa ||| nu) = 0 then (1 : Int32) else (0 : Int32))), (.int (own_root pa nu))]
    by_cases hc79 : (own_root pa nu) = (if (pa ||| nu) = 0 then (1 : Int32) else (0 : Int32))
    · refine OGo.st (fun _ kz => XS.icmpNo X78.here hx rfl (hb hby at_145) rfl (XT.ii_ne_f hc79) kz) ?_
      show OG p e below Φ T78 m 148 #[iv xp, iv xn, iv xs, iv xl, iv xpc, iv xr, iv pa, iv nu, rv sx6, rv sx9, iv (if (pa ||| nu) = 0 then (1 : Int32) else (0 : Int32)), rv b18, rv b40] []
      refine OGo.st (fun _ kz => XS.aload X78.here hx rfl (hb hby at_148) rfl rfl kz) ?_
      show OG p e below Φ T78 m 150 #[iv xp, iv xn, iv xs, iv xl, iv xpc, iv xr, iv pa, iv nu, rv sx6, rv sx9, iv (if (pa ||| nu) = 0 then (1 : Int32) else (0 : Int32)), rv b18, rv b40] [(.ref b40)]
      obtain ⟨_, T80, L80, X80, hQ80, st80⟩ := own_callVi X78 hx hZ hown (ow52 hw) (ow53 hw) (notFace_of_selects (args := #[]) (mvT hZ (ow55 hw))) (ow55 hw) (ow54 hw) (ow28 hw) (ow56 hw) (by decide) (rm3 l Z a0 hw [] b40 pa nu T59.heap n0 Zs59 Fq59_0 Fq59_3) e78 (W := 0) (by decide) (by decide) (by decide) (by decide) Eq59 (pc := 150) (ls := #[iv xp, iv xn, iv xs, iv xl, iv xpc, iv xr, iv pa, iv nu, rv sx6, rv sx9, iv (if (pa ||| nu) = 0 then (1 : Int32) else (0 : Int32)), rv b18, rv b40]) (stk := [(.ref b40)]) (by rw [hml]; rfl) (argsL := []) (rest := []) (lenOf pd7 rfl) rfl rfl (Nat.le_of_eq rfl) (hb hby at_150)
      obtain ⟨rfl, Nq80, e80⟩ := hQ80
      have N80 := Fr.app N78 Nq80
      refine OGo.st st80 ?_
      show OG p e below Φ T80 m 153 #[iv xp, iv xn, iv xs, iv xl, iv xpc, iv xr, iv pa, iv nu, rv sx6, rv sx9, iv (if (pa ||| nu) = 0 then (1 : Int32) else (0 : Int32)), rv b18, rv b40] [(.int (own_root pa nu))]
      refine OGo.st (fun _ kz => XS.iload X80.here hx rfl (hb hby at_153) rfl kz) ?_
      show OG p e below Φ T80 m 155 #[iv xp, iv xn, iv xs, iv xl, iv xpc, iv xr, iv pa, iv nu, rv sx6, rv sx9, iv (if (pa ||| nu) = 0 then (1 : Int32) else (0 : Int32)), rv b18, rv b40] [(.int (if (pa ||| nu) = 0 then (1 : Int32) else (0 : Int32))), (.int (own_root pa nu))]
      refine OGo.st (fun _ kz => XS.icmpNo X80.here hx rfl (hb hby at_155) rfl (XT.ii_ne_f hc79) kz) ?_
      show OG p e below Φ T80 m 158 #[iv xp, iv xn, iv xs, iv xl, iv xpc, iv xr, iv pa, iv nu, rv sx6, rv sx9, iv (if (pa ||| nu) = 0 then (1 : Int32) else (0 : Int32)), rv b18, rv b40] []
      refine OGo.st (fun _ kz => XS.iconst X80.here hx rfl (hb hby at_158) kz) ?_
      show OG p e below Φ T80 m 159 #[iv xp, iv xn, iv xs, iv xl, iv xpc, iv xr, iv pa, iv nu, rv sx6, rv sx9, iv (if (pa ||| nu) = 0 then (1 : Int32) else (0 : Int32)), rv b18, rv b40] [(.int 1)]
      refine OGo.st (fun _ kz => XS.goto X80.here hx rfl (pc0 := 159) (pc' := 163) rfl (hb hby at_159) (by decide) (by decide) kz) ?_
      show OG p e below Φ T80 m 163 #[iv xp, iv xn, iv xs, iv xl, iv xpc, iv xr, iv pa, iv nu, rv sx6, rv sx9, iv (if (pa ||| nu) = 0 then (1 : Int32) else (0 : Int32)), rv b18, rv b40] [(.int 1)]
      refine OGo.finW X80 hlk hS e80 hkk (v := (some (.int 1))) (fun h => by rw [hret] at h; cases h) (by decide) (by decide) hZ (own_EW hw) hC (fun fs hr => X80.ireturnOut hx hret rfl (by simp) (hb hby at_163) hr) fun U eU hc hF => hΦ _ _ _ ?_ hc hF
      rw [eU]
      show Q_rm0 Z xp xn xs xl xpc xr qc h0 n0 _ _ _
      exact ⟨rfl, N80⟩
    · refine OGo.st (fun _ kz => XS.icmpYes X78.here hx rfl (pc0 := 145) (pc' := 162) rfl (hb hby at_145) rfl (XT.ii_ne_t hc79) (by decide) (by decide) kz) ?_
      show OG p e below Φ T78 m 162 #[iv xp, iv xn, iv xs, iv xl, iv xpc, iv xr, iv pa, iv nu, rv sx6, rv sx9, iv (if (pa ||| nu) = 0 then (1 : Int32) else (0 : Int32)), rv b18, rv b40] []
      refine OGo.st (fun _ kz => XS.iconst X78.here hx rfl (hb hby at_162) kz) ?_
      show OG p e below Φ T78 m 163 #[iv xp, iv xn, iv xs, iv xl, iv xpc, iv xr, iv pa, iv nu, rv sx6, rv sx9, iv (if (pa ||| nu) = 0 then (1 : Int32) else (0 : Int32)), rv b18, rv b40] [(.int 0)]
      exact absurd (own_same _ _) hc79
  · refine OGo.st (fun _ kz => XS.ifNo X0.here hx rfl (hb hby at_31) rfl (XT.i0_eq_f hc5) kz) ?_
    show OG p e below Φ s₁ m 34 #[iv xp, iv xn, iv xs, iv xl, iv xpc, iv xr, iv pa, iv nu, .unset, .unset, .unset, .unset, .unset] []
    obtain ⟨T81, h81, X81, e81, E81, A81, D81, U81, st81⟩ := newO X0 hx hZ hown (ow57 hw) (ow10 hw) (ow2 hw) e0 (g := (mkF m 34 #[iv xp, iv xn, iv xs, iv xl, iv xpc, iv xr, iv pa, iv nu, .unset, .unset, .unset, .unset, .unset] [])) rfl (hb hby at_34) (by decide) (by decide)
    obtain ⟨b81, g81⟩ : ∃ z, z = h0.size := ⟨_, rfl⟩
    rw [← g81] at A81 D81 st81 U81
    have F82 := O_0.ext E81
    have gb81 : n0 ≤ b81 := Nat.le_trans Z0 (Nat.le_of_eq g81.symm)
    have Zs81 : n0 ≤ h81.size := Nat.le_trans Z0 E81.1
    have F81_23 : Fld Z h81 b81 "java/lang/String" "value" "[B" .null := D81 (Or.inr (ow23 hw)) (ty := (.array .byte)) (by decide)
    have F81_25 : Fld Z h81 b81 "java/lang/String" "coder" "B" (.int (0 : Int32)) := D81 (Or.inr (ow25 hw)) (ty := .byte) (by decide)
    have hA83 := CHr.ext E81 hC.1
    have sf_b81 := Safe.ext E81 hC.1 (Safe.new (Nat.le_of_eq g81.symm))
    have hkk := Nat.le_trans hkk hA83.2.1
    have hC := hC.trans hA83
    refine OGo.st (st81) ?_
    show OG p e below Φ T81 m 37 #[iv xp, iv xn, iv xs, iv xl, iv xpc, iv xr, iv pa, iv nu, .unset, .unset, .unset, .unset, .unset] [(.ref b81)]
    refine OGo.st (fun _ kz => XS.dup X81.here hx rfl (hb hby at_37) rfl rfl kz) ?_
    show OG p e below Φ T81 m 38 #[iv xp, iv xn, iv xs, iv xl, iv xpc, iv xr, iv pa, iv nu, .unset, .unset, .unset, .unset, .unset] [(.ref b81), (.ref b81)]
    refine OGo.st (fun _ kz => XS.iconst X81.here hx rfl (hb hby at_38) kz) ?_
    show OG p e below Φ T81 m 39 #[iv xp, iv xn, iv xs, iv xl, iv xpc, iv xr, iv pa, iv nu, .unset, .unset, .unset, .unset, .unset] [(.int 0), (.ref b81), (.ref b81)]
    obtain ⟨T84, h84, c84, X84, e84, E84, Ar84, st84⟩ := newP (aty := .char) X81 hx hZ (ow58 hw) e81 (g := (mkF m 39 #[iv xp, iv xn, iv xs, iv xl, iv xpc, iv xr, iv pa, iv nu, .unset, .unset, .unset, .unset, .unset] [(.int 0), (.ref b81), (.ref b81)])) rfl (hb hby at_39) rfl (by decide) (cap := 0) (by decide) (by decide) (by decide) (by decide)
    obtain ⟨b84, g84⟩ : ∃ z, z = h81.size := ⟨_, rfl⟩
    rw [← g84] at Ar84 st84
    have ne84_b81 : b81 ≠ b84 := by rw [g84]; exact Nat.ne_of_lt A81.lt
    have F85 := F82.ext E84
    have F86 := A81.ext E84
    have F87 := F81_23.ext E84
    have F88 := F81_25.ext E84
    have gb84 : n0 ≤ b84 := Nat.le_trans Zs81 (Nat.le_of_eq g84.symm)
    have Zs84 : n0 ≤ h84.size := Nat.le_trans Zs81 E84.1
    have hA89 := CHr.ext E84 hC.1
    have sf_b84 := Safe.ext E84 hC.1 (Safe.new (Nat.le_of_eq g84.symm))
    have sf_b81 := hA89.safe A81.lt sf_b81
    have hkk := Nat.le_trans hkk hA89.2.1
    have hC := hC.trans hA89
    have V84 : Arv Z h84 b84 c84 .char (0 : Int32) [] (.int (0 : Int32)) := (Arv.new Ar84 (by decide)).pad (pad_rep [] _ 0)
    refine OGo.st st84 ?_
    show OG p e below Φ T84 m 41 #[iv xp, iv xn, iv xs, iv xl, iv xpc, iv xr, iv pa, iv nu, .unset, .unset, .unset, .unset, .unset] [(.ref b84), (.ref b81), (.ref b81)]
    obtain ⟨_, T90, L90, X90, hQ90, st90, hS, hZ, hown, hB90⟩ := own_callSpW X84 hx hZ rfl hown (ow59 hw) (ow60 hw) (ow2 hw) (ow61 hw) (by decide) (rse1 l Z a0 hw [] b81 b84 c84 h84 n0 Zs84 F86 gb81 F87 F88 V84 ne84_b81) e84 (W := 1) (by decide) (by decide) (by decide) (by decide) (pc := 41) (ls := #[iv xp, iv xn, iv xs, iv xl, iv xpc, iv xr, iv pa, iv nu, .unset, .unset, .unset, .unset, .unset]) (stk := [(.ref b84), (.ref b81), (.ref b81)]) (by rw [hml]; rfl) (a := b81) (argsL := [(.ref b84)]) (rest := [(.ref b81)]) (lenOf pd8 rfl) rfl rfl (Nat.le_of_eq rfl) (hb hby at_41) hS hkk (own_EW hw) hC (allS ⟨F86.lt, sf_b81⟩ all0)
    obtain ⟨rfl, Nq90, Kq90, Eq90, b90, cb90, Fv90, Fc90, Vq90⟩ := hQ90
    have N90 := Fr.app N0 Nq90
    have Zs90 : n0 ≤ T90.heap.size := Nat.le_trans Zs84 Kq90.1
    have F91 := F85.keep Kq90 (allS gb81 all0)
    have F92 := V84.keep Kq90 (ninS (Ne.symm ne84_b81) nin0)
    have hA93 := hB90
    have sf_b81 := hA93.safe F86.lt sf_b81
    have sf_b84 := hA93.safe V84.lt sf_b84
    have hkk := Nat.le_refl T90.heap.size
    have hC := hC.trans hA93
    refine OGo.st st90 ?_
    show OG p e below Φ T90 m 44 #[iv xp, iv xn, iv xs, iv xl, iv xpc, iv xr, iv pa, iv nu, .unset, .unset, .unset, .unset, .unset] [(.ref b81)]
    refine OGo.st (fun _ kz => XS.goto X90.here hx rfl (pc0 := 44) (pc' := 56) rfl (hb hby at_44) (by decide) (by decide) kz) ?_
    show OG p e below Φ T90 m 56 #[iv xp, iv xn, iv xs, iv xl, iv xpc, iv xr, iv pa, iv nu, .unset, .unset, .unset, .unset, .unset] [(.ref b81)]
    refine OGo.st (fun _ kz => XS.astore X90.here hx rfl (hb hby at_56) rfl rfl (l' := #[iv xp, iv xn, iv xs, iv xl, iv xpc, iv xr, iv pa, iv nu, rv b81, .unset, .unset, .unset, .unset]) rfl kz) ?_
    show OG p e below Φ T90 m 58 #[iv xp, iv xn, iv xs, iv xl, iv xpc, iv xr, iv pa, iv nu, rv b81, .unset, .unset, .unset, .unset] []
    refine OGo.st (fun _ kz => XS.iload X90.here hx rfl (hb hby at_58) rfl kz) ?_
    show OG p e below Φ T90 m 60 #[iv xp, iv xn, iv xs, iv xl, iv xpc, iv xr, iv pa, iv nu, rv b81, .unset, .unset, .unset, .unset] [(.int xpc)]
    refine OGo.st (fun _ kz => XS.bipush X90.here hx rfl (hb hby at_60) kz) ?_
    show OG p e below Φ T90 m 62 #[iv xp, iv xn, iv xs, iv xl, iv xpc, iv xr, iv pa, iv nu, rv b81, .unset, .unset, .unset, .unset] [(.int 8), (.int xpc)]
    refine OGo.st (fun _ kz => XT.iushr X90.here hx rfl (hb hby at_62) rfl kz) ?_
    show OG p e below Φ T90 m 63 #[iv xp, iv xn, iv xs, iv xl, iv xpc, iv xr, iv pa, iv nu, rv b81, .unset, .unset, .unset, .unset] [(.int (XT.ushr xpc (8 : Int32)))]
    refine OGo.st (fun _ kz => XS.sipush X90.here hx rfl (hb hby at_63) kz) ?_
    show OG p e below Φ T90 m 66 #[iv xp, iv xn, iv xs, iv xl, iv xpc, iv xr, iv pa, iv nu, rv b81, .unset, .unset, .unset, .unset] [(.int 255), (.int (XT.ushr xpc (8 : Int32)))]
    refine OGo.st (fun _ kz => XS.iand X90.here hx rfl (hb hby at_66) rfl kz) ?_
    show OG p e below Φ T90 m 67 #[iv xp, iv xn, iv xs, iv xl, iv xpc, iv xr, iv pa, iv nu, rv b81, .unset, .unset, .unset, .unset] [(.int ((XT.ushr xpc (8 : Int32)) &&& (255 : Int32)))]
    refine OGo.st (fun _ kz => XT.i2c X90.here hx rfl (hb hby at_67) rfl kz) ?_
    show OG p e below Φ T90 m 68 #[iv xp, iv xn, iv xs, iv xl, iv xpc, iv xr, iv pa, iv nu, rv b81, .unset, .unset, .unset, .unset] [(.int (((XT.ushr xpc (8 : Int32)) &&& (255 : Int32)).toUInt32.toUInt16.toUInt32.toInt32))]
    obtain ⟨_, T94, L94, X94, hQ94, st94⟩ := own_callSt X90 hx hZ hown (ow0 hw) (ow1 hw) (ow2 hw) (ow3 hw) (by decide) (rvvof l Z a0 hw [] (((XT.ushr xpc (8 : Int32)) &&& (255 : Int32)).toUInt32.toUInt16.toUInt32.toInt32) qc T90.heap n0 Zs90 (S_cs.ext F91.2) hq (own_lat _)) rfl (W := 0) (by decide) (by decide) (by decide) (by decide) (pc := 68) (ls := #[iv xp, iv xn, iv xs, iv xl, iv xpc, iv xr, iv pa, iv nu, rv b81, .unset, .unset, .unset, .unset]) (stk := [(.int (((XT.ushr xpc (8 : Int32)) &&& (255 : Int32)).toUInt32.toUInt16.toUInt32.toInt32))]) (by rw [hml]; rfl) (argsL := [(.int (((XT.ushr xpc (8 : Int32)) &&& (255 : Int32)).toUInt32.toUInt16.toUInt32.toInt32))]) (rest := []) (lenOf pd5 rfl) rfl rfl (Nat.le_of_eq rfl) (hb hby at_68)
    obtain ⟨sx94, bx94, cx94, rfl, Nq94, Kq94, Eq94, Fv94, Fc94, Vq94, hz94, hy94, nn94⟩ := hQ94
    have nq94_b81 : b81 ≠ sx94 := Nat.ne_of_lt (Nat.lt_of_lt_of_le Eq90.lt hz94)
    have nq94_b84 : b84 ≠ sx94 := Nat.ne_of_lt (Nat.lt_of_lt_of_le F92.lt hz94)
    have nq94_b90 : b90 ≠ sx94 := Nat.ne_of_lt (Nat.lt_of_lt_of_le Vq90.lt hz94)
    have gq94 : n0 ≤ sx94 := Nat.le_trans Zs90 hz94
    have nq100094_b81 : b81 ≠ bx94 := Nat.ne_of_lt (Nat.lt_of_lt_of_le Eq90.lt hy94)
    have nq100094_b84 : b84 ≠ bx94 := Nat.ne_of_lt (Nat.lt_of_lt_of_le F92.lt hy94)
    have nq100094_b90 : b90 ≠ bx94 := Nat.ne_of_lt (Nat.lt_of_lt_of_le Vq90.lt hy94)
    have gq100094 : n0 ≤ bx94 := Nat.le_trans Zs90 hy94
    have N94 := Fr.app N90 Nq94
    have Zs94 : n0 ≤ T94.heap.size := Nat.le_trans Zs90 Kq94.1
    have F95 := F91.keep Kq94 all0
    have F96 := F92.keep Kq94 nin0
    have F97 := Eq90.keep Kq94
    have F98 := Fv90.keep Kq94 nin0
    have F99 := Fc90.keep Kq94 nin0
    have F100 := Vq90.keep Kq94 nin0
    have hA101 := CHr.keep Kq94 sf0 hC.1
    have sf_b81 := hA101.safe Eq90.lt sf_b81
    have sf_b84 := hA101.safe F92.lt sf_b84
    have hkk := Nat.le_trans hkk hA101.2.1
    have hC := hC.trans hA101
    refine OGo.st st94 ?_
    show OG p e below Φ T94 m 71 #[iv xp, iv xn, iv xs, iv xl, iv xpc, iv xr, iv pa, iv nu, rv b81, .unset, .unset, .unset, .unset] [(.ref sx94)]
    refine OGo.st (fun _ kz => XS.astore X94.here hx rfl (hb hby at_71) rfl rfl (l' := #[iv xp, iv xn, iv xs, iv xl, iv xpc, iv xr, iv pa, iv nu, rv b81, rv sx94, .unset, .unset, .unset]) rfl kz) ?_
    show OG p e below Φ T94 m 73 #[iv xp, iv xn, iv xs, iv xl, iv xpc, iv xr, iv pa, iv nu, rv b81, rv sx94, .unset, .unset, .unset] []
    refine OGo.st (fun _ kz => XS.iload X94.here hx rfl (hb hby at_73) rfl kz) ?_
    show OG p e below Φ T94 m 75 #[iv xp, iv xn, iv xs, iv xl, iv xpc, iv xr, iv pa, iv nu, rv b81, rv sx94, .unset, .unset, .unset] [(.int pa)]
    refine OGo.st (fun _ kz => XS.iload X94.here hx rfl (hb hby at_75) rfl kz) ?_
    show OG p e below Φ T94 m 77 #[iv xp, iv xn, iv xs, iv xl, iv xpc, iv xr, iv pa, iv nu, rv b81, rv sx94, .unset, .unset, .unset] [(.int nu), (.int pa)]
    refine OGo.st (fun _ kz => XT.ior X94.here hx rfl (hb hby at_77) rfl kz) ?_
    show OG p e below Φ T94 m 78 #[iv xp, iv xn, iv xs, iv xl, iv xpc, iv xr, iv pa, iv nu, rv b81, rv sx94, .unset, .unset, .unset] [(.int (pa ||| nu))]
    have hJ103 : OG p e below Φ T94 m 86 #[iv xp, iv xn, iv xs, iv xl, iv xpc, iv xr, iv pa, iv nu, rv b81, rv sx94, .unset, .unset, .unset] [(.int (if (pa ||| nu) = 0 then (1 : Int32) else (0 : Int32)))] → OG p e below Φ T94 m 78 #[iv xp, iv xn, iv xs, iv xl, iv xpc, iv xr, iv pa, iv nu, rv b81, rv sx94, .unset, .unset, .unset] [(.int (pa ||| nu))] := by
      intro hJ
      by_cases hc102 : (pa ||| nu) = 0
      · rw [show (if (pa ||| nu) = 0 then (1 : Int32) else (0 : Int32)) = (1 : Int32) from if_pos hc102] at hJ
        refine OGo.st (fun _ kz => XS.ifNo X94.here hx rfl (hb hby at_78) rfl (XT.i0_ne_f hc102) kz) ?_
        show OG p e below Φ T94 m 81 #[iv xp, iv xn, iv xs, iv xl, iv xpc, iv xr, iv pa, iv nu, rv b81, rv sx94, .unset, .unset, .unset] []
        refine OGo.st (fun _ kz => XS.iconst X94.here hx rfl (hb hby at_81) kz) ?_
        show OG p e below Φ T94 m 82 #[iv xp, iv xn, iv xs, iv xl, iv xpc, iv xr, iv pa, iv nu, rv b81, rv sx94, .unset, .unset, .unset] [(.int 1)]
        refine OGo.st (fun _ kz => XS.goto X94.here hx rfl (pc0 := 82) (pc' := 86) rfl (hb hby at_82) (by decide) (by decide) kz) ?_
        show OG p e below Φ T94 m 86 #[iv xp, iv xn, iv xs, iv xl, iv xpc, iv xr, iv pa, iv nu, rv b81, rv sx94, .unset, .unset, .unset] [(.int 1)]
        exact hJ
      · rw [show (if (pa ||| nu) = 0 then (1 : Int32) else (0 : Int32)) = (0 : Int32) from if_neg hc102] at hJ
        refine OGo.st (fun _ kz => XS.ifYes X94.here hx rfl (pc0 := 78) (pc' := 85) rfl (hb hby at_78) rfl (XT.i0_ne_t hc102) (by decide) (by decide) kz) ?_
        show OG p e below Φ T94 m 85 #[iv xp, iv xn, iv xs, iv xl, iv xpc, iv xr, iv pa, iv nu, rv b81, rv sx94, .unset, .unset, .unset] []
        refine OGo.st (fun _ kz => XS.iconst X94.here hx rfl (hb hby at_85) kz) ?_
        show OG p e below Φ T94 m 86 #[iv xp, iv xn, iv xs, iv xl, iv xpc, iv xr, iv pa, iv nu, rv b81, rv sx94, .unset, .unset, .unset] [(.int 0)]
        exact hJ
    refine hJ103 ?_
    show OG p e below Φ T94 m 86 #[iv xp, iv xn, iv xs, iv xl, iv xpc, iv xr, iv pa, iv nu, rv b81, rv sx94, .unset, .unset, .unset] [(.int (if (pa ||| nu) = 0 then (1 : Int32) else (0 : Int32)))]
    refine OGo.st (fun _ kz => XS.istore X94.here hx rfl (hb hby at_86) rfl (l' := #[iv xp, iv xn, iv xs, iv xl, iv xpc, iv xr, iv pa, iv nu, rv b81, rv sx94, iv (if (pa ||| nu) = 0 then (1 : Int32) else (0 : Int32)), .unset, .unset]) rfl kz) ?_
    show OG p e below Φ T94 m 88 #[iv xp, iv xn, iv xs, iv xl, iv xpc, iv xr, iv pa, iv nu, rv b81, rv sx94, iv (if (pa ||| nu) = 0 then (1 : Int32) else (0 : Int32)), .unset, .unset] []
    obtain ⟨T104, h104, X104, e104, E104, A104, D104, U104, st104⟩ := newO X94 hx hZ hown (ow26 hw) (ow27 hw) (ow28 hw) rfl (g := (mkF m 88 #[iv xp, iv xn, iv xs, iv xl, iv xpc, iv xr, iv pa, iv nu, rv b81, rv sx94, iv (if (pa ||| nu) = 0 then (1 : Int32) else (0 : Int32)), .unset, .unset] [])) rfl (hb hby at_88) (by decide) (by decide)
    obtain ⟨b104, g104⟩ : ∃ z, z = T94.heap.size := ⟨_, rfl⟩
    rw [← g104] at A104 D104 st104 U104
    have ne104_b81 : b81 ≠ b104 := by rw [g104]; exact Nat.ne_of_lt F97.lt
    have ne104_b84 : b84 ≠ b104 := by rw [g104]; exact Nat.ne_of_lt F96.lt
    have ne104_b90 : b90 ≠ b104 := by rw [g104]; exact Nat.ne_of_lt F100.lt
    have ne104_bx94 : bx94 ≠ b104 := by rw [g104]; exact Nat.ne_of_lt Vq94.lt
    have ne104_sx94 : sx94 ≠ b104 := by rw [g104]; exact Nat.ne_of_lt Eq94.lt
    have F105 := F95.ext E104
    have F106 := F96.ext E104
    have F107 := F97.ext E104
    have F108 := F98.ext E104
    have F109 := F99.ext E104
    have F110 := F100.ext E104
    have F111 := Eq94.ext E104
    have F112 := Fv94.ext E104
    have F113 := Fc94.ext E104
    have F114 := Vq94.ext E104
    have gb104 : n0 ≤ b104 := Nat.le_trans Zs94 (Nat.le_of_eq g104.symm)
    have Zs104 : n0 ≤ h104.size := Nat.le_trans Zs94 E104.1
    have F104_39 : Fld Z h104 b104 "com/example/bindery/bindery/model/Structure" "parent" "I" (.int (0 : Int32)) := D104 (Or.inr (ow39 hw)) (ty := .int) (by decide)
    have F104_41 : Fld Z h104 b104 "com/example/bindery/bindery/model/Structure" "sequence" "I" (.int (0 : Int32)) := D104 (Or.inr (ow41 hw)) (ty := .int) (by decide)
    have F104_43 : Fld Z h104 b104 "com/example/bindery/bindery/model/Structure" "label" "Ljava/lang/String;" .null := D104 (Or.inr (ow43 hw)) (ty := (.object "java/lang/String")) (by decide)
    have F104_45 : Fld Z h104 b104 "com/example/bindery/bindery/model/Structure" "number" "I" (.int (0 : Int32)) := D104 (Or.inr (ow45 hw)) (ty := .int) (by decide)
    have F104_47 : Fld Z h104 b104 "com/example/bindery/bindery/model/Structure" "logicalChildren" "I" (.int (0 : Int32)) := D104 (Or.inr (ow47 hw)) (ty := .int) (by decide)
    have F104_49 : Fld Z h104 b104 "com/example/bindery/bindery/model/Structure" "physicalChildren" "I" (.int (0 : Int32)) := D104 (Or.inr (ow49 hw)) (ty := .int) (by decide)
    have F104_51 : Fld Z h104 b104 "com/example/bindery/bindery/model/Structure" "references" "I" (.int (0 : Int32)) := D104 (Or.inr (ow51 hw)) (ty := .int) (by decide)
    have hA115 := CHr.ext E104 hC.1
    have sf_b104 := Safe.ext E104 hC.1 (Safe.new (Nat.le_of_eq g104.symm))
    have sf_b81 := hA115.safe F97.lt sf_b81
    have sf_b84 := hA115.safe F96.lt sf_b84
    have hkk := Nat.le_trans hkk hA115.2.1
    have hC := hC.trans hA115
    refine OGo.st (st104) ?_
    show OG p e below Φ T104 m 91 #[iv xp, iv xn, iv xs, iv xl, iv xpc, iv xr, iv pa, iv nu, rv b81, rv sx94, iv (if (pa ||| nu) = 0 then (1 : Int32) else (0 : Int32)), .unset, .unset] [(.ref b104)]
    refine OGo.st (fun _ kz => XS.dup X104.here hx rfl (hb hby at_91) rfl rfl kz) ?_
    show OG p e below Φ T104 m 92 #[iv xp, iv xn, iv xs, iv xl, iv xpc, iv xr, iv pa, iv nu, rv b81, rv sx94, iv (if (pa ||| nu) = 0 then (1 : Int32) else (0 : Int32)), .unset, .unset] [(.ref b104), (.ref b104)]
    refine OGo.st (fun _ kz => XS.iload X104.here hx rfl (hb hby at_92) rfl kz) ?_
    show OG p e below Φ T104 m 94 #[iv xp, iv xn, iv xs, iv xl, iv xpc, iv xr, iv pa, iv nu, rv b81, rv sx94, iv (if (pa ||| nu) = 0 then (1 : Int32) else (0 : Int32)), .unset, .unset] [(.int pa), (.ref b104), (.ref b104)]
    refine OGo.st (fun _ kz => XS.iloadN X104.here hx rfl (hb hby at_94) rfl kz) ?_
    show OG p e below Φ T104 m 95 #[iv xp, iv xn, iv xs, iv xl, iv xpc, iv xr, iv pa, iv nu, rv b81, rv sx94, iv (if (pa ||| nu) = 0 then (1 : Int32) else (0 : Int32)), .unset, .unset] [(.int xs), (.int pa), (.ref b104), (.ref b104)]
    refine OGo.st (fun _ kz => XS.aload X104.here hx rfl (hb hby at_95) rfl rfl kz) ?_
    show OG p e below Φ T104 m 97 #[iv xp, iv xn, iv xs, iv xl, iv xpc, iv xr, iv pa, iv nu, rv b81, rv sx94, iv (if (pa ||| nu) = 0 then (1 : Int32) else (0 : Int32)), .unset, .unset] [(.ref b81), (.int xs), (.int pa), (.ref b104), (.ref b104)]
    refine OGo.st (fun _ kz => XS.iload X104.here hx rfl (hb hby at_97) rfl kz) ?_
    show OG p e below Φ T104 m 99 #[iv xp, iv xn, iv xs, iv xl, iv xpc, iv xr, iv pa, iv nu, rv b81, rv sx94, iv (if (pa ||| nu) = 0 then (1 : Int32) else (0 : Int32)), .unset, .unset] [(.int nu), (.ref b81), (.int xs), (.int pa), (.ref b104), (.ref b104)]
    refine OGo.st (fun _ kz => XS.iloadN X104.here hx rfl (hb hby at_99) rfl kz) ?_
    show OG p e below Φ T104 m 100 #[iv xp, iv xn, iv xs, iv xl, iv xpc, iv xr, iv pa, iv nu, rv b81, rv sx94, iv (if (pa ||| nu) = 0 then (1 : Int32) else (0 : Int32)), .unset, .unset] [(.int xl), (.int nu), (.ref b81), (.int xs), (.int pa), (.ref b104), (.ref b104)]
    refine OGo.st (fun _ kz => XS.iload X104.here hx rfl (hb hby at_100) rfl kz) ?_
    show OG p e below Φ T104 m 102 #[iv xp, iv xn, iv xs, iv xl, iv xpc, iv xr, iv pa, iv nu, rv b81, rv sx94, iv (if (pa ||| nu) = 0 then (1 : Int32) else (0 : Int32)), .unset, .unset] [(.int xpc), (.int xl), (.int nu), (.ref b81), (.int xs), (.int pa), (.ref b104), (.ref b104)]
    refine OGo.st (fun _ kz => XS.iload X104.here hx rfl (hb hby at_102) rfl kz) ?_
    show OG p e below Φ T104 m 104 #[iv xp, iv xn, iv xs, iv xl, iv xpc, iv xr, iv pa, iv nu, rv b81, rv sx94, iv (if (pa ||| nu) = 0 then (1 : Int32) else (0 : Int32)), .unset, .unset] [(.int xr), (.int xpc), (.int xl), (.int nu), (.ref b81), (.int xs), (.int pa), (.ref b104), (.ref b104)]
    obtain ⟨_, T116, L116, X116, hQ116, st116⟩ := own_callSp X104 hx hZ rfl hown (ow29 hw) (ow30 hw) (ow28 hw) (ow31 hw) (by decide) (rm2 l Z a0 hw [] b104 pa xs b81 nu xl xpc xr (.int 0) (.int 0) .null (.int 0) (.int 0) (.int 0) (.int 0) h104 n0 Zs104 A104 gb104 F104_39 F104_41 F104_43 F104_45 F104_47 F104_49 F104_51) e104 (W := 1) (by decide) (by decide) (by decide) (by decide) (pc := 104) (ls := #[iv xp, iv xn, iv xs, iv xl, iv xpc, iv xr, iv pa, iv nu, rv b81, rv sx94, iv (if (pa ||| nu) = 0 then (1 : Int32) else (0 : Int32)), .unset, .unset]) (stk := [(.int xr), (.int xpc), (.int xl), (.int nu), (.ref b81), (.int xs), (.int pa), (.ref b104), (.ref b104)]) (by rw [hml]; rfl) (a := b104) (argsL := [(.int pa), (.int xs), (.ref b81), (.int nu), (.int xl), (.int xpc), (.int xr)]) (rest := [(.ref b104)]) (lenOf pd6 rfl) rfl rfl (Nat.le_of_eq rfl) (hb hby at_104)
    obtain ⟨rfl, Nq116, Kq116, Eq116, Fq116_0, Fq116_1, Fq116_2, Fq116_3, Fq116_4, Fq116_5, Fq116_6⟩ := hQ116
    have N116 := Fr.app N94 Nq116
    have Zs116 : n0 ≤ T116.heap.size := Nat.le_trans Zs104 Kq116.1
    have F117 := F105.keep Kq116 (allS gb104 all0)
    have F118 := F106.keep Kq116 (ninS ne104_b84 nin0)
    have F119 := F107.keep Kq116
    have F120 := F108.keep Kq116 (ninS ne104_b81 nin0)
    have F121 := F109.keep Kq116 (ninS ne104_b81 nin0)
    have F122 := F110.keep Kq116 (ninS ne104_b90 nin0)
    have F123 := F111.keep Kq116
    have F124 := F112.keep Kq116 (ninS ne104_sx94 nin0)
    have F125 := F113.keep Kq116 (ninS ne104_sx94 nin0)
    have F126 := F114.keep Kq116 (ninS ne104_bx94 nin0)
    have hA127 := CHr.keep Kq116 (sfS sf_b104 sf0) hC.1
    have sf_b81 := hA127.safe F107.lt sf_b81
    have sf_b84 := hA127.safe F106.lt sf_b84
    have sf_b104 := hA127.safe A104.lt sf_b104
    have hkk := Nat.le_trans hkk hA127.2.1
    have hC := hC.trans hA127
    refine OGo.st st116 ?_
    show OG p e below Φ T116 m 107 #[iv xp, iv xn, iv xs, iv xl, iv xpc, iv xr, iv pa, iv nu, rv b81, rv sx94, iv (if (pa ||| nu) = 0 then (1 : Int32) else (0 : Int32)), .unset, .unset] [(.ref b104)]
    refine OGo.st (fun _ kz => XS.astore X116.here hx rfl (hb hby at_107) rfl rfl (l' := #[iv xp, iv xn, iv xs, iv xl, iv xpc, iv xr, iv pa, iv nu, rv b81, rv sx94, iv (if (pa ||| nu) = 0 then (1 : Int32) else (0 : Int32)), rv b104, .unset]) rfl kz) ?_
    show OG p e below Φ T116 m 109 #[iv xp, iv xn, iv xs, iv xl, iv xpc, iv xr, iv pa, iv nu, rv b81, rv sx94, iv (if (pa ||| nu) = 0 then (1 : Int32) else (0 : Int32)), rv b104, .unset] []
    obtain ⟨T128, h128, X128, e128, E128, A128, D128, U128, st128⟩ := newO X116 hx hZ hown (ow26 hw) (ow27 hw) (ow28 hw) rfl (g := (mkF m 109 #[iv xp, iv xn, iv xs, iv xl, iv xpc, iv xr, iv pa, iv nu, rv b81, rv sx94, iv (if (pa ||| nu) = 0 then (1 : Int32) else (0 : Int32)), rv b104, .unset] [])) rfl (hb hby at_109) (by decide) (by decide)
    obtain ⟨b128, g128⟩ : ∃ z, z = T116.heap.size := ⟨_, rfl⟩
    rw [← g128] at A128 D128 st128 U128
    have ne128_b104 : b104 ≠ b128 := by rw [g128]; exact Nat.ne_of_lt Eq116.lt
    have ne128_b81 : b81 ≠ b128 := by rw [g128]; exact Nat.ne_of_lt F119.lt
    have ne128_b84 : b84 ≠ b128 := by rw [g128]; exact Nat.ne_of_lt F118.lt
    have ne128_b90 : b90 ≠ b128 := by rw [g128]; exact Nat.ne_of_lt F122.lt
    have ne128_bx94 : bx94 ≠ b128 := by rw [g128]; exact Nat.ne_of_lt F126.lt
    have ne128_sx94 : sx94 ≠ b128 := by rw [g128]; exact Nat.ne_of_lt F123.lt
    have F129 := F117.ext E128
    have F130 := F118.ext E128
    have F131 := F119.ext E128
    have F132 := F120.ext E128
    have F133 := F121.ext E128
    have F134 := F122.ext E128
    have F135 := F123.ext E128
    have F136 := F124.ext E128
    have F137 := F125.ext E128
    have F138 := F126.ext E128
    have F139 := Eq116.ext E128
    have F140 := Fq116_0.ext E128
    have F141 := Fq116_1.ext E128
    have F142 := Fq116_2.ext E128
    have F143 := Fq116_3.ext E128
    have F144 := Fq116_4.ext E128
    have F145 := Fq116_5.ext E128
    have F146 := Fq116_6.ext E128
    have gb128 : n0 ≤ b128 := Nat.le_trans Zs116 (Nat.le_of_eq g128.symm)
    have Zs128 : n0 ≤ h128.size := Nat.le_trans Zs116 E128.1
    have F128_39 : Fld Z h128 b128 "com/example/bindery/bindery/model/Structure" "parent" "I" (.int (0 : Int32)) := D128 (Or.inr (ow39 hw)) (ty := .int) (by decide)
    have F128_41 : Fld Z h128 b128 "com/example/bindery/bindery/model/Structure" "sequence" "I" (.int (0 : Int32)) := D128 (Or.inr (ow41 hw)) (ty := .int) (by decide)
    have F128_43 : Fld Z h128 b128 "com/example/bindery/bindery/model/Structure" "label" "Ljava/lang/String;" .null := D128 (Or.inr (ow43 hw)) (ty := (.object "java/lang/String")) (by decide)
    have F128_45 : Fld Z h128 b128 "com/example/bindery/bindery/model/Structure" "number" "I" (.int (0 : Int32)) := D128 (Or.inr (ow45 hw)) (ty := .int) (by decide)
    have F128_47 : Fld Z h128 b128 "com/example/bindery/bindery/model/Structure" "logicalChildren" "I" (.int (0 : Int32)) := D128 (Or.inr (ow47 hw)) (ty := .int) (by decide)
    have F128_49 : Fld Z h128 b128 "com/example/bindery/bindery/model/Structure" "physicalChildren" "I" (.int (0 : Int32)) := D128 (Or.inr (ow49 hw)) (ty := .int) (by decide)
    have F128_51 : Fld Z h128 b128 "com/example/bindery/bindery/model/Structure" "references" "I" (.int (0 : Int32)) := D128 (Or.inr (ow51 hw)) (ty := .int) (by decide)
    have hA147 := CHr.ext E128 hC.1
    have sf_b128 := Safe.ext E128 hC.1 (Safe.new (Nat.le_of_eq g128.symm))
    have sf_b81 := hA147.safe F119.lt sf_b81
    have sf_b84 := hA147.safe F118.lt sf_b84
    have sf_b104 := hA147.safe Eq116.lt sf_b104
    have hkk := Nat.le_trans hkk hA147.2.1
    have hC := hC.trans hA147
    refine OGo.st (st128) ?_
    show OG p e below Φ T128 m 112 #[iv xp, iv xn, iv xs, iv xl, iv xpc, iv xr, iv pa, iv nu, rv b81, rv sx94, iv (if (pa ||| nu) = 0 then (1 : Int32) else (0 : Int32)), rv b104, .unset] [(.ref b128)]
    refine OGo.st (fun _ kz => XS.dup X128.here hx rfl (hb hby at_112) rfl rfl kz) ?_
    show OG p e below Φ T128 m 113 #[iv xp, iv xn, iv xs, iv xl, iv xpc, iv xr, iv pa, iv nu, rv b81, rv sx94, iv (if (pa ||| nu) = 0 then (1 : Int32) else (0 : Int32)), rv b104, .unset] [(.ref b128), (.ref b128)]
    refine OGo.st (fun _ kz => XS.iload X128.here hx rfl (hb hby at_113) rfl kz) ?_
    show OG p e below Φ T128 m 115 #[iv xp, iv xn, iv xs, iv xl, iv xpc, iv xr, iv pa, iv nu, rv b81, rv sx94, iv (if (pa ||| nu) = 0 then (1 : Int32) else (0 : Int32)), rv b104, .unset] [(.int pa), (.ref b128), (.ref b128)]
    refine OGo.st (fun _ kz => XS.iloadN X128.here hx rfl (hb hby at_115) rfl kz) ?_
    show OG p e below Φ T128 m 116 #[iv xp, iv xn, iv xs, iv xl, iv xpc, iv xr, iv pa, iv nu, rv b81, rv sx94, iv (if (pa ||| nu) = 0 then (1 : Int32) else (0 : Int32)), rv b104, .unset] [(.int xs), (.int pa), (.ref b128), (.ref b128)]
    refine OGo.st (fun _ kz => XS.iconst X128.here hx rfl (hb hby at_116) kz) ?_
    show OG p e below Φ T128 m 117 #[iv xp, iv xn, iv xs, iv xl, iv xpc, iv xr, iv pa, iv nu, rv b81, rv sx94, iv (if (pa ||| nu) = 0 then (1 : Int32) else (0 : Int32)), rv b104, .unset] [(.int (-1)), (.int xs), (.int pa), (.ref b128), (.ref b128)]
    refine OGo.st (fun _ kz => XT.ixor X128.here hx rfl (hb hby at_117) rfl kz) ?_
    show OG p e below Φ T128 m 118 #[iv xp, iv xn, iv xs, iv xl, iv xpc, iv xr, iv pa, iv nu, rv b81, rv sx94, iv (if (pa ||| nu) = 0 then (1 : Int32) else (0 : Int32)), rv b104, .unset] [(.int (xs ^^^ (-1 : Int32))), (.int pa), (.ref b128), (.ref b128)]
    refine OGo.st (fun _ kz => XS.aload X128.here hx rfl (hb hby at_118) rfl rfl kz) ?_
    show OG p e below Φ T128 m 120 #[iv xp, iv xn, iv xs, iv xl, iv xpc, iv xr, iv pa, iv nu, rv b81, rv sx94, iv (if (pa ||| nu) = 0 then (1 : Int32) else (0 : Int32)), rv b104, .unset] [(.ref sx94), (.int (xs ^^^ (-1 : Int32))), (.int pa), (.ref b128), (.ref b128)]
    refine OGo.st (fun _ kz => XS.iload X128.here hx rfl (hb hby at_120) rfl kz) ?_
    show OG p e below Φ T128 m 122 #[iv xp, iv xn, iv xs, iv xl, iv xpc, iv xr, iv pa, iv nu, rv b81, rv sx94, iv (if (pa ||| nu) = 0 then (1 : Int32) else (0 : Int32)), rv b104, .unset] [(.int nu), (.ref sx94), (.int (xs ^^^ (-1 : Int32))), (.int pa), (.ref b128), (.ref b128)]
    refine OGo.st (fun _ kz => XS.iloadN X128.here hx rfl (hb hby at_122) rfl kz) ?_
    show OG p e below Φ T128 m 123 #[iv xp, iv xn, iv xs, iv xl, iv xpc, iv xr, iv pa, iv nu, rv b81, rv sx94, iv (if (pa ||| nu) = 0 then (1 : Int32) else (0 : Int32)), rv b104, .unset] [(.int xl), (.int nu), (.ref sx94), (.int (xs ^^^ (-1 : Int32))), (.int pa), (.ref b128), (.ref b128)]
    refine OGo.st (fun _ kz => XS.iconst X128.here hx rfl (hb hby at_123) kz) ?_
    show OG p e below Φ T128 m 124 #[iv xp, iv xn, iv xs, iv xl, iv xpc, iv xr, iv pa, iv nu, rv b81, rv sx94, iv (if (pa ||| nu) = 0 then (1 : Int32) else (0 : Int32)), rv b104, .unset] [(.int (-1)), (.int xl), (.int nu), (.ref sx94), (.int (xs ^^^ (-1 : Int32))), (.int pa), (.ref b128), (.ref b128)]
    refine OGo.st (fun _ kz => XT.ixor X128.here hx rfl (hb hby at_124) rfl kz) ?_
    show OG p e below Φ T128 m 125 #[iv xp, iv xn, iv xs, iv xl, iv xpc, iv xr, iv pa, iv nu, rv b81, rv sx94, iv (if (pa ||| nu) = 0 then (1 : Int32) else (0 : Int32)), rv b104, .unset] [(.int (xl ^^^ (-1 : Int32))), (.int nu), (.ref sx94), (.int (xs ^^^ (-1 : Int32))), (.int pa), (.ref b128), (.ref b128)]
    refine OGo.st (fun _ kz => XS.iload X128.here hx rfl (hb hby at_125) rfl kz) ?_
    show OG p e below Φ T128 m 127 #[iv xp, iv xn, iv xs, iv xl, iv xpc, iv xr, iv pa, iv nu, rv b81, rv sx94, iv (if (pa ||| nu) = 0 then (1 : Int32) else (0 : Int32)), rv b104, .unset] [(.int xpc), (.int (xl ^^^ (-1 : Int32))), (.int nu), (.ref sx94), (.int (xs ^^^ (-1 : Int32))), (.int pa), (.ref b128), (.ref b128)]
    refine OGo.st (fun _ kz => XS.iconst X128.here hx rfl (hb hby at_127) kz) ?_
    show OG p e below Φ T128 m 128 #[iv xp, iv xn, iv xs, iv xl, iv xpc, iv xr, iv pa, iv nu, rv b81, rv sx94, iv (if (pa ||| nu) = 0 then (1 : Int32) else (0 : Int32)), rv b104, .unset] [(.int (-1)), (.int xpc), (.int (xl ^^^ (-1 : Int32))), (.int nu), (.ref sx94), (.int (xs ^^^ (-1 : Int32))), (.int pa), (.ref b128), (.ref b128)]
    refine OGo.st (fun _ kz => XT.ixor X128.here hx rfl (hb hby at_128) rfl kz) ?_
    show OG p e below Φ T128 m 129 #[iv xp, iv xn, iv xs, iv xl, iv xpc, iv xr, iv pa, iv nu, rv b81, rv sx94, iv (if (pa ||| nu) = 0 then (1 : Int32) else (0 : Int32)), rv b104, .unset] [(.int (xpc ^^^ (-1 : Int32))), (.int (xl ^^^ (-1 : Int32))), (.int nu), (.ref sx94), (.int (xs ^^^ (-1 : Int32))), (.int pa), (.ref b128), (.ref b128)]
    refine OGo.st (fun _ kz => XS.iload X128.here hx rfl (hb hby at_129) rfl kz) ?_
    show OG p e below Φ T128 m 131 #[iv xp, iv xn, iv xs, iv xl, iv xpc, iv xr, iv pa, iv nu, rv b81, rv sx94, iv (if (pa ||| nu) = 0 then (1 : Int32) else (0 : Int32)), rv b104, .unset] [(.int xr), (.int (xpc ^^^ (-1 : Int32))), (.int (xl ^^^ (-1 : Int32))), (.int nu), (.ref sx94), (.int (xs ^^^ (-1 : Int32))), (.int pa), (.ref b128), (.ref b128)]
    refine OGo.st (fun _ kz => XS.iconst X128.here hx rfl (hb hby at_131) kz) ?_
    show OG p e below Φ T128 m 132 #[iv xp, iv xn, iv xs, iv xl, iv xpc, iv xr, iv pa, iv nu, rv b81, rv sx94, iv (if (pa ||| nu) = 0 then (1 : Int32) else (0 : Int32)), rv b104, .unset] [(.int (-1)), (.int xr), (.int (xpc ^^^ (-1 : Int32))), (.int (xl ^^^ (-1 : Int32))), (.int nu), (.ref sx94), (.int (xs ^^^ (-1 : Int32))), (.int pa), (.ref b128), (.ref b128)]
    refine OGo.st (fun _ kz => XT.ixor X128.here hx rfl (hb hby at_132) rfl kz) ?_
    show OG p e below Φ T128 m 133 #[iv xp, iv xn, iv xs, iv xl, iv xpc, iv xr, iv pa, iv nu, rv b81, rv sx94, iv (if (pa ||| nu) = 0 then (1 : Int32) else (0 : Int32)), rv b104, .unset] [(.int (xr ^^^ (-1 : Int32))), (.int (xpc ^^^ (-1 : Int32))), (.int (xl ^^^ (-1 : Int32))), (.int nu), (.ref sx94), (.int (xs ^^^ (-1 : Int32))), (.int pa), (.ref b128), (.ref b128)]
    obtain ⟨_, T148, L148, X148, hQ148, st148⟩ := own_callSp X128 hx hZ rfl hown (ow29 hw) (ow30 hw) (ow28 hw) (ow31 hw) (by decide) (rm2 l Z a0 hw [] b128 pa (xs ^^^ (-1 : Int32)) sx94 nu (xl ^^^ (-1 : Int32)) (xpc ^^^ (-1 : Int32)) (xr ^^^ (-1 : Int32)) (.int 0) (.int 0) .null (.int 0) (.int 0) (.int 0) (.int 0) h128 n0 Zs128 A128 gb128 F128_39 F128_41 F128_43 F128_45 F128_47 F128_49 F128_51) e128 (W := 1) (by decide) (by decide) (by decide) (by decide) (pc := 133) (ls := #[iv xp, iv xn, iv xs, iv xl, iv xpc, iv xr, iv pa, iv nu, rv b81, rv sx94, iv (if (pa ||| nu) = 0 then (1 : Int32) else (0 : Int32)), rv b104, .unset]) (stk := [(.int (xr ^^^ (-1 : Int32))), (.int (xpc ^^^ (-1 : Int32))), (.int (xl ^^^ (-1 : Int32))), (.int nu), (.ref sx94), (.int (xs ^^^ (-1 : Int32))), (.int pa), (.ref b128), (.ref b128)]) (by rw [hml]; rfl) (a := b128) (argsL := [(.int pa), (.int (xs ^^^ (-1 : Int32))), (.ref sx94), (.int nu), (.int (xl ^^^ (-1 : Int32))), (.int (xpc ^^^ (-1 : Int32))), (.int (xr ^^^ (-1 : Int32)))]) (rest := [(.ref b128)]) (lenOf pd6 rfl) rfl rfl (Nat.le_of_eq rfl) (hb hby at_133)
    obtain ⟨rfl, Nq148, Kq148, Eq148, Fq148_0, Fq148_1, Fq148_2, Fq148_3, Fq148_4, Fq148_5, Fq148_6⟩ := hQ148
    have N148 := Fr.app N116 Nq148
    have Zs148 : n0 ≤ T148.heap.size := Nat.le_trans Zs128 Kq148.1
    have F149 := F129.keep Kq148 (allS gb128 all0)
    have F150 := F130.keep Kq148 (ninS ne128_b84 nin0)
    have F151 := F131.keep Kq148
    have F152 := F132.keep Kq148 (ninS ne128_b81 nin0)
    have F153 := F133.keep Kq148 (ninS ne128_b81 nin0)
    have F154 := F134.keep Kq148 (ninS ne128_b90 nin0)
    have F155 := F135.keep Kq148
    have F156 := F136.keep Kq148 (ninS ne128_sx94 nin0)
    have F157 := F137.keep Kq148 (ninS ne128_sx94 nin0)
    have F158 := F138.keep Kq148 (ninS ne128_bx94 nin0)
    have F159 := F139.keep Kq148
    have F160 := F140.keep Kq148 (ninS ne128_b104 nin0)
    have F161 := F141.keep Kq148 (ninS ne128_b104 nin0)
    have F162 := F142.keep Kq148 (ninS ne128_b104 nin0)
    have F163 := F143.keep Kq148 (ninS ne128_b104 nin0)
    have F164 := F144.keep Kq148 (ninS ne128_b104 nin0)
    have F165 := F145.keep Kq148 (ninS ne128_b104 nin0)
    have F166 := F146.keep Kq148 (ninS ne128_b104 nin0)
    have hA167 := CHr.keep Kq148 (sfS sf_b128 sf0) hC.1
    have sf_b81 := hA167.safe F131.lt sf_b81
    have sf_b84 := hA167.safe F130.lt sf_b84
    have sf_b104 := hA167.safe F139.lt sf_b104
    have sf_b128 := hA167.safe A128.lt sf_b128
    have hkk := Nat.le_trans hkk hA167.2.1
    have hC := hC.trans hA167
    refine OGo.st st148 ?_
    show OG p e below Φ T148 m 136 #[iv xp, iv xn, iv xs, iv xl, iv xpc, iv xr, iv pa, iv nu, rv b81, rv sx94, iv (if (pa ||| nu) = 0 then (1 : Int32) else (0 : Int32)), rv b104, .unset] [(.ref b128)]
    refine OGo.st (fun _ kz => XS.astore X148.here hx rfl (hb hby at_136) rfl rfl (l' := #[iv xp, iv xn, iv xs, iv xl, iv xpc, iv xr, iv pa, iv nu, rv b81, rv sx94, iv (if (pa ||| nu) = 0 then (1 : Int32) else (0 : Int32)), rv b104, rv b128]) rfl kz) ?_
    show OG p e below Φ T148 m 138 #[iv xp, iv xn, iv xs, iv xl, iv xpc, iv xr, iv pa, iv nu, rv b81, rv sx94, iv (if (pa ||| nu) = 0 then (1 : Int32) else (0 : Int32)), rv b104, rv b128] []
    refine OGo.st (fun _ kz => XS.aload X148.here hx rfl (hb hby at_138) rfl rfl kz) ?_
    show OG p e below Φ T148 m 140 #[iv xp, iv xn, iv xs, iv xl, iv xpc, iv xr, iv pa, iv nu, rv b81, rv sx94, iv (if (pa ||| nu) = 0 then (1 : Int32) else (0 : Int32)), rv b104, rv b128] [(.ref b104)]
    obtain ⟨_, T168, L168, X168, hQ168, st168⟩ := own_callVi X148 hx hZ hown (ow52 hw) (ow53 hw) (notFace_of_selects (args := #[]) (mvT hZ (ow55 hw))) (ow55 hw) (ow54 hw) (ow28 hw) (ow56 hw) (by decide) (rm3 l Z a0 hw [] b104 pa nu T148.heap n0 Zs148 F160 F163) rfl (W := 0) (by decide) (by decide) (by decide) (by decide) F159 (pc := 140) (ls := #[iv xp, iv xn, iv xs, iv xl, iv xpc, iv xr, iv pa, iv nu, rv b81, rv sx94, iv (if (pa ||| nu) = 0 then (1 : Int32) else (0 : Int32)), rv b104, rv b128]) (stk := [(.ref b104)]) (by rw [hml]; rfl) (argsL := []) (rest := []) (lenOf pd7 rfl) rfl rfl (Nat.le_of_eq rfl) (hb hby at_140)
    obtain ⟨rfl, Nq168, e168⟩ := hQ168
    have N168 := Fr.app N148 Nq168
    refine OGo.st st168 ?_
    show OG p e below Φ T168 m 143 #[iv xp, iv xn, iv xs, iv xl, iv xpc, iv xr, iv pa, iv nu, rv b81, rv sx94, iv (if (pa ||| nu) = 0 then (1 : Int32) else (0 : Int32)), rv b104, rv b128] [(.int (own_root pa nu))]
    refine OGo.st (fun _ kz => XS.iload X168.here hx rfl (hb hby at_143) rfl kz) ?_
    show OG p e below Φ T168 m 145 #[iv xp, iv xn, iv xs, iv xl, iv xpc, iv xr, iv pa, iv nu, rv b81, rv sx94, iv (if (pa ||| nu) = 0 then (1 : Int32) else (0 : Int32)), rv b104, rv b128] [(.int (if (pa ||| nu) = 0 then (1 : Int32) else (0 : Int32))), (.int (own_root pa nu))]
    by_cases hc169 : (own_root pa nu) = (if (pa ||| nu) = 0 then (1 : Int32) else (0 : Int32))
    · refine OGo.st (fun _ kz => XS.icmpNo X168.here hx rfl (hb hby at_145) rfl (XT.ii_ne_f hc169) kz) ?_
      show OG p e below Φ T168 m 148 #[iv xp, iv xn, iv xs, iv xl, iv xpc, iv xr, iv pa, iv nu, rv b81, rv sx94, iv (if (pa ||| nu) = 0 then (1 : Int32) else (0 : Int32)), rv b104, rv b128] []
      refine OGo.st (fun _ kz => XS.aload X168.here hx rfl (hb hby at_148) rfl rfl kz) ?_
      show OG p e below Φ T168 m 150 #[iv xp, iv xn, iv xs, iv xl, iv xpc, iv xr, iv pa, iv nu, rv b81, rv sx94, iv (if (pa ||| nu) = 0 then (1 : Int32) else (0 : Int32)), rv b104, rv b128] [(.ref b128)]
      obtain ⟨_, T170, L170, X170, hQ170, st170⟩ := own_callVi X168 hx hZ hown (ow52 hw) (ow53 hw) (notFace_of_selects (args := #[]) (mvT hZ (ow55 hw))) (ow55 hw) (ow54 hw) (ow28 hw) (ow56 hw) (by decide) (rm3 l Z a0 hw [] b128 pa nu T148.heap n0 Zs148 Fq148_0 Fq148_3) e168 (W := 0) (by decide) (by decide) (by decide) (by decide) Eq148 (pc := 150) (ls := #[iv xp, iv xn, iv xs, iv xl, iv xpc, iv xr, iv pa, iv nu, rv b81, rv sx94, iv (if (pa ||| nu) = 0 then (1 : Int32) else (0 : Int32)), rv b104, rv b128]) (stk := [(.ref b128)]) (by rw [hml]; rfl) (argsL := []) (rest := []) (lenOf pd7 rfl) rfl rfl (Nat.le_of_eq rfl) (hb hby at_150)
      obtain ⟨rfl, Nq170, e170⟩ := hQ170
      have N170 := Fr.app N168 Nq170
      refine OGo.st st170 ?_
      show OG p e below Φ T170 m 153 #[iv xp, iv xn, iv xs, iv xl, iv xpc, iv xr, iv pa, iv nu, rv b81, rv sx94, iv (if (pa ||| nu) = 0 then (1 : Int32) else (0 : Int32)), rv b104, rv b128] [(.int (own_root pa nu))]
      refine OGo.st (fun _ kz => XS.iload X170.here hx rfl (hb hby at_153) rfl kz) ?_
      show OG p e below Φ T170 m 155 #[iv xp, iv xn, iv xs, iv xl, iv xpc, iv xr, iv pa, iv nu, rv b81, rv sx94, iv (if (pa ||| nu) = 0 then (1 : Int32) else (0 : Int32)), rv b104, rv b128] [(.int (if (pa ||| nu) = 0 then (1 : Int32) else (0 : Int32))), (.int (own_root pa nu))]
      refine OGo.st (fun _ kz => XS.icmpNo X170.here hx rfl (hb hby at_155) rfl (XT.ii_ne_f hc169) kz) ?_
      show OG p e below Φ T170 m 158 #[iv xp, iv xn, iv xs, iv xl, iv xpc, iv xr, iv pa, iv nu, rv b81, rv sx94, iv (if (pa ||| nu) = 0 then (1 : Int32) else (0 : Int32)), rv b104, rv b128] []
      refine OGo.st (fun _ kz => XS.iconst X170.here hx rfl (hb hby at_158) kz) ?_
      show OG p e below Φ T170 m 159 #[iv xp, iv xn, iv xs, iv xl, iv xpc, iv xr, iv pa, iv nu, rv b81, rv sx94, iv (if (pa ||| nu) = 0 then (1 : Int32) else (0 : Int32)), rv b104, rv b128] [(.int 1)]
      refine OGo.st (fun _ kz => XS.goto X170.here hx rfl (pc0 := 159) (pc' := 163) rfl (hb hby at_159) (by decide) (by decide) kz) ?_
      show OG p e below Φ T170 m 163 #[iv xp, iv xn, iv xs, iv xl, iv xpc, iv xr, iv pa, iv nu, rv b81, rv sx94, iv (if (pa ||| nu) = 0 then (1 : Int32) else (0 : Int32)), rv b104, rv b128] [(.int 1)]
      refine OGo.finW X170 hlk hS e170 hkk (v := (some (.int 1))) (fun h => by rw [hret] at h; cases h) (by decide) (by decide) hZ (own_EW hw) hC (fun fs hr => X170.ireturnOut hx hret rfl (by simp) (hb hby at_163) hr) fun U eU hc hF => hΦ _ _ _ ?_ hc hF
      rw [eU]
      show Q_rm0 Z xp xn xs xl xpc xr qc h0 n0 _ _ _
      exact ⟨rfl, N170⟩
    · refine OGo.st (fun _ kz => XS.icmpYes X168.here hx rfl (pc0 := 145) (pc' := 162) rfl (hb hby at_145) rfl (XT.ii_ne_t hc169) (by decide) (by decide) kz) ?_
      show OG p e below Φ T168 m 162 #[iv xp, iv xn, iv xs, iv xl, iv xpc, iv xr, iv pa, iv nu, rv b81, rv sx94, iv (if (pa ||| nu) = 0 then (1 : Int32) else (0 : Int32)), rv b104, rv b128] []
      refine OGo.st (fun _ kz => XS.iconst X168.here hx rfl (hb hby at_162) kz) ?_
      show OG p e below Φ T168 m 163 #[iv xp, iv xn, iv xs, iv xl, iv xpc, iv xr, iv pa, iv nu, rv b81, rv sx94, iv (if (pa ||| nu) = 0 then (1 : Int32) else (0 : Int32)), rv b104, rv b128] [(.int 0)]
      exact absurd (own_same _ _) hc169

set_option maxRecDepth 65536 in
set_option maxHeartbeats 40000000 in
theorem comes_1 {Post : Tables → Env → Array Value → State → Outcome → State → Prop} (hpost : ∀ tb e args s v u, (limb_1_1.after args s (.returned v) u = true ∧ limb_1_2.after args s (.returned v) u = true ∧ True) → FramedW s (.returned v) u (Jvm.fieldLocs frame_1_writes args s ++ Jvm.arrayLocs frame_1_arrays args s ++ Jvm.staticLocs frame_1_statics s) 24 1152 → Post tb e args s (.returned v) u) :
    ArmFor flags0 classFile x code maxLocals ret World_1 tables_1 room_1 Calls_1 rest_1 Pre_1 Post := by
  intro l hfl _ _ p e ha hc hk s m args below hf hA hF happ hP
  obtain ⟨hcalls, hrest, hpre⟩ := hP
  obtain ⟨-, -, -, hnamed, -, -, -, hat⟩ := (Spec.applies_iff hf).mp happ
  obtain ⟨hg, hn⟩ := and_e (Cond.before_iff.mp (show (Jvm.Cond.and given_1 narrow_1).before args s = true from hpre))
  obtain ⟨g0, r0⟩ := and_e hg
  obtain ⟨k0, r1⟩ := and_e r0
  obtain ⟨k1, r2⟩ := and_e r1
  obtain ⟨k2, r3⟩ := and_e r2
  obtain ⟨k3, r4⟩ := and_e r3
  obtain ⟨k4, r5⟩ := and_e r4
  have k5 := r5
  obtain ⟨w0, w1, w2, w3, w4, w5, rfl⟩ : ∃ w0 w1 w2 w3 w4 w5 : Value, args = #[w0, w1, w2, w3, w4, w5] := by
    have hs : args.size = 6 := by simpa [Cond.value, given_1] using g0
    obtain ⟨L⟩ := args
    match L, hs with
    | [w0, w1, w2, w3, w4, w5], _ => exact ⟨w0, w1, w2, w3, w4, w5, rfl⟩
  have hw := fun d (hd : d ∈ tables_1) => atoms_spec (ws := Jvm.Cond.code x code maxLocals ret :: tables_1) hat d (List.mem_cons_of_mem _ hd)
  have hfit : Fit s := fun {y c} hc i hi => by
    obtain ⟨ha, rfl⟩ := Array.getElem?_eq_some_iff.mp hc
    have q := List.all_eq_true.mp ((Array.all_eq_true_iff_forall_mem.mp hF) _ (Array.getElem_mem ha)) i (List.mem_range.mpr hi)
    simpa [Array.getElem?_eq_getElem hi] using q
  obtain ⟨i0, ei0⟩ := is_v k0
  obtain rfl : w0 = (.int i0) := Option.some.inj ei0
  obtain ⟨i1, ei1⟩ := is_v k1
  obtain rfl : w1 = (.int i1) := Option.some.inj ei1
  obtain ⟨i2, ei2⟩ := is_v k2
  obtain rfl : w2 = (.int i2) := Option.some.inj ei2
  obtain ⟨i3, ei3⟩ := is_v k3
  obtain rfl : w3 = (.int i3) := Option.some.inj ei3
  obtain ⟨i4, ei4⟩ := is_v k4
  obtain rfl : w4 = (.int i4) := Option.some.inj ei4
  obtain ⟨i5, ei5⟩ := is_v k5
  obtain rfl : w5 = (.int i5) := Option.some.inj ei5
  have hrc : rest_1_c.before _ s = true := hrest
  rw [rest_1_c_eq] at hrc
  have hsets := (atoms_of jdkStatics_1 hrc).1
  obtain ⟨qc, v_q⟩ := is_v (Cond.before_iff.mp (hsets _ (List.mem_of_getElem? (i := 1) rfl)))
  have S_cs := Sta.start v_q (Or.inl (hsets _ (List.mem_of_getElem? (i := 0) rfl)))
  have hq : ¬ qc = 0 := fun z => by have u := not_v (Cond.before_iff.mp (hsets _ (List.mem_of_getElem? (i := 2) rfl))); rw [eq_i v_q (Term.int_eval 0) (by rw [z])] at u; cases u
  obtain ⟨n, o, h1, h2, h3, _, L, rfl, ⟨rfl, N⟩, -, hq⟩ := rm0 l s _ hw tables_1 i0 i1 i2 i3 i4 i5 qc s.heap s.heap.size (Nat.le_refl _) (Old.start s) S_cs hq p e ha hc hk s m _ below hf ((Spec.applies_iff_loose hf).mp happ).1 ⟨rfl, State.Warmed39.refl s, rfl, CHv.start (own_EW hw) (fun p hp => hcalls.1 p hp) (hsets _ (List.mem_of_getElem? (i := 2) rfl)) (ow14 hw) (ow10 hw), fun _ hx => nomatch hx⟩ trivial
  refine ⟨n, _, h1, h2, h3, hpost _ _ _ _ _ _ ⟨Cond.after_iff.mpr rfl, Cond.after_iff.mpr (eq_i res_at (Term.int_eval (1)) rfl), trivial⟩ ⟨hq.1, hq.2.1, hq.2.2.1, (hq.2.2.2.sift fun y hy => Or.inr (N y hy)).mono (by decide) (by decide)⟩⟩
theorem main_1_1 : Claimed_1_1 := comes_1 fun _ _ _ _ _ _ h hF => ⟨h.1, hF⟩
theorem main_1_2 : Claimed_1_2 := comes_1 fun _ _ _ _ _ _ h hF => ⟨h.2.1, hF⟩
end Jvm.Pilot.@@N@@
namespace Jvm.Pilot.@@N@@
open Jvm Jvm.ClassFile Sem Op Lib Jvm.Free Jvm.Stand Jvm.Pilot.@@N@@.Jvm.D
/-! MADE BY PROGRAM (witnessworld.py) out of the Statement's table words and the real class files: 20 classes; the members and pool entries that the words name. The judged class is class 1, her method 1. -/
namespace start1
open Jvm.ClassFile
def u (s : String) : CpInfo := .utf8 (stringToUtf16 s)
/-- a pool by its gaps: so many unusable entries, then the entry; so many at the end -/
def gap : Nat → List CpInfo → List CpInfo
  | 0, r => r
  | n + 1, r => .unusable :: gap n r
def poolList (es : List (Nat × CpInfo)) (last : Nat) : List CpInfo := es.foldr (fun e r => gap e.1 (e.2 :: r)) (gap last [])
def pool (es : List (Nat × CpInfo)) (last : Nat) : Array CpInfo := ⟨poolList es last⟩
def fileOf (pool : Array CpInfo) (this : Nat) (attrs : Array Attribute := #[]) (ms : Array MethodInfo := #[]) (fl : Nat := 33) (sup : Nat := 0) (ifs : Array Nat := #[]) (fds : Array FieldInfo := #[]) : ClassFile where
  minorVersion := 0
  majorVersion := 65
  constantPool := pool
  accessFlags := fl
  thisClass := this
  superClass := sup
  interfaces := ifs
  fields := fds
  methods := ms
  attributes := attrs
def plain (name : String) (sup : Option ClassId) : Class where
  name := name
  kind := .ordinary
  loader := none
  accessFlags := 33
  super := sup
  interfaces := #[]
  cf := none
  fields := #[]
  methods := #[]
  instanceTypes := #[]
  staticTypes := #[]
  resolved := #[]
  callSites := []
  init := .initialized
  statics := none
  mirror := none

def pool0 : Array CpInfo := pool [(5, u "<init>"), (0, u "()V"), (1, .class_ 10), (1, u "java/lang/Object")] 113

def k0c0 : Code := { maxStack := 0, maxLocals := 1, code := object_method_1_code, exceptionTable := #[], attributes := #[] }
def k0m0 : Method := { name := "<init>", desc := "()V", sig := { parameters := [], returnType := none }, accessFlags := 1, code := some k0c0 }
/-- java/lang/Object -/
def k0 : Class := { plain "java/lang/Object" none with
  accessFlags := 33
  interfaces := #[]
  cf := some (fileOf pool0 8 #[] #[{ accessFlags := 1, nameIndex := 5, descriptorIndex := 6, attributes := #[] }] 33 0 #[] #[])
  fields := #[]
  methods := #[k0m0]
  instanceTypes := #[]
  staticTypes := #[]
  resolved := Array.replicate 124 none
  statics := none }

def pool1 : Array CpInfo := pool [(2, .class_ 4), (1, u "java/lang/Object"), (0, u "<init>"), (0, u "()V"), (0, .class_ 8), (0, u "java/lang/String"), (0, .methodref 7 10), (0, .nameAndType 5 11), (0, u "([C)V"), (0, .methodref 7 13), (0, .nameAndType 14 15), (0, u "valueOf"), (0, u "(C)Ljava/lang/String;"), (0, .class_ 17), (0, u "com/example/bindery/bindery/model/Structure"), (0, .methodref 16 19), (0, .nameAndType 5 20), (0, u "(IILjava/lang/String;IIII)V"), (0, .methodref 16 22), (0, .nameAndType 23 24), (0, u "isRoot"), (0, u "()Z"), (0, .class_ 26), (0, u "com/example/bindery/bindery/model/StructureIsRootPinLaw"), (2, u "law"), (0, u "(IIIIII)Z")] 3

def k1m0 : Method := { name := "<init>", desc := "()V", sig := { parameters := [], returnType := none }, accessFlags := 1, code := none }
def k1c1 : Code := { maxStack := 10, maxLocals := 13, code := code, exceptionTable := #[], attributes := #[] }
def k1m1 : Method := { name := "law", desc := "(IIIIII)Z", sig := { parameters := [.int, .int, .int, .int, .int, .int], returnType := some .boolean }, accessFlags := 9, code := some k1c1 }
/-- com/example/bindery/bindery/model/StructureIsRootPinLaw -/
def k1 : Class := { plain "com/example/bindery/bindery/model/StructureIsRootPinLaw" (some 0) with
  accessFlags := 49
  interfaces := #[]
  cf := some (fileOf pool1 25 #[] #[{ accessFlags := 1, nameIndex := 5, descriptorIndex := 6, attributes := #[] }, { accessFlags := 9, nameIndex := 29, descriptorIndex := 30, attributes := #[] }] 49 2 #[] #[])
  fields := #[]
  methods := #[k1m0, k1m1]
  instanceTypes := #[]
  staticTypes := #[]
  resolved := Array.replicate 34 none
  statics := none }

def pool2 : Array CpInfo := pool [(1, .class_ 2), (0, u "java/io/Serializable"), (0, .class_ 4), (0, u "java/lang/Object")] 2

/-- java/io/Serializable -/
def k2 : Class := { plain "java/io/Serializable" (some 0) with
  accessFlags := 1537
  interfaces := #[]
  cf := some (fileOf pool2 1 #[] #[] 1537 3 #[] #[])
  fields := #[]
  methods := #[]
  instanceTypes := #[]
  staticTypes := #[]
  resolved := Array.replicate 7 none
  statics := none }

def pool3 : Array CpInfo := pool [(1, .class_ 2), (0, u "java/lang/Comparable"), (0, .class_ 4), (0, u "java/lang/Object")] 7

/-- java/lang/Comparable -/
def k3 : Class := { plain "java/lang/Comparable" (some 0) with
  accessFlags := 1537
  interfaces := #[]
  cf := some (fileOf pool3 1 #[] #[] 1537 3 #[] #[])
  fields := #[]
  methods := #[]
  instanceTypes := #[]
  staticTypes := #[]
  resolved := Array.replicate 12 none
  statics := none }

def pool4 : Array CpInfo := pool [(2, .class_ 4), (1, u "java/lang/CharSequence"), (42, .class_ 48), (0, u "java/lang/CharSequence$1CodePointIterator"), (10, .class_ 60), (0, u "java/lang/CharSequence$1CharIterator"), (5, .class_ 67), (0, u "java/lang/Object")] 63

/-- java/lang/CharSequence -/
def k4 : Class := { plain "java/lang/CharSequence" (some 0) with
  accessFlags := 1537
  interfaces := #[]
  cf := some (fileOf pool4 2 #[.nestMembers #[47, 59]] #[] 1537 66 #[] #[])
  fields := #[]
  methods := #[]
  instanceTypes := #[]
  staticTypes := #[]
  resolved := Array.replicate 131 none
  statics := none }

def pool5 : Array CpInfo := pool [(1, .class_ 2), (0, u "java/lang/constant/Constable"), (0, .class_ 4), (0, u "java/lang/Object")] 6

/-- java/lang/constant/Constable -/
def k5 : Class := { plain "java/lang/constant/Constable" (some 0) with
  accessFlags := 1537
  interfaces := #[]
  cf := some (fileOf pool5 1 #[] #[] 1537 3 #[] #[])
  fields := #[]
  methods := #[]
  instanceTypes := #[]
  staticTypes := #[]
  resolved := Array.replicate 11 none
  statics := none }

def pool6 : Array CpInfo := pool [(1, .class_ 2), (0, u "java/lang/constant/ConstantDesc"), (0, .class_ 4), (0, u "java/lang/Object")] 32

/-- java/lang/constant/ConstantDesc -/
def k6 : Class := { plain "java/lang/constant/ConstantDesc" (some 0) with
  accessFlags := 1537
  interfaces := #[]
  cf := some (fileOf pool6 1 #[] #[] 1537 3 #[] #[])
  fields := #[]
  methods := #[]
  instanceTypes := #[]
  staticTypes := #[]
  resolved := Array.replicate 37 none
  statics := none }

def pool7 : Array CpInfo := pool [(1, .methodref 2 3), (0, .class_ 4), (0, .nameAndType 5 6), (0, u "java/lang/Object"), (0, u "<init>"), (0, u "()V"), (0, .string 8), (0, u ""), (0, .fieldref 10 11), (0, .class_ 12), (0, .nameAndType 13 14), (0, u "java/lang/String"), (0, u "value"), (0, u "[B"), (0, .fieldref 10 16), (0, .nameAndType 17 18), (0, u "coder"), (0, u "B"), (2, u "hash"), (0, u "I"), (2, u "hashIsZero"), (0, u "Z"), (0, .methodref 10 28), (0, .nameAndType 5 29), (0, u "([CIILjava/lang/Void;)V"), (8, .fieldref 10 39), (0, .nameAndType 40 26), (0, u "COMPACT_STRINGS"), (12, u "toBytes"), (53, .class_ 109), (1, u "java/lang/StringLatin1"), (99, .methodref 10 210), (0, .nameAndType 5 211), (0, u "([BB)V"), (157, u "(C)Z"), (205, .class_ 576), (0, u "java/lang/CharSequence"), (22, u "CASE_INSENSITIVE_ORDER"), (0, u "Ljava/util/Comparator;"), (181, u "valueOf"), (0, u "(C)Ljava/lang/String;"), (226, u "([C)V"), (4, .methodref 107 1016), (0, .nameAndType 1017 369), (0, u "canEncode"), (0, .methodref 107 1019), (0, .nameAndType 53 1020), (0, u "(C)[B"), (80, u "serialPersistentFields"), (0, u "[Ljava/io/ObjectStreamField;"), (0, .class_ 1104), (0, u "java/lang/String$CaseInsensitiveComparator"), (1, .class_ 1107), (0, u "java/io/Serializable"), (0, .class_ 1109), (0, u "java/lang/Comparable"), (0, .class_ 1111), (0, u "java/lang/constant/Constable"), (0, .class_ 1113), (0, u "java/lang/constant/ConstantDesc"), (2, u "serialVersionUID"), (0, u "J"), (3, u "REPL"), (0, u "C"), (2, u "LATIN1"), (1, u "UTF16")] 323

def k7m0 : Method := { name := "<init>", desc := "()V", sig := { parameters := [], returnType := none }, accessFlags := 1, code := none }
def k7c1 : Code := { maxStack := 5, maxLocals := 2, code := jdk_42_method_3_code, exceptionTable := #[], attributes := #[] }
def k7m1 : Method := { name := "<init>", desc := "([C)V", sig := { parameters := [(.array .char)], returnType := none }, accessFlags := 1, code := some k7c1 }
def k7c2 : Code := { maxStack := 4, maxLocals := 1, code := jdk_42_method_139_code, exceptionTable := #[], attributes := #[] }
def k7m2 : Method := { name := "valueOf", desc := "(C)Ljava/lang/String;", sig := { parameters := [.char], returnType := some (.object "java/lang/String") }, accessFlags := 9, code := some k7c2 }
def k7c3 : Code := { maxStack := 4, maxLocals := 6, code := jdk_42_method_149_code, exceptionTable := #[], attributes := #[] }
def k7m3 : Method := { name := "<init>", desc := "([CIILjava/lang/Void;)V", sig := { parameters := [(.array .char), .int, .int, (.object "java/lang/Void")], returnType := none }, accessFlags := 2, code := some k7c3 }
def k7c4 : Code := { maxStack := 2, maxLocals := 3, code := jdk_42_method_151_code, exceptionTable := #[], attributes := #[] }
def k7m4 : Method := { name := "<init>", desc := "([BB)V", sig := { parameters := [(.array .byte), .byte], returnType := none }, accessFlags := 0, code := some k7c4 }
/-- java/lang/String -/
def k7 : Class := { plain "java/lang/String" (some 0) with
  accessFlags := 49
  interfaces := #[2, 3, 4, 5, 6]
  cf := some (fileOf pool7 10 #[.nestMembers #[1103]] #[{ accessFlags := 1, nameIndex := 5, descriptorIndex := 6, attributes := #[] }, { accessFlags := 1, nameIndex := 5, descriptorIndex := 1010, attributes := #[] }, { accessFlags := 9, nameIndex := 782, descriptorIndex := 783, attributes := #[] }, { accessFlags := 2, nameIndex := 5, descriptorIndex := 29, attributes := #[] }, { accessFlags := 0, nameIndex := 5, descriptorIndex := 211, attributes := #[] }] 49 2 #[1106, 1108, 575, 1110, 1112] #[{ accessFlags := 18, nameIndex := 13, descriptorIndex := 14, attributes := #[] }, { accessFlags := 18, nameIndex := 17, descriptorIndex := 18, attributes := #[] }, { accessFlags := 2, nameIndex := 21, descriptorIndex := 22, attributes := #[] }, { accessFlags := 2, nameIndex := 25, descriptorIndex := 26, attributes := #[] }, { accessFlags := 26, nameIndex := 1116, descriptorIndex := 1117, attributes := #[] }, { accessFlags := 24, nameIndex := 40, descriptorIndex := 26, attributes := #[] }, { accessFlags := 26, nameIndex := 1101, descriptorIndex := 1102, attributes := #[] }, { accessFlags := 26, nameIndex := 1121, descriptorIndex := 1122, attributes := #[] }, { accessFlags := 25, nameIndex := 599, descriptorIndex := 600, attributes := #[] }, { accessFlags := 24, nameIndex := 1125, descriptorIndex := 18, attributes := #[] }, { accessFlags := 24, nameIndex := 1127, descriptorIndex := 18, attributes := #[] }])
  fields := #[{ name := "value", type := (.array .byte), accessFlags := 18, slot := 0, constantValue := 0 }, { name := "coder", type := .byte, accessFlags := 18, slot := 1, constantValue := 0 }, { name := "hash", type := .int, accessFlags := 2, slot := 2, constantValue := 0 }, { name := "hashIsZero", type := .boolean, accessFlags := 2, slot := 3, constantValue := 0 }, { name := "serialVersionUID", type := .long, accessFlags := 26, slot := 0, constantValue := 0 }, { name := "COMPACT_STRINGS", type := .boolean, accessFlags := 24, slot := 1, constantValue := 0 }, { name := "serialPersistentFields", type := (.array (.object "java/io/ObjectStreamField")), accessFlags := 26, slot := 2, constantValue := 0 }, { name := "REPL", type := .char, accessFlags := 26, slot := 3, constantValue := 0 }, { name := "CASE_INSENSITIVE_ORDER", type := (.object "java/util/Comparator"), accessFlags := 25, slot := 4, constantValue := 0 }, { name := "LATIN1", type := .byte, accessFlags := 24, slot := 5, constantValue := 0 }, { name := "UTF16", type := .byte, accessFlags := 24, slot := 6, constantValue := 0 }]
  methods := #[k7m0, k7m1, k7m2, k7m3, k7m4]
  instanceTypes := #[(.array .byte), .byte, .int, .boolean]
  staticTypes := #[.long, .boolean, (.array (.object "java/io/ObjectStreamField")), .char, (.object "java/util/Comparator"), .byte, .byte]
  resolved := Array.replicate 1451 none
  statics := some 0 }

def pool8 : Array CpInfo := pool [(4, .class_ 6), (1, u "java/lang/Object"), (0, u "<init>"), (0, u "()V"), (5, .class_ 16), (1, u "java/lang/StringLatin1"), (73, u "canEncode"), (14, u "(C)Z"), (15, u "$assertionsDisabled"), (0, u "Z"), (98, .class_ 223), (1, u "java/lang/StringLatin1$LinesSpliterator"), (156, u "toBytes"), (1, u "(C)[B"), (7, .class_ 391), (0, u "java/lang/StringLatin1$CharsSpliterator")] 3

def k8m0 : Method := { name := "<init>", desc := "()V", sig := { parameters := [], returnType := none }, accessFlags := 0, code := none }
def k8c1 : Code := { maxStack := 2, maxLocals := 1, code := jdk_43_method_3_code, exceptionTable := #[], attributes := #[] }
def k8m1 : Method := { name := "canEncode", desc := "(C)Z", sig := { parameters := [.char], returnType := some .boolean }, accessFlags := 9, code := some k8c1 }
def k8c2 : Code := { maxStack := 4, maxLocals := 1, code := jdk_43_method_46_code, exceptionTable := #[], attributes := #[] }
def k8m2 : Method := { name := "toBytes", desc := "(C)[B", sig := { parameters := [.char], returnType := some (.array .byte) }, accessFlags := 9, code := some k8c2 }
/-- java/lang/StringLatin1 -/
def k8 : Class := { plain "java/lang/StringLatin1" (some 0) with
  accessFlags := 48
  interfaces := #[]
  cf := some (fileOf pool8 14 #[.nestMembers #[390, 221]] #[{ accessFlags := 0, nameIndex := 7, descriptorIndex := 8, attributes := #[] }, { accessFlags := 9, nameIndex := 90, descriptorIndex := 105, attributes := #[] }, { accessFlags := 9, nameIndex := 380, descriptorIndex := 382, attributes := #[] }] 48 4 #[] #[{ accessFlags := 4120, nameIndex := 121, descriptorIndex := 122, attributes := #[] }])
  fields := #[{ name := "$assertionsDisabled", type := .boolean, accessFlags := 4120, slot := 0, constantValue := 0 }]
  methods := #[k8m0, k8m1, k8m2]
  instanceTypes := #[]
  staticTypes := #[.boolean]
  resolved := Array.replicate 395 none
  statics := none }

def pool9 : Array CpInfo := pool [(1, .methodref 2 3), (0, .class_ 4), (0, .nameAndType 5 6), (0, u "java/lang/Object"), (0, u "<init>"), (0, u "()V"), (0, .class_ 8), (0, u "java/lang/Record")] 13

def k9c0 : Code := { maxStack := 1, maxLocals := 1, code := jdk_30_method_1_code, exceptionTable := #[], attributes := #[] }
def k9m0 : Method := { name := "<init>", desc := "()V", sig := { parameters := [], returnType := none }, accessFlags := 4, code := some k9c0 }
/-- java/lang/Record -/
def k9 : Class := { plain "java/lang/Record" (some 0) with
  accessFlags := 1057
  interfaces := #[]
  cf := some (fileOf pool9 7 #[] #[{ accessFlags := 4, nameIndex := 5, descriptorIndex := 6, attributes := #[] }] 1057 2 #[] #[])
  fields := #[]
  methods := #[k9m0]
  instanceTypes := #[]
  staticTypes := #[]
  resolved := Array.replicate 22 none
  statics := none }

def pool10 : Array CpInfo := pool [(1, .methodref 2 3), (0, .class_ 4), (0, .nameAndType 5 6), (0, u "java/lang/Record"), (0, u "<init>"), (0, u "()V"), (0, .fieldref 8 9), (0, .class_ 10), (0, .nameAndType 11 12), (0, u "com/example/bindery/bindery/model/Structure"), (0, u "parent"), (0, u "I"), (0, .fieldref 8 14), (0, .nameAndType 15 12), (0, u "sequence"), (0, .fieldref 8 17), (0, .nameAndType 18 19), (0, u "label"), (0, u "Ljava/lang/String;"), (0, .fieldref 8 21), (0, .nameAndType 22 12), (0, u "number"), (0, .fieldref 8 24), (0, .nameAndType 25 12), (0, u "logicalChildren"), (0, .fieldref 8 27), (0, .nameAndType 28 12), (0, u "physicalChildren"), (0, .fieldref 8 30), (0, .nameAndType 31 12), (0, u "references"), (5, u "()Z"), (16, u "(IILjava/lang/String;IIII)V"), (3, u "isRoot")] 39

def k10c0 : Code := { maxStack := 2, maxLocals := 8, code := prog_67_method_1_code, exceptionTable := #[], attributes := #[] }
def k10m0 : Method := { name := "<init>", desc := "(IILjava/lang/String;IIII)V", sig := { parameters := [.int, .int, (.object "java/lang/String"), .int, .int, .int, .int], returnType := none }, accessFlags := 1, code := some k10c0 }
def k10c1 : Code := { maxStack := 1, maxLocals := 1, code := prog_67_method_2_code, exceptionTable := #[], attributes := #[] }
def k10m1 : Method := { name := "isRoot", desc := "()Z", sig := { parameters := [], returnType := some .boolean }, accessFlags := 1, code := some k10c1 }
/-- com/example/bindery/bindery/model/Structure -/
def k10 : Class := { plain "com/example/bindery/bindery/model/Structure" (some 9) with
  accessFlags := 49
  interfaces := #[]
  cf := some (fileOf pool10 8 #[] #[{ accessFlags := 1, nameIndex := 5, descriptorIndex := 54, attributes := #[] }, { accessFlags := 1, nameIndex := 58, descriptorIndex := 37, attributes := #[] }] 49 2 #[] #[{ accessFlags := 18, nameIndex := 11, descriptorIndex := 12, attributes := #[] }, { accessFlags := 18, nameIndex := 15, descriptorIndex := 12, attributes := #[] }, { accessFlags := 18, nameIndex := 18, descriptorIndex := 19, attributes := #[] }, { accessFlags := 18, nameIndex := 22, descriptorIndex := 12, attributes := #[] }, { accessFlags := 18, nameIndex := 25, descriptorIndex := 12, attributes := #[] }, { accessFlags := 18, nameIndex := 28, descriptorIndex := 12, attributes := #[] }, { accessFlags := 18, nameIndex := 31, descriptorIndex := 12, attributes := #[] }])
  fields := #[{ name := "parent", type := .int, accessFlags := 18, slot := 0, constantValue := 0 }, { name := "sequence", type := .int, accessFlags := 18, slot := 1, constantValue := 0 }, { name := "label", type := (.object "java/lang/String"), accessFlags := 18, slot := 2, constantValue := 0 }, { name := "number", type := .int, accessFlags := 18, slot := 3, constantValue := 0 }, { name := "logicalChildren", type := .int, accessFlags := 18, slot := 4, constantValue := 0 }, { name := "physicalChildren", type := .int, accessFlags := 18, slot := 5, constantValue := 0 }, { name := "references", type := .int, accessFlags := 18, slot := 6, constantValue := 0 }]
  methods := #[k10m0, k10m1]
  instanceTypes := #[.int, .int, (.object "java/lang/String"), .int, .int, .int, .int]
  staticTypes := #[]
  resolved := Array.replicate 98 none
  statics := none }

def pool11 : Array CpInfo := pool [(2, .class_ 4), (1, u "java/lang/Object"), (0, u "<init>"), (0, u "()V"), (17, .class_ 26), (1, u "jdk/internal/util/Preconditions"), (28, .class_ 56), (0, u "jdk/internal/util/Preconditions$4"), (57, .class_ 115), (0, u "jdk/internal/util/Preconditions$1"), (7, u "SIOOBE_FORMATTER"), (0, u "Ljava/util/function/BiFunction;"), (0, .class_ 126), (0, u "jdk/internal/util/Preconditions$2"), (3, u "AIOOBE_FORMATTER"), (0, .class_ 132), (0, u "jdk/internal/util/Preconditions$3"), (3, u "IOOBE_FORMATTER")] 57

def k11m0 : Method := { name := "<init>", desc := "()V", sig := { parameters := [], returnType := none }, accessFlags := 1, code := none }
/-- jdk/internal/util/Preconditions -/
def k11 : Class := { plain "jdk/internal/util/Preconditions" (some 0) with
  accessFlags := 33
  interfaces := #[]
  cf := some (fileOf pool11 24 #[.nestMembers #[55, 131, 125, 114]] #[{ accessFlags := 1, nameIndex := 5, descriptorIndex := 6, attributes := #[] }] 33 2 #[] #[{ accessFlags := 25, nameIndex := 123, descriptorIndex := 124, attributes := #[] }, { accessFlags := 25, nameIndex := 130, descriptorIndex := 124, attributes := #[] }, { accessFlags := 25, nameIndex := 136, descriptorIndex := 124, attributes := #[] }])
  fields := #[{ name := "SIOOBE_FORMATTER", type := (.object "java/util/function/BiFunction"), accessFlags := 25, slot := 0, constantValue := 0 }, { name := "AIOOBE_FORMATTER", type := (.object "java/util/function/BiFunction"), accessFlags := 25, slot := 1, constantValue := 0 }, { name := "IOOBE_FORMATTER", type := (.object "java/util/function/BiFunction"), accessFlags := 25, slot := 2, constantValue := 0 }]
  methods := #[k11m0]
  instanceTypes := #[]
  staticTypes := #[(.object "java/util/function/BiFunction"), (.object "java/util/function/BiFunction"), (.object "java/util/function/BiFunction")]
  resolved := Array.replicate 194 none
  statics := some 1 }

def pool12 : Array CpInfo := pool [(9, u "<init>"), (6, .class_ 18), (1, u "java/lang/Object"), (0, u "()V"), (1, .class_ 23), (1, u "jdk/internal/util/ArraysSupport"), (0, u "LOG2_ARRAY_LONG_INDEX_SCALE"), (0, u "I"), (2, u "U"), (0, u "Ljdk/internal/misc/Unsafe;"), (8, u "BIG_ENDIAN"), (0, u "Z"), (8, u "LOG2_BYTE_BIT_SIZE"), (4, u "LOG2_ARRAY_INT_INDEX_SCALE"), (54, u "JLA"), (0, u "Ljdk/internal/access/JavaLangAccess;"), (11, u "LOG2_ARRAY_BOOLEAN_INDEX_SCALE"), (9, u "LOG2_ARRAY_BYTE_INDEX_SCALE"), (5, u "LOG2_ARRAY_CHAR_INDEX_SCALE"), (5, u "LOG2_ARRAY_SHORT_INDEX_SCALE"), (18, u "LOG2_ARRAY_FLOAT_INDEX_SCALE"), (24, u "LOG2_ARRAY_DOUBLE_INDEX_SCALE"), (89, u "T_BOOLEAN"), (2, u "T_CHAR"), (1, u "T_FLOAT"), (1, u "T_DOUBLE"), (1, u "T_BYTE"), (1, u "T_SHORT"), (1, u "T_INT"), (1, u "T_LONG"), (1, u "SOFT_MAX_ARRAY_LENGTH")] 83

def k12m0 : Method := { name := "<init>", desc := "()V", sig := { parameters := [], returnType := none }, accessFlags := 2, code := none }
/-- jdk/internal/util/ArraysSupport -/
def k12 : Class := { plain "jdk/internal/util/ArraysSupport" (some 0) with
  accessFlags := 33
  interfaces := #[]
  cf := some (fileOf pool12 21 #[] #[{ accessFlags := 2, nameIndex := 9, descriptorIndex := 19, attributes := #[] }] 33 16 #[] #[{ accessFlags := 24, nameIndex := 28, descriptorIndex := 29, attributes := #[] }, { accessFlags := 26, nameIndex := 38, descriptorIndex := 39, attributes := #[] }, { accessFlags := 25, nameIndex := 121, descriptorIndex := 25, attributes := #[] }, { accessFlags := 25, nameIndex := 131, descriptorIndex := 25, attributes := #[] }, { accessFlags := 25, nameIndex := 137, descriptorIndex := 25, attributes := #[] }, { accessFlags := 25, nameIndex := 143, descriptorIndex := 25, attributes := #[] }, { accessFlags := 25, nameIndex := 53, descriptorIndex := 25, attributes := #[] }, { accessFlags := 25, nameIndex := 24, descriptorIndex := 25, attributes := #[] }, { accessFlags := 25, nameIndex := 162, descriptorIndex := 25, attributes := #[] }, { accessFlags := 25, nameIndex := 187, descriptorIndex := 25, attributes := #[] }, { accessFlags := 26, nameIndex := 48, descriptorIndex := 25, attributes := #[] }, { accessFlags := 25, nameIndex := 277, descriptorIndex := 25, attributes := #[] }, { accessFlags := 25, nameIndex := 280, descriptorIndex := 25, attributes := #[] }, { accessFlags := 25, nameIndex := 282, descriptorIndex := 25, attributes := #[] }, { accessFlags := 25, nameIndex := 284, descriptorIndex := 25, attributes := #[] }, { accessFlags := 25, nameIndex := 286, descriptorIndex := 25, attributes := #[] }, { accessFlags := 25, nameIndex := 288, descriptorIndex := 25, attributes := #[] }, { accessFlags := 25, nameIndex := 290, descriptorIndex := 25, attributes := #[] }, { accessFlags := 25, nameIndex := 292, descriptorIndex := 25, attributes := #[] }, { accessFlags := 26, nameIndex := 108, descriptorIndex := 109, attributes := #[] }, { accessFlags := 25, nameIndex := 294, descriptorIndex := 25, attributes := #[] }])
  fields := #[{ name := "U", type := (.object "jdk/internal/misc/Unsafe"), accessFlags := 24, slot := 0, constantValue := 0 }, { name := "BIG_ENDIAN", type := .boolean, accessFlags := 26, slot := 1, constantValue := 0 }, { name := "LOG2_ARRAY_BOOLEAN_INDEX_SCALE", type := .int, accessFlags := 25, slot := 2, constantValue := 0 }, { name := "LOG2_ARRAY_BYTE_INDEX_SCALE", type := .int, accessFlags := 25, slot := 3, constantValue := 0 }, { name := "LOG2_ARRAY_CHAR_INDEX_SCALE", type := .int, accessFlags := 25, slot := 4, constantValue := 0 }, { name := "LOG2_ARRAY_SHORT_INDEX_SCALE", type := .int, accessFlags := 25, slot := 5, constantValue := 0 }, { name := "LOG2_ARRAY_INT_INDEX_SCALE", type := .int, accessFlags := 25, slot := 6, constantValue := 0 }, { name := "LOG2_ARRAY_LONG_INDEX_SCALE", type := .int, accessFlags := 25, slot := 7, constantValue := 0 }, { name := "LOG2_ARRAY_FLOAT_INDEX_SCALE", type := .int, accessFlags := 25, slot := 8, constantValue := 0 }, { name := "LOG2_ARRAY_DOUBLE_INDEX_SCALE", type := .int, accessFlags := 25, slot := 9, constantValue := 0 }, { name := "LOG2_BYTE_BIT_SIZE", type := .int, accessFlags := 26, slot := 10, constantValue := 0 }, { name := "T_BOOLEAN", type := .int, accessFlags := 25, slot := 11, constantValue := 0 }, { name := "T_CHAR", type := .int, accessFlags := 25, slot := 12, constantValue := 0 }, { name := "T_FLOAT", type := .int, accessFlags := 25, slot := 13, constantValue := 0 }, { name := "T_DOUBLE", type := .int, accessFlags := 25, slot := 14, constantValue := 0 }, { name := "T_BYTE", type := .int, accessFlags := 25, slot := 15, constantValue := 0 }, { name := "T_SHORT", type := .int, accessFlags := 25, slot := 16, constantValue := 0 }, { name := "T_INT", type := .int, accessFlags := 25, slot := 17, constantValue := 0 }, { name := "T_LONG", type := .int, accessFlags := 25, slot := 18, constantValue := 0 }, { name := "JLA", type := (.object "jdk/internal/access/JavaLangAccess"), accessFlags := 26, slot := 19, constantValue := 0 }, { name := "SOFT_MAX_ARRAY_LENGTH", type := .int, accessFlags := 25, slot := 20, constantValue := 0 }]
  methods := #[k12m0]
  instanceTypes := #[]
  staticTypes := #[(.object "jdk/internal/misc/Unsafe"), .boolean, .int, .int, .int, .int, .int, .int, .int, .int, .int, .int, .int, .int, .int, .int, .int, .int, .int, (.object "jdk/internal/access/JavaLangAccess"), .int]
  resolved := Array.replicate 378 none
  statics := none }

def pool13 : Array CpInfo := pool [(1, u "java/lang/Cloneable"), (0, .class_ 1), (0, u "java/lang/Object"), (0, .class_ 3)] 3

/-- java/lang/Cloneable -/
def k13 : Class := { plain "java/lang/Cloneable" (some 0) with
  accessFlags := 1537
  interfaces := #[]
  cf := some (fileOf pool13 2 #[] #[] 1537 4 #[] #[])
  fields := #[]
  methods := #[]
  instanceTypes := #[]
  staticTypes := #[]
  resolved := Array.replicate 8 none
  statics := none }

/-- the primitive byte -/
def k14 : Class := { plain "byte" none with kind := .primitive 'B', accessFlags := 0x411 }
/-- [B -/
def k15 : Class := { plain "[B" (some 0) with kind := .array 14 .byte, interfaces := #[13, 2], accessFlags := 1041 }

/-- the primitive char -/
def k16 : Class := { plain "char" none with kind := .primitive 'C', accessFlags := 0x411 }
/-- [C -/
def k17 : Class := { plain "[C" (some 0) with kind := .array 16 .char, interfaces := #[13, 2], accessFlags := 1041 }

/-- the primitive int -/
def k18 : Class := { plain "int" none with kind := .primitive 'I', accessFlags := 0x411 }
/-- [I -/
def k19 : Class := { plain "[I" (some 0) with kind := .array 18 .int, interfaces := #[13, 2], accessFlags := 1041 }

def heap : Heap := #[{ cls := 7, slots := #[.long 0, .int 1, .null, .int 0, .null, .int 0, .int 0], vm := .statics 7 },
  { cls := 11, slots := #[.null, .null, .null], vm := .statics 11 }]
def classes : Array Class := #[k0, k1, k2, k3, k4, k5, k6, k7, k8, k9, k10, k11, k12, k13, k14, k15, k16, k17, k18, k19]
def interned : List (Array UInt16 × Addr) := []
def slotsUsed : Nat := 10
def theMethod : MethodId := ⟨1, 1⟩
def args0 : Array Value := #[.int 5, .int 5, .int 5, .int 5, .int 5, .int 5]
def aboutOver (below : List Frame) : State where
  vm := { classes := classes, interned := interned.toArray }
  heap := heap
  slotsUsed := slotsUsed
  threads := #[{ frames := .invoking theMethod args0 :: below }]
def below0 : List Frame := [.native { method := ⟨0, 0⟩, args := #[] }]
def about1 : State := aboutOver below0
def p0 : Program := .bare "" "" ""
def e0 : Env := launch0.env 0 0 0
theorem w_frames : about1.frames = Frame.invoking theMethod args0 :: below0 := rfl
set_option maxRecDepth 65536 in
theorem w_args : argsFit about1.vm theMethod args0 = true := by decide +kernel
set_option maxRecDepth 65536 in
theorem w_heap : heapFits about1 = true := by decide +kernel
set_option maxRecDepth 65536 in
theorem w_runnable : about1.curStatus? = some .runnable := by decide +kernel
set_option maxRecDepth 65536 in
theorem w_alone : about1.alone = true := by decide +kernel
set_option maxRecDepth 65536 in
theorem w_named : about1.methodNamed? x = some theMethod := by decide +kernel
set_option maxRecDepth 65536 in
theorem w_hears : about1.hears theMethod below0 = true := by decide +kernel
set_option maxRecDepth 65536 in
theorem w_ripe : about1.ripe theMethod args0 below0 = true := by decide +kernel
theorem w_running : about1.status = .running := rfl
set_option maxRecDepth 65536 in
theorem w_room : about1.hasRoom e0.platform room_1 = true :=
  launch0.hasRoom_least _ room_1 (by decide +kernel) (by decide +kernel) (by decide +kernel) (by decide +kernel) (by decide +kernel) (by decide +kernel)
theorem allAtoms_all (ts : List Jvm.Cond) (a : Array Jvm.Value) (st : Jvm.State) : (allAtoms ts).before a st = ts.all (fun c => c.before a st) := by
  induction ts with
  | nil => rfl
  | cons c t ih =>
    show (Jvm.Cond.and c (allAtoms t)).before a st = _
    rw [Jvm.Cond.before_and, ih, List.all_cons]
def words1 : List Jvm.Cond := Jvm.Cond.code x code maxLocals ret :: tables_1
/-- a 'code' word, met by the world's own term for the bytes: nothing is compared byte by byte -/
theorem code_word {y : MethodName} {bytes : ByteArray} {mx : Nat} {rt : Option FieldType} {a : Array Value} {s : State} {m : MethodId} {meth : Method} {c : Code} (h1 : s.methodNamed? y = some m) (h2 : s.vm.method? m = some meth) (h3 : meth.code = some c) (h4 : c.code = bytes)
    (h5 : (c.maxLocals == mx && c.exceptionTable.isEmpty && decide (c.maxStack ≤ mostOperands) && decide (meth.sig.returnType = rt) && !meth.locks && decide (parseMethodDescriptor y.desc = some meth.sig)) = true) : (Jvm.Cond.code y bytes mx rt).before a s = true := by
  simp only [Bool.and_eq_true, beq_iff_eq, Bool.not_eq_true', decide_eq_true_eq] at h5
  obtain ⟨⟨⟨⟨⟨g1, g2⟩, g3⟩, g4⟩, g5⟩, g6⟩ := h5
  simp [Cond.before, Cond.holds, Cond.value, h1, h2, h3, h4, g1, g2, g3, g4, g5, g6]
def isCode : Jvm.Cond → Bool
  | .code _ _ _ _ => true
  | _ => false
theorem all_split {L : List Jvm.Cond} {P : Jvm.Cond → Bool} (h1 : L.all (fun c => isCode c || P c) = true) (h2 : ∀ c ∈ L.filter isCode, P c = true) : L.all P = true := by
  refine List.all_eq_true.mpr fun c hc => ?_
  have h := List.all_eq_true.mp h1 c hc
  rcases Bool.eq_false_or_eq_true (isCode c) with hi | hi
  · exact h2 c (List.mem_filter.mpr ⟨hc, hi⟩)
  · simpa [hi] using h
set_option maxRecDepth 65536 in
theorem w_c0 : (Jvm.Cond.code x code maxLocals ret).before args0 about1 = true := code_word (m := ⟨1, 1⟩) (meth := k1m1) (c := k1c1) (by decide +kernel) rfl rfl rfl (by decide +kernel)
set_option maxRecDepth 65536 in
theorem w_c1 : (Jvm.Cond.code ({ cls := "java/lang/String", name := "valueOf", desc := "(C)Ljava/lang/String;" } : Jvm.MethodName) jdk_42_method_139_code (1 : Nat) (Option.some (Jvm.ClassFile.FieldType.object "java/lang/String"))).before args0 about1 = true := code_word (m := ⟨7, 2⟩) (meth := k7m2) (c := k7c2) (by decide +kernel) rfl rfl rfl (by decide +kernel)
set_option maxRecDepth 65536 in
theorem w_c2 : (Jvm.Cond.code ({ cls := "java/lang/StringLatin1", name := "canEncode", desc := "(C)Z" } : Jvm.MethodName) jdk_43_method_3_code (1 : Nat) (Option.some Jvm.ClassFile.FieldType.boolean)).before args0 about1 = true := code_word (m := ⟨8, 1⟩) (meth := k8m1) (c := k8c1) (by decide +kernel) rfl rfl rfl (by decide +kernel)
set_option maxRecDepth 65536 in
theorem w_c3 : (Jvm.Cond.code ({ cls := "java/lang/StringLatin1", name := "toBytes", desc := "(C)[B" } : Jvm.MethodName) jdk_43_method_46_code (1 : Nat) (Option.some (Jvm.ClassFile.FieldType.array Jvm.ClassFile.FieldType.byte))).before args0 about1 = true := code_word (m := ⟨8, 2⟩) (meth := k8m2) (c := k8c2) (by decide +kernel) rfl rfl rfl (by decide +kernel)
set_option maxRecDepth 65536 in
theorem w_c4 : (Jvm.Cond.code ({ cls := "java/lang/String", name := "<init>", desc := "([BB)V" } : Jvm.MethodName) jdk_42_method_151_code (3 : Nat) (Option.none : Option Jvm.ClassFile.FieldType)).before args0 about1 = true := code_word (m := ⟨7, 4⟩) (meth := k7m4) (c := k7c4) (by decide +kernel) rfl rfl rfl (by decide +kernel)
set_option maxRecDepth 65536 in
theorem w_c5 : (Jvm.Cond.code ({ cls := "java/lang/Object", name := "<init>", desc := "()V" } : Jvm.MethodName) object_method_1_code (1 : Nat) (Option.none : Option Jvm.ClassFile.FieldType)).before args0 about1 = true := code_word (m := ⟨0, 0⟩) (meth := k0m0) (c := k0c0) (by decide +kernel) rfl rfl rfl (by decide +kernel)
set_option maxRecDepth 65536 in
theorem w_c6 : (Jvm.Cond.code ({ cls := "com/example/bindery/bindery/model/Structure", name := "<init>", desc := "(IILjava/lang/String;IIII)V" } : Jvm.MethodName) prog_67_method_1_code (8 : Nat) (Option.none : Option Jvm.ClassFile.FieldType)).before args0 about1 = true := code_word (m := ⟨10, 0⟩) (meth := k10m0) (c := k10c0) (by decide +kernel) rfl rfl rfl (by decide +kernel)
set_option maxRecDepth 65536 in
theorem w_c7 : (Jvm.Cond.code ({ cls := "java/lang/Record", name := "<init>", desc := "()V" } : Jvm.MethodName) jdk_30_method_1_code (1 : Nat) (Option.none : Option Jvm.ClassFile.FieldType)).before args0 about1 = true := code_word (m := ⟨9, 0⟩) (meth := k9m0) (c := k9c0) (by decide +kernel) rfl rfl rfl (by decide +kernel)
set_option maxRecDepth 65536 in
theorem w_c8 : (Jvm.Cond.code ({ cls := "com/example/bindery/bindery/model/Structure", name := "isRoot", desc := "()Z" } : Jvm.MethodName) prog_67_method_2_code (1 : Nat) (Option.some Jvm.ClassFile.FieldType.boolean)).before args0 about1 = true := code_word (m := ⟨10, 1⟩) (meth := k10m1) (c := k10c1) (by decide +kernel) rfl rfl rfl (by decide +kernel)
set_option maxRecDepth 65536 in
theorem w_c9 : (Jvm.Cond.code ({ cls := "java/lang/String", name := "<init>", desc := "([C)V" } : Jvm.MethodName) jdk_42_method_3_code (2 : Nat) (Option.none : Option Jvm.ClassFile.FieldType)).before args0 about1 = true := code_word (m := ⟨7, 1⟩) (meth := k7m1) (c := k7c1) (by decide +kernel) rfl rfl rfl (by decide +kernel)
set_option maxRecDepth 65536 in
theorem w_c10 : (Jvm.Cond.code ({ cls := "java/lang/String", name := "<init>", desc := "([CIILjava/lang/Void;)V" } : Jvm.MethodName) jdk_42_method_149_code (6 : Nat) (Option.none : Option Jvm.ClassFile.FieldType)).before args0 about1 = true := code_word (m := ⟨7, 3⟩) (meth := k7m3) (c := k7c3) (by decide +kernel) rfl rfl rfl (by decide +kernel)
def codes1 : List Jvm.Cond := [Jvm.Cond.code x code maxLocals ret, Jvm.Cond.code ({ cls := "java/lang/String", name := "valueOf", desc := "(C)Ljava/lang/String;" } : Jvm.MethodName) jdk_42_method_139_code (1 : Nat) (Option.some (Jvm.ClassFile.FieldType.object "java/lang/String")), Jvm.Cond.code ({ cls := "java/lang/StringLatin1", name := "canEncode", desc := "(C)Z" } : Jvm.MethodName) jdk_43_method_3_code (1 : Nat) (Option.some Jvm.ClassFile.FieldType.boolean), Jvm.Cond.code ({ cls := "java/lang/StringLatin1", name := "toBytes", desc := "(C)[B" } : Jvm.MethodName) jdk_43_method_46_code (1 : Nat) (Option.some (Jvm.ClassFile.FieldType.array Jvm.ClassFile.FieldType.byte)), Jvm.Cond.code ({ cls := "java/lang/String", name := "<init>", desc := "([BB)V" } : Jvm.MethodName) jdk_42_method_151_code (3 : Nat) (Option.none : Option Jvm.ClassFile.FieldType), Jvm.Cond.code ({ cls := "java/lang/Object", name := "<init>", desc := "()V" } : Jvm.MethodName) object_method_1_code (1 : Nat) (Option.none : Option Jvm.ClassFile.FieldType), Jvm.Cond.code ({ cls := "com/example/bindery/bindery/model/Structure", name := "<init>", desc := "(IILjava/lang/String;IIII)V" } : Jvm.MethodName) prog_67_method_1_code (8 : Nat) (Option.none : Option Jvm.ClassFile.FieldType), Jvm.Cond.code ({ cls := "java/lang/Record", name := "<init>", desc := "()V" } : Jvm.MethodName) jdk_30_method_1_code (1 : Nat) (Option.none : Option Jvm.ClassFile.FieldType), Jvm.Cond.code ({ cls := "com/example/bindery/bindery/model/Structure", name := "isRoot", desc := "()Z" } : Jvm.MethodName) prog_67_method_2_code (1 : Nat) (Option.some Jvm.ClassFile.FieldType.boolean), Jvm.Cond.code ({ cls := "java/lang/String", name := "<init>", desc := "([C)V" } : Jvm.MethodName) jdk_42_method_3_code (2 : Nat) (Option.none : Option Jvm.ClassFile.FieldType), Jvm.Cond.code ({ cls := "java/lang/String", name := "<init>", desc := "([CIILjava/lang/Void;)V" } : Jvm.MethodName) jdk_42_method_149_code (6 : Nat) (Option.none : Option Jvm.ClassFile.FieldType)]
set_option maxRecDepth 65536 in
theorem codes_eq : words1.filter isCode = codes1 := rfl
theorem w_codes : ∀ c ∈ words1.filter isCode, c.before args0 about1 = true := by
  rw [codes_eq]
  intro c hc
  simp only [codes1, List.mem_cons, List.not_mem_nil, or_false] at hc
  rcases hc with rfl | rfl | rfl | rfl | rfl | rfl | rfl | rfl | rfl | rfl | rfl
  · exact w_c0
  · exact w_c1
  · exact w_c2
  · exact w_c3
  · exact w_c4
  · exact w_c5
  · exact w_c6
  · exact w_c7
  · exact w_c8
  · exact w_c9
  · exact w_c10
set_option maxRecDepth 65536 in
theorem w_t1 : (words1.take 24).all (fun c => isCode c || c.before args0 about1) = true := by decide +kernel
set_option maxRecDepth 65536 in
theorem w_t2 : ((words1.drop 24).take 24).all (fun c => isCode c || c.before args0 about1) = true := by decide +kernel
set_option maxRecDepth 65536 in
theorem w_t3 : ((words1.drop 24).drop 24).all (fun c => isCode c || c.before args0 about1) = true := by decide +kernel
theorem w_tables : (allAtoms (Jvm.Cond.code x code maxLocals ret :: tables_1)).before args0 about1 = true := by
  rw [allAtoms_all]
  show words1.all (fun c => c.before args0 about1) = true
  refine all_split ?_ w_codes
  rw [← List.take_append_drop 24 words1, List.all_append, w_t1, ← List.take_append_drop 24 (words1.drop 24), List.all_append, w_t2, w_t3]
  rfl
set_option maxRecDepth 65536 in
theorem w_rest : rest_1_c.before args0 about1 = true := by decide +kernel
set_option maxRecDepth 65536 in
theorem w_case : (Jvm.Cond.and given_1 narrow_1).before args0 about1 = true := by decide +kernel
set_option maxRecDepth 65536 in
theorem w_consts : constsHeld consts_1 about1 := Jvm.Lit.constsHeldB_iff.mp (by decide +kernel)
theorem w_applies : (headSpec (Jvm.Cond.code x code maxLocals ret :: tables_1) room_1).applies x e0.platform about1 = true :=
  (Spec.applies_iff w_frames).mpr ⟨w_running, w_runnable, w_alone, w_named, w_hears, w_ripe, w_room, w_tables⟩
theorem atStart : AtStart classFile x code maxLocals ret World_1 tables_1 room_1 Calls_1 rest_1 Pre_1 launch0 p0 e0 about1 theMethod args0 below0 :=
  ⟨lists_1, trivial, launch0.admits_env _ _ _, launch0.least_env, fairChoices_fair.cas, fairChoices_fair.clock, w_frames, w_args, w_heap, w_applies, ⟨w_consts, trivial⟩, w_rest, w_case⟩
end start1
theorem witness_1 : WitnessClaimed_1 := ⟨start1.p0, start1.e0, start1.about1, start1.theMethod, start1.args0, start1.below0, start1.atStart⟩
end Jvm.Pilot.@@N@@
