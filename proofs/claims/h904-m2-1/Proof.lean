import JvmDerived
import JvmDerived.Pilot.@@N@@Statement
import JvmDerived.Pilot.@@N@@Code
set_option linter.unusedVariables false
set_option linter.unusedSimpArgs false
namespace Jvm.Pilot.@@N@@
open Jvm Jvm.ClassFile Sem Op Lib Jvm.Free Jvm.Stand Jvm.LawKit Jvm.RoadKit Bundle Jvm.Pilot.@@N@@.Jvm.D
section Own
variable {p : Program} {l : Launch} {e : Env} {R : Room} {s : State} {m : MethodId} {args : Array Value} {below : List Frame} {meth : Method} {c : Code} {T : State} {locs : List Loc} {cells slots : Nat} {Z : State} {a0 : Array Value} {h : Heap} {Φ : Outcome → State → Prop}
/-- what is left of a walk: from S the invocation ends as Φ says -/
def OGo (tb : Tables) (e : Env) (below : List Frame) (Φ : Outcome → State → Prop) (S : State) : Prop := ∃ s₂ o, Steps tb e below S s₂ ∧ s₂.status = .running ∧ Ended s₂ below o ∧ Φ o s₂
abbrev OG (p : Program) (e : Env) (below : List Frame) (Φ : Outcome → State → Prop) (T : State) (m : MethodId) (pc : Nat) (ls : Array Slot) (st : List Value) : Prop := OGo p.tables e below Φ (T.setTop (mkF m pc ls st))
theorem OGo.st {tb : Tables} {S S' : State} (h : ∀ t, Steps tb e below S' t → Steps tb e below S t) (g : OGo tb e below Φ S') : OGo tb e below Φ S := by
  obtain ⟨s₂, o, h1, r⟩ := g
  exact ⟨s₂, o, h _ h1, r⟩
theorem oia {Z s : State} {cl : Cell} {ty : FieldType} (hZ : Z.Warmed39 s.vm) (q : Z.isArrayOf cl ty) : s.isArrayOf cl ty := State.isArrayOf_alike hZ.alike q
theorem os {tb : Tables} {e : Env} {below : List Frame} {Φ : Outcome → State → Prop} {S S' : State} (h : ∀ t, Steps tb e below S' t → Steps tb e below S t) (g : OGo tb e below Φ S') : OGo tb e below Φ S := OGo.st h g
theorem OGo.fin (X : Stand p l e R s m args below meth c T locs cells slots) (hlk : meth.locks = false) {v : Option Value} (hv : meth.sig.returnType = none → v = none) {g : JFrame} {k n : Nat} (hk : cells ≤ k) (hn : slots ≤ n)
    (st : ∀ fs, (∀ (f : JFrame) (acts : List Action), f.method = m → f.locked = none → f.entered = [] → (doReturn e (T.setTop f) acts v).1 = T.setFrames fs) → Steps p.tables e below (T.setTop g) (T.setFrames fs))
    (hq : ∀ U, U.heap = T.heap → FrameEnd s (.returned v) U locs k n → Φ (.returned v) U) : OGo p.tables e below Φ (T.setTop g) := by
  obtain ⟨fs, hr, hrun, hended, hW, hsame⟩ := X.leave (v := v) hv hlk
  exact ⟨_, _, st fs hr, hrun, hended, hq _ rfl ⟨⟨_, rfl⟩, hW, hsame.mono hk hn⟩⟩
/-- a contract: what every body's theorem says -/
abbrev OCon (l : Launch) (Z : State) (y : MethodName) (bytes : ByteArray) (maxL : Nat) (ret : Option FieldType) (ws : List Jvm.Cond) (rm : Room) (as' : Array Value) (h0 : Heap) (Q : Option Value → Heap → List Loc → Prop) : Prop :=
  MetFree l y (head1 (Jvm.Cond.code y bytes maxL ret :: ws) rm) (fun a U => a = as' ∧ Z.Warmed39 U.vm ∧ U.heap = h0) (fun _ _ _ _ _ => True) (fun _ U o U' => ∃ v L, o = .returned v ∧ Q v U'.heap L ∧ FrameEnd U o U' L rm.cells rm.slots)
theorem OCon.of {y : MethodName} {bytes : ByteArray} {maxL : Nat} {ret : Option FieldType} {ws : List Jvm.Cond} {rm : Room} {as' : Array Value} {h0 : Heap} {Q : Option Value → Heap → List Loc → Prop} (hpl : plainFor y = true)
    (H : ∀ (p : Program) (e : Env) (s : State) (m : MethodId) (below : List Frame) (meth : Method) (c : Code) (s₁ : State) (Φ : Outcome → State → Prop), Stand p l e rm s m as' below meth c s₁ [] 0 0 → p.tables.exec = Jvm.exec → c.code = bytes → c.maxLocals = maxL → s.vm.findClass y.cls = some m.cls → meth.name = y.name → meth.sig.returnType = ret → meth.locks = false → Z.Warmed39 s.vm → s₁.heap = h0 →
      (∀ v L U, Q v U.heap L → FrameEnd s (.returned v) U L rm.cells rm.slots → Φ (.returned v) U) → OGo p.tables e below Φ (s₁.setTop (entryFrame m as' maxL))) :
    OCon l Z y bytes maxL ret ws rm as' h0 Q := by
  refine MetFree.of_bodySF hpl hisR ?_
  intro p e s m args below meth c s₁ Bd hml0 hP hK
  obtain ⟨rfl, hZ, hh⟩ := hP
  have e0 : s₁.heap = h0 := by rw [← hh, Bd.state]; rfl
  exact H p e s m below meth c s₁ _ (Stand.of_body Bd) Bd.exec Bd.bytes hml0 (findClass_of_methodNamed Bd.named) (name_of_methodNamed Bd.named Bd.method).1 Bd.returns Bd.notSynchronized hZ e0 (fun v L U hq hf => ⟨v, L, rfl, hq, hf⟩)
theorem own_callSt (X : Stand p l e R s m args below meth c T locs cells slots) (hx : p.tables.exec = Jvm.exec) (hZ : Z.Warmed39 s.vm) {own : String} {index : Nat} {y : MethodName} {bytes : ByteArray} {maxL : Nat} {ret : Option FieldType} {rm : Room} {as' : Array Value} {Q : Option Value → Heap → List Loc → Prop}
    (hown : s.vm.findClass own = some m.cls) (w1 : (Jvm.Cond.methodLink own index y).before a0 Z = true) (w2 : (Jvm.Cond.static y).before a0 Z = true) (w3 : (Jvm.Cond.initialized y.cls).before a0 Z = true) (w4 : (Jvm.Cond.code y bytes maxL ret).before a0 Z = true) (hy : y.cls ≠ "java/lang/invoke/MethodHandle" ∧ y.cls ≠ "java/lang/invoke/VarHandle")
    (hM : OCon l Z y bytes maxL ret [] rm as' h Q) (eT : T.heap = h) {W : Nat} (hf : rm.frames + 1 ≤ R.frames) (hl : W + (maxL + 11) + rm.locals ≤ R.locals) (hcl : cells + rm.cells ≤ R.cells) (hsl : slots + rm.slots ≤ R.slots)
    {pc : Nat} {ls : Array Slot} {stk : List Value} (hsize : ls.size = c.maxLocals) {argsL rest : List Value} (hlen : ∀ sig, parseMethodDescriptor y.desc = some sig → argsL.length = sig.parameters.length) (has : argsL.toArray = as') (hstack : stk = argsL.reverse ++ rest) (hW : (rest.map fun v => v.category).sum ≤ W)
    (hd : decode c.code pc = .ok (.invokestatic index, 3)) :
    ∃ v T' L, Stand p l e R s m args below meth c T' (locs ++ L) (cells + rm.cells) (slots + rm.slots) ∧ Q v T'.heap L ∧ ∀ target, Steps p.tables e below (T'.setTop (mkF m (pc + 3) ls (v.toList ++ rest))) target → Steps p.tables e below (T.setTop (mkF m pc ls stk)) target := by
  subst has
  obtain ⟨v, vm₁, ⟨T', L', k', n'⟩, -, X', ⟨L, hQ, l1, y1, z1⟩, st⟩ := Jvm.LawKit.callS X hx (y := y) hown (mvT hZ w1) (mvT hZ w2) (mvT hZ w3) (mvT hZ w4) hy (backOf (W := W) hM hZ w4 w3 hf hl) (g := mkF m pc ls stk) rfl hsize (argsL := argsL) (rest := rest) hlen hstack (by simpa using hW) hd (fun _ _ => ⟨rfl, eT, hcl, hsl⟩)
  dsimp only [Pt.U, Pt.locs, Pt.cells, Pt.slots] at X' l1 y1 z1 st hQ
  subst l1 y1 z1
  exact ⟨v, T', L, X', hQ, st⟩
theorem own_callSp (X : Stand p l e R s m args below meth c T locs cells slots) (hx : p.tables.exec = Jvm.exec) (hZ : Z.Warmed39 s.vm) {own : String} {index : Nat} {y : MethodName} {bytes : ByteArray} {maxL : Nat} {rm : Room} {as' : Array Value} {Q : Option Value → Heap → List Loc → Prop}
    (hy1 : y.name = "<init>") (hown : s.vm.findClass own = some m.cls) (w1 : (Jvm.Cond.methodLink own index y).before a0 Z = true) (w2 : (Jvm.Cond.instanceMethod y).before a0 Z = true) (w3 : (Jvm.Cond.initialized y.cls).before a0 Z = true) (w4 : (Jvm.Cond.code y bytes maxL none).before a0 Z = true) (hy : y.cls ≠ "java/lang/invoke/MethodHandle" ∧ y.cls ≠ "java/lang/invoke/VarHandle")
    (hM : OCon l Z y bytes maxL none [] rm as' h Q) (eT : T.heap = h) {W : Nat} (hf : rm.frames + 1 ≤ R.frames) (hl : W + (maxL + 11) + rm.locals ≤ R.locals) (hcl : cells + rm.cells ≤ R.cells) (hsl : slots + rm.slots ≤ R.slots)
    {pc : Nat} {ls : Array Slot} {stk : List Value} (hsize : ls.size = c.maxLocals) {a : Addr} {argsL rest : List Value} (hlen : ∀ sig, parseMethodDescriptor y.desc = some sig → argsL.length = sig.parameters.length) (has : (.ref a :: argsL).toArray = as') (hstack : stk = argsL.reverse ++ .ref a :: rest) (hW : (rest.map fun v => v.category).sum ≤ W)
    (hd : decode c.code pc = .ok (.invokespecial index, 3)) :
    ∃ v T' L, Stand p l e R s m args below meth c T' (locs ++ L) (cells + rm.cells) (slots + rm.slots) ∧ Q v T'.heap L ∧ ∀ target, Steps p.tables e below (T'.setTop (mkF m (pc + 3) ls (v.toList ++ rest))) target → Steps p.tables e below (T.setTop (mkF m pc ls stk)) target := by
  subst has
  obtain ⟨v, vm₁, ⟨T', L', k', n'⟩, -, X', ⟨L, hQ, l1, y1, z1⟩, st⟩ := X.specialBack hx (y := y) hy1 hown (mvT hZ w1) (mvT hZ w2) (mvT hZ w4) hy (backOf (W := W) hM hZ w4 w3 hf hl) (g := mkF m pc ls stk) rfl hsize (Steps.refl _) (a := a) (argsL := argsL) (rest := rest) hlen hstack (by simpa using hW) hd (fun _ _ => ⟨rfl, eT, hcl, hsl⟩)
  dsimp only [Pt.U, Pt.locs, Pt.cells, Pt.slots] at X' l1 y1 z1 st hQ
  subst l1 y1 z1
  exact ⟨v, T', L, X', hQ, fun t k => st.trans k⟩
theorem own_callVi (X : Stand p l e R s m args below meth c T locs cells slots) (hx : p.tables.exec = Jvm.exec) (hZ : Z.Warmed39 s.vm) {own C : String} {index : Nat} {y z : MethodName} {bytes : ByteArray} {maxL : Nat} {ret : Option FieldType} {rm : Room} {as' : Array Value} {Q : Option Value → Heap → List Loc → Prop}
    (hown : s.vm.findClass own = some m.cls) (w1 : (Jvm.Cond.methodLink own index y).before a0 Z = true) (w2 : (Jvm.Cond.declares y).before a0 Z = true) (nf : NotFace s y) (w3 : (Jvm.Cond.selects C y z).before a0 Z = true) (w4 : (Jvm.Cond.instanceMethod z).before a0 Z = true) (w5 : (Jvm.Cond.initialized z.cls).before a0 Z = true) (w6 : (Jvm.Cond.code z bytes maxL ret).before a0 Z = true) (hy : y.cls ≠ "java/lang/invoke/MethodHandle" ∧ y.cls ≠ "java/lang/invoke/VarHandle")
    (hM : OCon l Z z bytes maxL ret [] rm as' h Q) (eT : T.heap = h) {W : Nat} (hf : rm.frames + 1 ≤ R.frames) (hl : W + (maxL + 11) + rm.locals ≤ R.locals) (hcl : cells + rm.cells ≤ R.cells) (hsl : slots + rm.slots ≤ R.slots) {a : Addr} (E : Exa Z h a C)
    {pc : Nat} {ls : Array Slot} {stk : List Value} (hsize : ls.size = c.maxLocals) {argsL rest : List Value} (hlen : ∀ sig, parseMethodDescriptor y.desc = some sig → argsL.length = sig.parameters.length) (has : (.ref a :: argsL).toArray = as') (hstack : stk = argsL.reverse ++ .ref a :: rest) (hW : (rest.map fun v => v.category).sum ≤ W)
    (hd : decode c.code pc = .ok (.invokevirtual index, 3)) :
    ∃ v T' L, Stand p l e R s m args below meth c T' (locs ++ L) (cells + rm.cells) (slots + rm.slots) ∧ Q v T'.heap L ∧ ∀ target, Steps p.tables e below (T'.setTop (mkF m (pc + 3) ls (v.toList ++ rest))) target → Steps p.tables e below (T.setTop (mkF m pc ls stk)) target := by
  subst has
  obtain ⟨cq, kq, qa, qb, qc⟩ := isOf hZ eT E
  obtain ⟨v, vm₁, ⟨T', L', k', n'⟩, -, X', ⟨L, hQ, l1, y1, z1⟩, st⟩ := X.virtualBack hx (y := y) (z := z) hown (mvT hZ w1) (mvT hZ w2) nf (mvT hZ w3) (mvT hZ w4) hy (backOf (W := W) hM hZ w6 w5 hf hl) qa qc (g := mkF m pc ls stk) rfl hsize (Steps.refl _) (argsL := argsL) (rest := rest) hlen hstack (by simpa using hW) hd (fun _ _ => ⟨rfl, eT, hcl, hsl⟩)
  dsimp only [Pt.U, Pt.locs, Pt.cells, Pt.slots] at X' l1 y1 z1 st hQ
  subst l1 y1 z1
  exact ⟨v, T', L, X', hQ, fun t k => st.trans k⟩
theorem own_lremM {g : JFrame} {target : State} (X : Stand p l e R s m args below meth c T locs cells slots) (hx : p.tables.exec = Jvm.exec) (hg : g.method = m) {x y : Int64} {rest : List Value} (hd : decode c.code g.pc = .ok (.lrem, 1)) (hs : g.stack = .long y :: .long x :: rest) (hy : y ≠ 0)
    (hr : Steps p.tables e below (T.setTop { g with pc := g.pc + 1, stack := .long (x % y) :: rest }) target) : Steps p.tables e below (T.setTop g) target :=
  XT.lrem X.here hx hg hd hs hy (by rw [lrem_mod]; exact hr)
theorem own_nz {x : Int32} (q : x = 0 ∨ x = 1) : narrow .boolean (.int x) = .int x := by rcases q with rfl | rfl <;> rfl
theorem own_fz {x : Int32} (q : x = 0 ∨ x = 1) : fits .boolean (.int x) = true := by rcases q with rfl | rfl <;> rfl
theorem own_irr (x : Int32) : ¬ x < x := fun q => absurd (Int32.lt_iff_toInt_lt.mp q) (Int.lt_irrefl _)
theorem own_irrL (x : Int64) : ¬ x < x := fun q => absurd (Int64.lt_iff_toInt_lt.mp q) (Int.lt_irrefl _)
/-- a small int is one of the first n -/
theorem own_small {n : Nat} (hn : n < 2 ^ 31) (x : Int32) (h0 : ¬ x < 0) (h1 : x.toInt < n) : ∃ k : Fin n, x = Int32.ofInt k.val := by
  have h2 : 0 ≤ x.toInt := by
    rcases Int.lt_or_le x.toInt 0 with q | q
    · exact absurd (Int32.lt_iff_toInt_lt.mpr q) h0
    · exact q
  refine ⟨⟨x.toInt.toNat, by omega⟩, ?_⟩
  rw [Int.toNat_of_nonneg h2, Int32.ofInt_toInt]
end Own
section OwnW
open Jvm.Free.SB Jvm.Free.SBG
variable {p : Program} {l : Launch} {e : Env} {R : Room} {s : State} {m : MethodId} {args : Array Value} {below : List Frame} {meth : Method} {c : Code} {T : State} {locs : List Loc} {cells slots : Nat} {Z : State} {a0 : Array Value} {h : Heap} {Φ : Outcome → State → Prop} {EL : List (String × Nat)} {vm0 : Vm}
/-- a wide contract: the body may load String constants; sf: addresses that are none of the held constants' cells -/
abbrev OConW (l : Launch) (Z : State) (EL : List (String × Nat)) (y : MethodName) (bytes : ByteArray) (maxL : Nat) (ret : Option FieldType) (ws : List Jvm.Cond) (rm : Room) (as' : Array Value) (h0 : Heap) (sf : List Addr) (Q : Option Value → Heap → List Loc → Prop) : Prop :=
  MetFree l y (head1 (Jvm.Cond.code y bytes maxL ret :: ws) rm) (fun a U => a = as' ∧ Z.Warmed39 U.vm ∧ U.heap = h0 ∧ CHv Z EL U.vm h0 ∧ ∀ x ∈ sf, Safe Z EL U.vm h0 x) (fun _ _ _ _ _ => True) (fun _ U o U' => ∃ v L, o = .returned v ∧ Q v U'.heap L ∧ CHr Z EL U.vm U.heap U'.vm U'.heap ∧ ReturnedEndW U o U' L rm.cells rm.slots)
theorem OConW.of {y : MethodName} {bytes : ByteArray} {maxL : Nat} {ret : Option FieldType} {ws : List Jvm.Cond} {rm : Room} {as' : Array Value} {h0 : Heap} {sf : List Addr} {Q : Option Value → Heap → List Loc → Prop} (hpl : plainFor y = true)
    (H : ∀ (p : Program) (e : Env) (s : State) (m : MethodId) (below : List Frame) (meth : Method) (c : Code) (s₁ : State) (Φ : Outcome → State → Prop), Stand p l e rm (s.setVm s.vm) m as' below meth c s₁ [] 0 0 → p.tables.exec = Jvm.exec → c.code = bytes → c.maxLocals = maxL → (s.setVm s.vm).vm.findClass y.cls = some m.cls → meth.name = y.name → meth.sig.returnType = ret → meth.locks = false → Z.Warmed39 (s.setVm s.vm).vm → s₁.heap = h0 →
      s.Since s.vm 0 → 0 ≤ h0.size → CHr Z EL s.vm h0 s.vm h0 → (∀ x ∈ sf, Safe Z EL s.vm h0 x) →
      (∀ v L U, Q v U.heap L → CHr Z EL s.vm h0 U.vm U.heap → ReturnedEndW s (.returned v) U L rm.cells rm.slots → Φ (.returned v) U) → OGo p.tables e below Φ (s₁.setTop (entryFrame m as' maxL))) :
    OConW l Z EL y bytes maxL ret ws rm as' h0 sf Q := by
  refine MetFree.of_bodySF hpl hisR ?_
  intro p e s m args below meth c s₁ Bd hml0 hP hK
  obtain ⟨rfl, hZ, hh, hC, hsf⟩ := hP
  have e0 : s₁.heap = h0 := by rw [← hh, Bd.state]; rfl
  have X0 := Stand.of_body Bd
  have ev : s₁.vm = s.vm := by rw [Bd.state]; rfl
  have hWm : s.WarmedH s.vm := ev ▸ X0.warmed
  exact H p e s m below meth c s₁ _ X0 Bd.exec Bd.bytes hml0 (findClass_of_methodNamed Bd.named) (name_of_methodNamed Bd.named Bd.method).1 Bd.returns Bd.notSynchronized hZ e0 (hWm.since 0) (Nat.zero_le _) (CHr.refl hC) hsf (fun v L U hq hc hf => ⟨v, L, rfl, hq, hh ▸ hc, hf⟩)
theorem OGo.finW (X : Stand p l e R (s.setVm vm0) m args below meth c T locs cells slots) (hlk : meth.locks = false) {k0 : Nat} (hS : s.Since vm0 k0) (eT : T.heap = h) (hkk : k0 ≤ h.size) {v : Option Value} (hv : meth.sig.returnType = none → v = none) {g : JFrame} {k n : Nat} (hk : cells ≤ k) (hn : slots ≤ n) (hZ : Z.Warmed39 (s.setVm vm0).vm) (hEL : EW Z a0 EL) {vmS : Vm} {hs0 : Heap} (hC : CHr Z EL vmS hs0 vm0 h)
    (st : ∀ fs, (∀ (f : JFrame) (acts : List Action), f.method = m → f.locked = none → f.entered = [] → (doReturn e (T.setTop f) acts v).1 = T.setFrames fs) → Steps p.tables e below (T.setTop g) (T.setFrames fs))
    (hq : ∀ U, U.heap = h → CHr Z EL vmS hs0 U.vm U.heap → ReturnedEndW s (.returned v) U locs k n → Φ (.returned v) U) : OGo p.tables e below Φ (T.setTop g) := by
  obtain ⟨fs, hr, hrun, hended, hW⟩ := X.leaveW hS (eT ▸ hkk) (v := v) hv hlk
  have hc2 : CHr Z EL vmS hs0 T.vm h := hC.trans (CHv.at X hZ hEL hC.1)
  exact ⟨_, _, st fs hr, hrun, hended, hq _ eT (by show CHr Z EL vmS hs0 T.vm T.heap; rw [eT]; exact hc2) ⟨hW.1, hW.2.1, hW.2.2.1, hW.2.2.2.mono hk hn⟩⟩
theorem own_backW {y : MethodName} {bytes : ByteArray} {maxL : Nat} {ret : Option FieldType} {rm : Room} {len W : Nat} {as' : Array Value} {sf : List Addr} {Q : Option Value → Heap → List Loc → Prop} (hM : OConW l Z EL y bytes maxL ret [] rm as' h sf Q)
    (hZ : Z.Warmed39 vm0) (wc : (Jvm.Cond.code y bytes maxL ret).before a0 Z = true) (wz : (Jvm.Cond.initialized y.cls).before a0 Z = true) (hf : rm.frames + 1 ≤ R.frames) (hl : W + (maxL + 11) + rm.locals ≤ R.locals) (hEL : EW Z a0 EL) (H : CHv Z EL vm0 h) (hsf : ∀ x ∈ sf, x < h.size ∧ Safe Z EL vm0 h x) :
    BackS l R p e below (s.setVm vm0) args y len W (fun A a => a = as' ∧ A.U.heap = h ∧ A.cells + rm.cells ≤ R.cells ∧ A.slots + rm.slots ≤ R.slots)
      (fun A _ v B => ∃ L, Q v B.U.heap L ∧ B.locs = A.locs ++ L ∧ B.cells = A.cells + rm.cells ∧ B.slots = A.slots + rm.slots ∧ CHr Z EL vm0 h B.U.vm B.U.heap) := by
  refine BackS.of_freeW (bytes := bytes) (maxL := maxL) (ret := ret) (E := fun _ first o t L k n => k = rm.cells ∧ n = rm.slots ∧ (∃ v, o = .returned v ∧ Q v t.heap L) ∧ CHr Z EL first.vm first.heap t.vm t.heap) hM hf hl ?_ ?_ ?_ ?_ ?_
  · intro m meth c A a Y hp
    have hU : Z.Warmed39 A.U.vm := wtrans (s := s.setVm vm0) hZ Y.warmed
    exact ⟨by show (Jvm.Cond.and _ .tt).before a A.U = true; rw [Cond.before_and, mv hU wc]; rfl, mv hU wc, mv hU wz, hp.2.2.1, hp.2.2.2⟩
  · intro m meth c A a g mk Y hp
    exact ⟨hp.1, wtrans (s := s.setVm vm0) hZ Y.warmed, hp.2.1, (CHv.at Y hZ hEL H).1, fun x hx => (CHv.at Y hZ hEL H).safe (hsf x hx).1 (hsf x hx).2⟩
  · intros; trivial
  · rintro _ _ _ _ ⟨v, L, q1, q2, q3, q4⟩
    exact ⟨L, _, _, q4, rfl, rfl, ⟨v, q1, q2⟩, q3⟩
  · rintro m meth c A a g mk v t L k n Y hp _ _ ⟨rfl, rfl, ⟨v', q3, q4⟩, q5⟩
    cases q3
    refine ⟨L, q4, rfl, rfl, rfl, (CHv.at Y hZ hEL H).trans ?_⟩
    rw [← hp.2.1]; exact q5
theorem own_callStW (X : Stand p l e R (s.setVm vm0) m args below meth c T locs cells slots) (hx : p.tables.exec = Jvm.exec) (hZ : Z.Warmed39 (s.setVm vm0).vm) {own : String} {index : Nat} {y : MethodName} {bytes : ByteArray} {maxL : Nat} {ret : Option FieldType} {rm : Room} {as' : Array Value} {sf : List Addr} {Q : Option Value → Heap → List Loc → Prop}
    (hown : (s.setVm vm0).vm.findClass own = some m.cls) (w1 : (Jvm.Cond.methodLink own index y).before a0 Z = true) (w2 : (Jvm.Cond.static y).before a0 Z = true) (w3 : (Jvm.Cond.initialized y.cls).before a0 Z = true) (w4 : (Jvm.Cond.code y bytes maxL ret).before a0 Z = true) (hy : y.cls ≠ "java/lang/invoke/MethodHandle" ∧ y.cls ≠ "java/lang/invoke/VarHandle")
    (hM : OConW l Z EL y bytes maxL ret [] rm as' h sf Q) (eT : T.heap = h) {W : Nat} (hf : rm.frames + 1 ≤ R.frames) (hl : W + (maxL + 11) + rm.locals ≤ R.locals) (hcl : cells + rm.cells ≤ R.cells) (hsl : slots + rm.slots ≤ R.slots)
    {pc : Nat} {ls : Array Slot} {stk : List Value} (hsize : ls.size = c.maxLocals) {argsL rest : List Value} (hlen : ∀ sig, parseMethodDescriptor y.desc = some sig → argsL.length = sig.parameters.length) (has : argsL.toArray = as') (hstack : stk = argsL.reverse ++ rest) (hW : (rest.map fun v => v.category).sum ≤ W)
    (hd : decode c.code pc = .ok (.invokestatic index, 3)) {k0 : Nat} (hS : s.Since vm0 k0) (hkk : k0 ≤ h.size) (hEL : EW Z a0 EL) {vmS : Vm} {hs0 : Heap} (hC : CHr Z EL vmS hs0 vm0 h) (hsf : ∀ x ∈ sf, x < h.size ∧ Safe Z EL vm0 h x) :
    ∃ v T' L, Stand p l e R (s.setVm T'.vm) m args below meth c T' (locs ++ L) (cells + rm.cells) (slots + rm.slots) ∧ Q v T'.heap L ∧ (∀ target, Steps p.tables e below (T'.setTop (mkF m (pc + 3) ls (v.toList ++ rest))) target → Steps p.tables e below (T.setTop (mkF m pc ls stk)) target) ∧
      s.Since T'.vm T'.heap.size ∧ Z.Warmed39 (s.setVm T'.vm).vm ∧ (s.setVm T'.vm).vm.findClass own = some m.cls ∧ CHr Z EL vm0 h T'.vm T'.heap := by
  subst has
  obtain ⟨v, vm₁, ⟨T', L', k', n'⟩, -, X', S', hg, ⟨L, hQ, l1, y1, z1, hc⟩, st⟩ := callSS X hx (y := y) hown (mvT hZ w1) (mvT hZ w2) (mvT hZ w3) (mvT hZ w4) hy (own_backW (W := W) hM hZ w4 w3 hf hl hEL hC.1 hsf) (g := mkF m pc ls stk) rfl hsize (argsL := argsL) (rest := rest) hlen hstack (by simpa using hW) hd (fun _ _ => ⟨rfl, eT, hcl, hsl⟩)
  dsimp only [Pt.U, Pt.locs, Pt.cells, Pt.slots] at X' l1 y1 z1 st hQ S' hg hc
  subst l1 y1 z1
  obtain ⟨X2, S2, Z2, o2⟩ := rebS hS hkk X' S' (by rw [← eT]; exact hg) hZ hown
  exact ⟨v, T', L, X2, hQ, fun t k => st.trans k, S2, Z2, o2, hc⟩
theorem own_callSpW (X : Stand p l e R (s.setVm vm0) m args below meth c T locs cells slots) (hx : p.tables.exec = Jvm.exec) (hZ : Z.Warmed39 (s.setVm vm0).vm) {own : String} {index : Nat} {y : MethodName} {bytes : ByteArray} {maxL : Nat} {rm : Room} {as' : Array Value} {sf : List Addr} {Q : Option Value → Heap → List Loc → Prop}
    (hy1 : y.name = "<init>") (hown : (s.setVm vm0).vm.findClass own = some m.cls) (w1 : (Jvm.Cond.methodLink own index y).before a0 Z = true) (w2 : (Jvm.Cond.instanceMethod y).before a0 Z = true) (w3 : (Jvm.Cond.initialized y.cls).before a0 Z = true) (w4 : (Jvm.Cond.code y bytes maxL none).before a0 Z = true) (hy : y.cls ≠ "java/lang/invoke/MethodHandle" ∧ y.cls ≠ "java/lang/invoke/VarHandle")
    (hM : OConW l Z EL y bytes maxL none [] rm as' h sf Q) (eT : T.heap = h) {W : Nat} (hf : rm.frames + 1 ≤ R.frames) (hl : W + (maxL + 11) + rm.locals ≤ R.locals) (hcl : cells + rm.cells ≤ R.cells) (hsl : slots + rm.slots ≤ R.slots)
    {pc : Nat} {ls : Array Slot} {stk : List Value} (hsize : ls.size = c.maxLocals) {a : Addr} {argsL rest : List Value} (hlen : ∀ sig, parseMethodDescriptor y.desc = some sig → argsL.length = sig.parameters.length) (has : (.ref a :: argsL).toArray = as') (hstack : stk = argsL.reverse ++ .ref a :: rest) (hW : (rest.map fun v => v.category).sum ≤ W)
    (hd : decode c.code pc = .ok (.invokespecial index, 3)) {k0 : Nat} (hS : s.Since vm0 k0) (hkk : k0 ≤ h.size) (hEL : EW Z a0 EL) {vmS : Vm} {hs0 : Heap} (hC : CHr Z EL vmS hs0 vm0 h) (hsf : ∀ x ∈ sf, x < h.size ∧ Safe Z EL vm0 h x) :
    ∃ v T' L, Stand p l e R (s.setVm T'.vm) m args below meth c T' (locs ++ L) (cells + rm.cells) (slots + rm.slots) ∧ Q v T'.heap L ∧ (∀ target, Steps p.tables e below (T'.setTop (mkF m (pc + 3) ls (v.toList ++ rest))) target → Steps p.tables e below (T.setTop (mkF m pc ls stk)) target) ∧
      s.Since T'.vm T'.heap.size ∧ Z.Warmed39 (s.setVm T'.vm).vm ∧ (s.setVm T'.vm).vm.findClass own = some m.cls ∧ CHr Z EL vm0 h T'.vm T'.heap := by
  subst has
  obtain ⟨v, vm₁, ⟨T', L', k', n'⟩, -, X', S', hg, ⟨L, hQ, l1, y1, z1, hc⟩, st⟩ := X.specialBackS hx (y := y) hy1 hown (mvT hZ w1) (mvT hZ w2) (mvT hZ w4) hy (own_backW (W := W) hM hZ w4 w3 hf hl hEL hC.1 hsf) (g := mkF m pc ls stk) rfl hsize (Steps.refl _) (a := a) (argsL := argsL) (rest := rest) hlen hstack (by simpa using hW) hd (fun _ _ => ⟨rfl, eT, hcl, hsl⟩)
  dsimp only [Pt.U, Pt.locs, Pt.cells, Pt.slots] at X' l1 y1 z1 st hQ S' hg hc
  subst l1 y1 z1
  obtain ⟨X2, S2, Z2, o2⟩ := rebS hS hkk X' S' (by rw [← eT]; exact hg) hZ hown
  exact ⟨v, T', L, X2, hQ, fun t k => st.trans k, S2, Z2, o2, hc⟩
end OwnW
section OwnStr
variable {Z : State} {h h' : Heap} {s x : Addr} {n : Int32} {a0 : Array Value} {C : String} {k : Nat}
/-- a String of n chars, whatever its coder -/
def OStr (Z : State) (h : Heap) (s : Addr) (n : Int32) : Prop := Exa Z h s "java/lang/String" ∧ ∃ (b : Addr) (cb : ClassId) (z cd : Int32) (vs : List Value), Fld Z h s "java/lang/String" "value" "[B" (.ref b) ∧ Fld Z h s "java/lang/String" "coder" "B" (.int cd) ∧ Arv Z h b cb .byte z vs (.int 0) ∧ (cd = 0 ∨ cd = 1) ∧ (z >>> (cd &&& 31)) = n
theorem OStr.lt (F : OStr Z h s n) : s < h.size := F.1.lt
theorem OStr.ext (F : OStr Z h s n) (E : Ext h h') : OStr Z h' s n := by
  obtain ⟨E1, b, cb, z, cd, vs, F1, F2, V, r⟩ := F
  exact ⟨E1.ext E, b, cb, z, cd, vs, F1.ext E, F2.ext E, V.ext E, r⟩
theorem OStr.keep0 (F : OStr Z h s n) (K : Keep h h' []) : OStr Z h' s n := by
  obtain ⟨E1, b, cb, z, cd, vs, F1, F2, V, r⟩ := F
  exact ⟨E1.keep K, b, cb, z, cd, vs, F1.keep K nin0, F2.keep K nin0, V.keep K nin0, r⟩
theorem OStr.keep1 (F : OStr Z h s n) (K : Keep h h' [x]) (E : Exa Z h x C) (w : (Jvm.Cond.instantiable C k).before a0 Z = true) (hne : C ≠ "java/lang/String") : OStr Z h' s n := by
  obtain ⟨E1, b, cb, z, cd, vs, F1, F2, V, r⟩ := F
  have n1 : s ∉ [x] := ninS (Ne.symm (E.ne E1 hne)) nin0
  have n2 : b ∉ [x] := ninS (Ne.symm (E.neArv V w)) nin0
  exact ⟨E1.keep K, b, cb, z, cd, vs, F1.keep K n1, F2.keep K n1, V.keep K n2, r⟩
theorem OStr.keepS (F : OStr Z h s n) (K : Keep h h' [x]) (E : Exa Z h x C) (w : (Jvm.Cond.instantiable C k).before a0 Z = true) (hne : s ≠ x) : OStr Z h' s n := by
  obtain ⟨E1, b, cb, z, cd, vs, F1, F2, V, r⟩ := F
  have n1 : s ∉ [x] := ninS hne nin0
  have n2 : b ∉ [x] := ninS (Ne.symm (E.neArv V w)) nin0
  exact ⟨E1.keep K, b, cb, z, cd, vs, F1.keep K n1, F2.keep K n1, V.keep K n2, r⟩
theorem own_narnar (y : Int32) : nar .char (nar .char y) = nar .char y := by
  apply Int32.toInt_inj.mp
  have q1 := c_i2c y
  have q2 := c_i2c (nar .char y)
  have e1 : (nar .char y).toInt = y.toUInt32.toUInt16.toUInt32.toInt32.toInt := rfl
  have e2 : (nar .char (nar .char y)).toInt = (nar .char y).toUInt32.toUInt16.toUInt32.toInt32.toInt := rfl
  omega
theorem own_nb {x : Int32} (q : x = 0 ∨ x = 1) : narrow .byte (.int x) = .int x := by rcases q with rfl | rfl <;> rfl
end OwnStr
section OwnTStr
variable {Z : State} {h h' : Heap} {s x : Addr} {t b : Int32} {a0 : Array Value} {C : String} {k : Nat}
/-- a Latin String: t = 1: of the one byte b; t = 0: of none or of two -/
def TStr (Z : State) (h : Heap) (s : Addr) (t b : Int32) : Prop := Exa Z h s "java/lang/String" ∧ ∃ (v : Addr) (cb : ClassId) (n : Int32) (vs : List Value), Fld Z h s "java/lang/String" "value" "[B" (.ref v) ∧ Fld Z h s "java/lang/String" "coder" "B" (.int 0) ∧ Arv Z h v cb .byte n vs (.int 0) ∧ ((t = 1 ∧ n = 1 ∧ vs = [.int b]) ∨ (t = 0 ∧ ((n = 0 ∧ vs = []) ∨ ∃ c d : Int32, n = 2 ∧ vs = [.int c, .int d])))
theorem TStr.lt (F : TStr Z h s t b) : s < h.size := F.1.lt
theorem TStr.ext (F : TStr Z h s t b) (E : Ext h h') : TStr Z h' s t b := by
  obtain ⟨E1, v, cb, n, vs, F1, F2, V, r⟩ := F
  exact ⟨E1.ext E, v, cb, n, vs, F1.ext E, F2.ext E, V.ext E, r⟩
theorem TStr.keep0 (F : TStr Z h s t b) (K : Keep h h' []) : TStr Z h' s t b := by
  obtain ⟨E1, v, cb, n, vs, F1, F2, V, r⟩ := F
  exact ⟨E1.keep K, v, cb, n, vs, F1.keep K nin0, F2.keep K nin0, V.keep K nin0, r⟩
theorem TStr.keep1 (F : TStr Z h s t b) (K : Keep h h' [x]) (E : Exa Z h x C) (w : (Jvm.Cond.instantiable C k).before a0 Z = true) (hne : C ≠ "java/lang/String") : TStr Z h' s t b := by
  obtain ⟨E1, v, cb, n, vs, F1, F2, V, r⟩ := F
  have n1 : s ∉ [x] := ninS (Ne.symm (E.ne E1 hne)) nin0
  have n2 : v ∉ [x] := ninS (Ne.symm (E.neArv V w)) nin0
  exact ⟨E1.keep K, v, cb, n, vs, F1.keep K n1, F2.keep K n1, V.keep K n2, r⟩
end OwnTStr
section OwnNs
variable {Z : State} {a0 : Array Value}
/-- the root class is no subclass of an instantiable K -/
theorem own_nsRoot {O K : String} {n : Nat} (w : (Jvm.Cond.noSuperclass O).before a0 Z = true) (wk : (Jvm.Cond.instantiable K n).before a0 Z = true) (hn : O ≠ K) : NS Z O K := by
  obtain ⟨c, k, q1, q2, q3, -⟩ := Cond.noSuperclass_spec w
  obtain ⟨t, kt, u1, -⟩ := Cond.instantiable_spec wk
  refine ⟨c, t, q1, u1, fun fuel => ?_⟩
  have hne : c ≠ t := ids_ne q1 u1 hn
  cases fuel <;> simp [Vm.isSubclassAux, hne, q2, q3]
theorem own_nsNo {C S K : String} {n : Nat} (w : (Jvm.Cond.superclass C S).before a0 Z = true) (wk : (Jvm.Cond.instantiable K n).before a0 Z = true) (hN : NS Z C K) (hn : C ≠ K) : ∃ c t, Z.vm.findClass C = some c ∧ Z.vm.findClass K = some t ∧ Z.vm.assignable c t = false := by
  obtain ⟨c, t, q1, q2, q3⟩ := hN
  obtain ⟨p, k, kp, -, u2, -, -, u5, -, -⟩ := Cond.superclass_spec q1 w
  obtain ⟨t', kt, v1, v2, v3, v4, -⟩ := Cond.instantiable_spec wk
  cases q2.symm.trans v1
  have hne : c ≠ t := ids_ne q1 q2 hn
  have hi : kt.isInterface = false := by simp only [Bool.or_eq_false_iff] at v4; exact v4.1
  refine ⟨c, t, q1, q2, ?_⟩
  show Z.vm.assignableAux (255 + 1) c t = false
  simp [Vm.assignableAux, hne, u2, v2, u5, v3, hi, Vm.isSubclass, q3]
end OwnNs
theorem ow0 {Z : State} {a0 : Array Value} (hw : ∀ d ∈ tables_1, d.before a0 Z = true) : (Jvm.Cond.classLink "com/example/zonewright/zonewright/storage/ServiceInstanceEqualsPinLaw" (25 : Nat) "com/example/zonewright/zonewright/storage/ServiceInstance").before a0 Z = true := hw _ (List.mem_of_getElem? (i := 0) rfl)
theorem ow1 {Z : State} {a0 : Array Value} (hw : ∀ d ∈ tables_1, d.before a0 Z = true) : (Jvm.Cond.instantiable "com/example/zonewright/zonewright/storage/ServiceInstance" (4 : Nat)).before a0 Z = true := hw _ (List.mem_of_getElem? (i := 1) rfl)
theorem ow2 {Z : State} {a0 : Array Value} (hw : ∀ d ∈ tables_1, d.before a0 Z = true) : (Jvm.Cond.initialized "com/example/zonewright/zonewright/storage/ServiceInstance").before a0 Z = true := hw _ (List.mem_of_getElem? (i := 2) rfl)
theorem ow3 {Z : State} {a0 : Array Value} (hw : ∀ d ∈ tables_1, d.before a0 Z = true) : (Jvm.Cond.methodLink "com/example/zonewright/zonewright/storage/ServiceInstanceEqualsPinLaw" (27 : Nat) ({ cls := "com/example/zonewright/zonewright/storage/ServiceInstanceEqualsPinLaw", name := "base", desc := "(I)Ljava/lang/String;" } : Jvm.MethodName)).before a0 Z = true := hw _ (List.mem_of_getElem? (i := 3) rfl)
theorem ow4 {Z : State} {a0 : Array Value} (hw : ∀ d ∈ tables_1, d.before a0 Z = true) : (Jvm.Cond.static ({ cls := "com/example/zonewright/zonewright/storage/ServiceInstanceEqualsPinLaw", name := "base", desc := "(I)Ljava/lang/String;" } : Jvm.MethodName)).before a0 Z = true := hw _ (List.mem_of_getElem? (i := 4) rfl)
theorem ow5 {Z : State} {a0 : Array Value} (hw : ∀ d ∈ tables_1, d.before a0 Z = true) : (Jvm.Cond.initialized "com/example/zonewright/zonewright/storage/ServiceInstanceEqualsPinLaw").before a0 Z = true := hw _ (List.mem_of_getElem? (i := 5) rfl)
theorem ow6 {Z : State} {a0 : Array Value} (hw : ∀ d ∈ tables_1, d.before a0 Z = true) : (Jvm.Cond.code ({ cls := "com/example/zonewright/zonewright/storage/ServiceInstanceEqualsPinLaw", name := "base", desc := "(I)Ljava/lang/String;" } : Jvm.MethodName) method_4_code (1 : Nat) (Option.some (Jvm.ClassFile.FieldType.object "java/lang/String"))).before a0 Z = true := hw _ (List.mem_of_getElem? (i := 6) rfl)
theorem ow7 {Z : State} {a0 : Array Value} (hw : ∀ d ∈ tables_1, d.before a0 Z = true) : (Jvm.Cond.methodLink "com/example/zonewright/zonewright/storage/ServiceInstanceEqualsPinLaw" (7 : Nat) ({ cls := "com/example/zonewright/zonewright/storage/ServiceInstanceEqualsPinLaw", name := "c1", desc := "(I)C" } : Jvm.MethodName)).before a0 Z = true := hw _ (List.mem_of_getElem? (i := 7) rfl)
theorem ow8 {Z : State} {a0 : Array Value} (hw : ∀ d ∈ tables_1, d.before a0 Z = true) : (Jvm.Cond.static ({ cls := "com/example/zonewright/zonewright/storage/ServiceInstanceEqualsPinLaw", name := "c1", desc := "(I)C" } : Jvm.MethodName)).before a0 Z = true := hw _ (List.mem_of_getElem? (i := 8) rfl)
theorem ow9 {Z : State} {a0 : Array Value} (hw : ∀ d ∈ tables_1, d.before a0 Z = true) : (Jvm.Cond.code ({ cls := "com/example/zonewright/zonewright/storage/ServiceInstanceEqualsPinLaw", name := "c1", desc := "(I)C" } : Jvm.MethodName) method_2_code (1 : Nat) (Option.some Jvm.ClassFile.FieldType.char)).before a0 Z = true := hw _ (List.mem_of_getElem? (i := 9) rfl)
theorem ow10 {Z : State} {a0 : Array Value} (hw : ∀ d ∈ tables_1, d.before a0 Z = true) : (Jvm.Cond.methodLink "com/example/zonewright/zonewright/storage/ServiceInstanceEqualsPinLaw" (13 : Nat) ({ cls := "java/lang/String", name := "valueOf", desc := "(C)Ljava/lang/String;" } : Jvm.MethodName)).before a0 Z = true := hw _ (List.mem_of_getElem? (i := 10) rfl)
theorem ow11 {Z : State} {a0 : Array Value} (hw : ∀ d ∈ tables_1, d.before a0 Z = true) : (Jvm.Cond.static ({ cls := "java/lang/String", name := "valueOf", desc := "(C)Ljava/lang/String;" } : Jvm.MethodName)).before a0 Z = true := hw _ (List.mem_of_getElem? (i := 11) rfl)
theorem ow12 {Z : State} {a0 : Array Value} (hw : ∀ d ∈ tables_1, d.before a0 Z = true) : (Jvm.Cond.initialized "java/lang/String").before a0 Z = true := hw _ (List.mem_of_getElem? (i := 12) rfl)
theorem ow13 {Z : State} {a0 : Array Value} (hw : ∀ d ∈ tables_1, d.before a0 Z = true) : (Jvm.Cond.code ({ cls := "java/lang/String", name := "valueOf", desc := "(C)Ljava/lang/String;" } : Jvm.MethodName) jdk_42_method_139_code (1 : Nat) (Option.some (Jvm.ClassFile.FieldType.object "java/lang/String"))).before a0 Z = true := hw _ (List.mem_of_getElem? (i := 13) rfl)
theorem ow14 {Z : State} {a0 : Array Value} (hw : ∀ d ∈ tables_1, d.before a0 Z = true) : (Jvm.Cond.fieldLink "java/lang/String" (38 : Nat) "java/lang/String" "COMPACT_STRINGS" "Z").before a0 Z = true := hw _ (List.mem_of_getElem? (i := 14) rfl)
theorem ow15 {Z : State} {a0 : Array Value} (hw : ∀ d ∈ tables_1, d.before a0 Z = true) : (Jvm.Cond.methodLink "java/lang/String" (1015 : Nat) ({ cls := "java/lang/StringLatin1", name := "canEncode", desc := "(C)Z" } : Jvm.MethodName)).before a0 Z = true := hw _ (List.mem_of_getElem? (i := 15) rfl)
theorem ow16 {Z : State} {a0 : Array Value} (hw : ∀ d ∈ tables_1, d.before a0 Z = true) : (Jvm.Cond.static ({ cls := "java/lang/StringLatin1", name := "canEncode", desc := "(C)Z" } : Jvm.MethodName)).before a0 Z = true := hw _ (List.mem_of_getElem? (i := 16) rfl)
theorem ow17 {Z : State} {a0 : Array Value} (hw : ∀ d ∈ tables_1, d.before a0 Z = true) : (Jvm.Cond.initialized "java/lang/StringLatin1").before a0 Z = true := hw _ (List.mem_of_getElem? (i := 17) rfl)
theorem ow18 {Z : State} {a0 : Array Value} (hw : ∀ d ∈ tables_1, d.before a0 Z = true) : (Jvm.Cond.code ({ cls := "java/lang/StringLatin1", name := "canEncode", desc := "(C)Z" } : Jvm.MethodName) jdk_43_method_3_code (1 : Nat) (Option.some Jvm.ClassFile.FieldType.boolean)).before a0 Z = true := hw _ (List.mem_of_getElem? (i := 18) rfl)
theorem ow19 {Z : State} {a0 : Array Value} (hw : ∀ d ∈ tables_1, d.before a0 Z = true) : (Jvm.Cond.classLink "java/lang/String" (10 : Nat) "java/lang/String").before a0 Z = true := hw _ (List.mem_of_getElem? (i := 19) rfl)
theorem ow20 {Z : State} {a0 : Array Value} (hw : ∀ d ∈ tables_1, d.before a0 Z = true) : (Jvm.Cond.instantiable "java/lang/String" (4 : Nat)).before a0 Z = true := hw _ (List.mem_of_getElem? (i := 20) rfl)
theorem ow21 {Z : State} {a0 : Array Value} (hw : ∀ d ∈ tables_1, d.before a0 Z = true) : (Jvm.Cond.methodLink "java/lang/String" (1018 : Nat) ({ cls := "java/lang/StringLatin1", name := "toBytes", desc := "(C)[B" } : Jvm.MethodName)).before a0 Z = true := hw _ (List.mem_of_getElem? (i := 21) rfl)
theorem ow22 {Z : State} {a0 : Array Value} (hw : ∀ d ∈ tables_1, d.before a0 Z = true) : (Jvm.Cond.static ({ cls := "java/lang/StringLatin1", name := "toBytes", desc := "(C)[B" } : Jvm.MethodName)).before a0 Z = true := hw _ (List.mem_of_getElem? (i := 22) rfl)
theorem ow23 {Z : State} {a0 : Array Value} (hw : ∀ d ∈ tables_1, d.before a0 Z = true) : (Jvm.Cond.code ({ cls := "java/lang/StringLatin1", name := "toBytes", desc := "(C)[B" } : Jvm.MethodName) jdk_43_method_46_code (1 : Nat) (Option.some (Jvm.ClassFile.FieldType.array Jvm.ClassFile.FieldType.byte))).before a0 Z = true := hw _ (List.mem_of_getElem? (i := 23) rfl)
theorem ow24 {Z : State} {a0 : Array Value} (hw : ∀ d ∈ tables_1, d.before a0 Z = true) : (Jvm.Cond.arrayClass Jvm.ClassFile.FieldType.byte).before a0 Z = true := hw _ (List.mem_of_getElem? (i := 24) rfl)
theorem ow25 {Z : State} {a0 : Array Value} (hw : ∀ d ∈ tables_1, d.before a0 Z = true) : (Jvm.Cond.methodLink "java/lang/String" (209 : Nat) ({ cls := "java/lang/String", name := "<init>", desc := "([BB)V" } : Jvm.MethodName)).before a0 Z = true := hw _ (List.mem_of_getElem? (i := 25) rfl)
theorem ow26 {Z : State} {a0 : Array Value} (hw : ∀ d ∈ tables_1, d.before a0 Z = true) : (Jvm.Cond.instanceMethod ({ cls := "java/lang/String", name := "<init>", desc := "([BB)V" } : Jvm.MethodName)).before a0 Z = true := hw _ (List.mem_of_getElem? (i := 26) rfl)
theorem ow28 {Z : State} {a0 : Array Value} (hw : ∀ d ∈ tables_1, d.before a0 Z = true) : (Jvm.Cond.code ({ cls := "java/lang/String", name := "<init>", desc := "([BB)V" } : Jvm.MethodName) jdk_42_method_151_code (3 : Nat) (Option.none : Option Jvm.ClassFile.FieldType)).before a0 Z = true := hw _ (List.mem_of_getElem? (i := 28) rfl)
theorem ow29 {Z : State} {a0 : Array Value} (hw : ∀ d ∈ tables_1, d.before a0 Z = true) : (Jvm.Cond.methodLink "java/lang/String" (1 : Nat) ({ cls := "java/lang/Object", name := "<init>", desc := "()V" } : Jvm.MethodName)).before a0 Z = true := hw _ (List.mem_of_getElem? (i := 29) rfl)
theorem ow30 {Z : State} {a0 : Array Value} (hw : ∀ d ∈ tables_1, d.before a0 Z = true) : (Jvm.Cond.instanceMethod ({ cls := "java/lang/Object", name := "<init>", desc := "()V" } : Jvm.MethodName)).before a0 Z = true := hw _ (List.mem_of_getElem? (i := 30) rfl)
theorem ow31 {Z : State} {a0 : Array Value} (hw : ∀ d ∈ tables_1, d.before a0 Z = true) : (Jvm.Cond.code ({ cls := "java/lang/Object", name := "<init>", desc := "()V" } : Jvm.MethodName) object_method_1_code (1 : Nat) (Option.none : Option Jvm.ClassFile.FieldType)).before a0 Z = true := hw _ (List.mem_of_getElem? (i := 31) rfl)
theorem ow32 {Z : State} {a0 : Array Value} (hw : ∀ d ∈ tables_1, d.before a0 Z = true) : (Jvm.Cond.fieldLink "java/lang/String" (9 : Nat) "java/lang/String" "value" "[B").before a0 Z = true := hw _ (List.mem_of_getElem? (i := 32) rfl)
theorem ow33 {Z : State} {a0 : Array Value} (hw : ∀ d ∈ tables_1, d.before a0 Z = true) : (Jvm.Cond.laysFinal "java/lang/String" "java/lang/String" "value" "[B").before a0 Z = true := hw _ (List.mem_of_getElem? (i := 33) rfl)
theorem ow34 {Z : State} {a0 : Array Value} (hw : ∀ d ∈ tables_1, d.before a0 Z = true) : (Jvm.Cond.fieldLink "java/lang/String" (15 : Nat) "java/lang/String" "coder" "B").before a0 Z = true := hw _ (List.mem_of_getElem? (i := 34) rfl)
theorem ow35 {Z : State} {a0 : Array Value} (hw : ∀ d ∈ tables_1, d.before a0 Z = true) : (Jvm.Cond.laysFinal "java/lang/String" "java/lang/String" "coder" "B").before a0 Z = true := hw _ (List.mem_of_getElem? (i := 35) rfl)
theorem ow36 {Z : State} {a0 : Array Value} (hw : ∀ d ∈ tables_1, d.before a0 Z = true) : (Jvm.Cond.methodLink "com/example/zonewright/zonewright/storage/ServiceInstanceEqualsPinLaw" (31 : Nat) ({ cls := "com/example/zonewright/zonewright/storage/ServiceInstance", name := "<init>", desc := "(Ljava/lang/String;Ljava/lang/String;Ljava/lang/String;Ljava/lang/String;)V" } : Jvm.MethodName)).before a0 Z = true := hw _ (List.mem_of_getElem? (i := 36) rfl)
theorem ow37 {Z : State} {a0 : Array Value} (hw : ∀ d ∈ tables_1, d.before a0 Z = true) : (Jvm.Cond.instanceMethod ({ cls := "com/example/zonewright/zonewright/storage/ServiceInstance", name := "<init>", desc := "(Ljava/lang/String;Ljava/lang/String;Ljava/lang/String;Ljava/lang/String;)V" } : Jvm.MethodName)).before a0 Z = true := hw _ (List.mem_of_getElem? (i := 37) rfl)
theorem ow38 {Z : State} {a0 : Array Value} (hw : ∀ d ∈ tables_1, d.before a0 Z = true) : (Jvm.Cond.code ({ cls := "com/example/zonewright/zonewright/storage/ServiceInstance", name := "<init>", desc := "(Ljava/lang/String;Ljava/lang/String;Ljava/lang/String;Ljava/lang/String;)V" } : Jvm.MethodName) prog_29_method_1_code (5 : Nat) (Option.none : Option Jvm.ClassFile.FieldType)).before a0 Z = true := hw _ (List.mem_of_getElem? (i := 38) rfl)
theorem ow39 {Z : State} {a0 : Array Value} (hw : ∀ d ∈ tables_1, d.before a0 Z = true) : (Jvm.Cond.methodLink "com/example/zonewright/zonewright/storage/ServiceInstance" (1 : Nat) ({ cls := "java/lang/Object", name := "<init>", desc := "()V" } : Jvm.MethodName)).before a0 Z = true := hw _ (List.mem_of_getElem? (i := 39) rfl)
theorem ow40 {Z : State} {a0 : Array Value} (hw : ∀ d ∈ tables_1, d.before a0 Z = true) : (Jvm.Cond.fieldLink "com/example/zonewright/zonewright/storage/ServiceInstance" (7 : Nat) "com/example/zonewright/zonewright/storage/ServiceInstance" "id" "Ljava/lang/String;").before a0 Z = true := hw _ (List.mem_of_getElem? (i := 40) rfl)
theorem ow41 {Z : State} {a0 : Array Value} (hw : ∀ d ∈ tables_1, d.before a0 Z = true) : (Jvm.Cond.laysFinal "com/example/zonewright/zonewright/storage/ServiceInstance" "com/example/zonewright/zonewright/storage/ServiceInstance" "id" "Ljava/lang/String;").before a0 Z = true := hw _ (List.mem_of_getElem? (i := 41) rfl)
theorem ow42 {Z : State} {a0 : Array Value} (hw : ∀ d ∈ tables_1, d.before a0 Z = true) : (Jvm.Cond.fieldLink "com/example/zonewright/zonewright/storage/ServiceInstance" (13 : Nat) "com/example/zonewright/zonewright/storage/ServiceInstance" "planId" "Ljava/lang/String;").before a0 Z = true := hw _ (List.mem_of_getElem? (i := 42) rfl)
theorem ow43 {Z : State} {a0 : Array Value} (hw : ∀ d ∈ tables_1, d.before a0 Z = true) : (Jvm.Cond.laysFinal "com/example/zonewright/zonewright/storage/ServiceInstance" "com/example/zonewright/zonewright/storage/ServiceInstance" "planId" "Ljava/lang/String;").before a0 Z = true := hw _ (List.mem_of_getElem? (i := 43) rfl)
theorem ow44 {Z : State} {a0 : Array Value} (hw : ∀ d ∈ tables_1, d.before a0 Z = true) : (Jvm.Cond.fieldLink "com/example/zonewright/zonewright/storage/ServiceInstance" (16 : Nat) "com/example/zonewright/zonewright/storage/ServiceInstance" "organizationGuid" "Ljava/lang/String;").before a0 Z = true := hw _ (List.mem_of_getElem? (i := 44) rfl)
theorem ow45 {Z : State} {a0 : Array Value} (hw : ∀ d ∈ tables_1, d.before a0 Z = true) : (Jvm.Cond.laysFinal "com/example/zonewright/zonewright/storage/ServiceInstance" "com/example/zonewright/zonewright/storage/ServiceInstance" "organizationGuid" "Ljava/lang/String;").before a0 Z = true := hw _ (List.mem_of_getElem? (i := 45) rfl)
theorem ow46 {Z : State} {a0 : Array Value} (hw : ∀ d ∈ tables_1, d.before a0 Z = true) : (Jvm.Cond.fieldLink "com/example/zonewright/zonewright/storage/ServiceInstance" (19 : Nat) "com/example/zonewright/zonewright/storage/ServiceInstance" "spaceGuid" "Ljava/lang/String;").before a0 Z = true := hw _ (List.mem_of_getElem? (i := 46) rfl)
theorem ow47 {Z : State} {a0 : Array Value} (hw : ∀ d ∈ tables_1, d.before a0 Z = true) : (Jvm.Cond.laysFinal "com/example/zonewright/zonewright/storage/ServiceInstance" "com/example/zonewright/zonewright/storage/ServiceInstance" "spaceGuid" "Ljava/lang/String;").before a0 Z = true := hw _ (List.mem_of_getElem? (i := 47) rfl)
theorem ow48 {Z : State} {a0 : Array Value} (hw : ∀ d ∈ tables_1, d.before a0 Z = true) : (Jvm.Cond.methodLink "com/example/zonewright/zonewright/storage/ServiceInstanceEqualsPinLaw" (34 : Nat) ({ cls := "com/example/zonewright/zonewright/storage/ServiceInstanceEqualsPinLaw", name := "mk", desc := "(II)Ljava/lang/String;" } : Jvm.MethodName)).before a0 Z = true := hw _ (List.mem_of_getElem? (i := 48) rfl)
theorem ow49 {Z : State} {a0 : Array Value} (hw : ∀ d ∈ tables_1, d.before a0 Z = true) : (Jvm.Cond.static ({ cls := "com/example/zonewright/zonewright/storage/ServiceInstanceEqualsPinLaw", name := "mk", desc := "(II)Ljava/lang/String;" } : Jvm.MethodName)).before a0 Z = true := hw _ (List.mem_of_getElem? (i := 49) rfl)
theorem ow50 {Z : State} {a0 : Array Value} (hw : ∀ d ∈ tables_1, d.before a0 Z = true) : (Jvm.Cond.code ({ cls := "com/example/zonewright/zonewright/storage/ServiceInstanceEqualsPinLaw", name := "mk", desc := "(II)Ljava/lang/String;" } : Jvm.MethodName) method_5_code (2 : Nat) (Option.some (Jvm.ClassFile.FieldType.object "java/lang/String"))).before a0 Z = true := hw _ (List.mem_of_getElem? (i := 50) rfl)
theorem ow51 {Z : State} {a0 : Array Value} (hw : ∀ d ∈ tables_1, d.before a0 Z = true) : (Jvm.Cond.methodLink "com/example/zonewright/zonewright/storage/ServiceInstanceEqualsPinLaw" (38 : Nat) ({ cls := "com/example/zonewright/zonewright/storage/ServiceInstanceEqualsPinLaw", name := "same", desc := "(II)Z" } : Jvm.MethodName)).before a0 Z = true := hw _ (List.mem_of_getElem? (i := 51) rfl)
theorem ow52 {Z : State} {a0 : Array Value} (hw : ∀ d ∈ tables_1, d.before a0 Z = true) : (Jvm.Cond.static ({ cls := "com/example/zonewright/zonewright/storage/ServiceInstanceEqualsPinLaw", name := "same", desc := "(II)Z" } : Jvm.MethodName)).before a0 Z = true := hw _ (List.mem_of_getElem? (i := 52) rfl)
theorem ow53 {Z : State} {a0 : Array Value} (hw : ∀ d ∈ tables_1, d.before a0 Z = true) : (Jvm.Cond.code ({ cls := "com/example/zonewright/zonewright/storage/ServiceInstanceEqualsPinLaw", name := "same", desc := "(II)Z" } : Jvm.MethodName) method_6_code (2 : Nat) (Option.some Jvm.ClassFile.FieldType.boolean)).before a0 Z = true := hw _ (List.mem_of_getElem? (i := 53) rfl)
theorem ow54 {Z : State} {a0 : Array Value} (hw : ∀ d ∈ tables_1, d.before a0 Z = true) : (Jvm.Cond.methodLink "com/example/zonewright/zonewright/storage/ServiceInstanceEqualsPinLaw" (42 : Nat) ({ cls := "com/example/zonewright/zonewright/storage/ServiceInstance", name := "equals", desc := "(Ljava/lang/Object;)Z" } : Jvm.MethodName)).before a0 Z = true := hw _ (List.mem_of_getElem? (i := 54) rfl)
theorem ow55 {Z : State} {a0 : Array Value} (hw : ∀ d ∈ tables_1, d.before a0 Z = true) : (Jvm.Cond.declares ({ cls := "com/example/zonewright/zonewright/storage/ServiceInstance", name := "equals", desc := "(Ljava/lang/Object;)Z" } : Jvm.MethodName)).before a0 Z = true := hw _ (List.mem_of_getElem? (i := 55) rfl)
theorem ow56 {Z : State} {a0 : Array Value} (hw : ∀ d ∈ tables_1, d.before a0 Z = true) : (Jvm.Cond.instanceMethod ({ cls := "com/example/zonewright/zonewright/storage/ServiceInstance", name := "equals", desc := "(Ljava/lang/Object;)Z" } : Jvm.MethodName)).before a0 Z = true := hw _ (List.mem_of_getElem? (i := 56) rfl)
theorem ow57 {Z : State} {a0 : Array Value} (hw : ∀ d ∈ tables_1, d.before a0 Z = true) : (Jvm.Cond.selects "com/example/zonewright/zonewright/storage/ServiceInstance" ({ cls := "com/example/zonewright/zonewright/storage/ServiceInstance", name := "equals", desc := "(Ljava/lang/Object;)Z" } : Jvm.MethodName) ({ cls := "com/example/zonewright/zonewright/storage/ServiceInstance", name := "equals", desc := "(Ljava/lang/Object;)Z" } : Jvm.MethodName)).before a0 Z = true := hw _ (List.mem_of_getElem? (i := 57) rfl)
theorem ow58 {Z : State} {a0 : Array Value} (hw : ∀ d ∈ tables_1, d.before a0 Z = true) : (Jvm.Cond.code ({ cls := "com/example/zonewright/zonewright/storage/ServiceInstance", name := "equals", desc := "(Ljava/lang/Object;)Z" } : Jvm.MethodName) prog_29_method_6_code (3 : Nat) (Option.some Jvm.ClassFile.FieldType.boolean)).before a0 Z = true := hw _ (List.mem_of_getElem? (i := 58) rfl)
theorem ow59 {Z : State} {a0 : Array Value} (hw : ∀ d ∈ tables_1, d.before a0 Z = true) : (Jvm.Cond.classLink "com/example/zonewright/zonewright/storage/ServiceInstance" (8 : Nat) "com/example/zonewright/zonewright/storage/ServiceInstance").before a0 Z = true := hw _ (List.mem_of_getElem? (i := 59) rfl)
theorem ow61 {Z : State} {a0 : Array Value} (hw : ∀ d ∈ tables_1, d.before a0 Z = true) : (Jvm.Cond.methodLink "com/example/zonewright/zonewright/storage/ServiceInstance" (22 : Nat) ({ cls := "java/lang/String", name := "equals", desc := "(Ljava/lang/Object;)Z" } : Jvm.MethodName)).before a0 Z = true := hw _ (List.mem_of_getElem? (i := 61) rfl)
theorem ow62 {Z : State} {a0 : Array Value} (hw : ∀ d ∈ tables_1, d.before a0 Z = true) : (Jvm.Cond.declares ({ cls := "java/lang/String", name := "equals", desc := "(Ljava/lang/Object;)Z" } : Jvm.MethodName)).before a0 Z = true := hw _ (List.mem_of_getElem? (i := 62) rfl)
theorem ow63 {Z : State} {a0 : Array Value} (hw : ∀ d ∈ tables_1, d.before a0 Z = true) : (Jvm.Cond.instanceMethod ({ cls := "java/lang/String", name := "equals", desc := "(Ljava/lang/Object;)Z" } : Jvm.MethodName)).before a0 Z = true := hw _ (List.mem_of_getElem? (i := 63) rfl)
theorem ow64 {Z : State} {a0 : Array Value} (hw : ∀ d ∈ tables_1, d.before a0 Z = true) : (Jvm.Cond.selects "java/lang/String" ({ cls := "java/lang/String", name := "equals", desc := "(Ljava/lang/Object;)Z" } : Jvm.MethodName) ({ cls := "java/lang/String", name := "equals", desc := "(Ljava/lang/Object;)Z" } : Jvm.MethodName)).before a0 Z = true := hw _ (List.mem_of_getElem? (i := 64) rfl)
theorem ow65 {Z : State} {a0 : Array Value} (hw : ∀ d ∈ tables_1, d.before a0 Z = true) : (Jvm.Cond.code ({ cls := "java/lang/String", name := "equals", desc := "(Ljava/lang/Object;)Z" } : Jvm.MethodName) jdk_42_method_66_code (3 : Nat) (Option.some Jvm.ClassFile.FieldType.boolean)).before a0 Z = true := hw _ (List.mem_of_getElem? (i := 65) rfl)
theorem ow66 {Z : State} {a0 : Array Value} (hw : ∀ d ∈ tables_1, d.before a0 Z = true) : (Jvm.Cond.methodLink "java/lang/String" (541 : Nat) ({ cls := "java/lang/StringLatin1", name := "equals", desc := "([B[B)Z" } : Jvm.MethodName)).before a0 Z = true := hw _ (List.mem_of_getElem? (i := 66) rfl)
theorem ow67 {Z : State} {a0 : Array Value} (hw : ∀ d ∈ tables_1, d.before a0 Z = true) : (Jvm.Cond.static ({ cls := "java/lang/StringLatin1", name := "equals", desc := "([B[B)Z" } : Jvm.MethodName)).before a0 Z = true := hw _ (List.mem_of_getElem? (i := 67) rfl)
theorem ow68 {Z : State} {a0 : Array Value} (hw : ∀ d ∈ tables_1, d.before a0 Z = true) : (Jvm.Cond.code ({ cls := "java/lang/StringLatin1", name := "equals", desc := "([B[B)Z" } : Jvm.MethodName) jdk_43_method_13_code (3 : Nat) (Option.some Jvm.ClassFile.FieldType.boolean)).before a0 Z = true := hw _ (List.mem_of_getElem? (i := 68) rfl)
theorem ow69 {Z : State} {a0 : Array Value} (hw : ∀ d ∈ tables_1, d.before a0 Z = true) : (Jvm.Cond.classLink "com/example/zonewright/zonewright/storage/ServiceInstanceEqualsPinLaw" (14 : Nat) "java/lang/String").before a0 Z = true := hw _ (List.mem_of_getElem? (i := 69) rfl)
theorem ow70 {Z : State} {a0 : Array Value} (hw : ∀ d ∈ tables_1, d.before a0 Z = true) : (Jvm.Cond.arrayClass Jvm.ClassFile.FieldType.char).before a0 Z = true := hw _ (List.mem_of_getElem? (i := 70) rfl)
theorem ow71 {Z : State} {a0 : Array Value} (hw : ∀ d ∈ tables_1, d.before a0 Z = true) : (Jvm.Cond.methodLink "com/example/zonewright/zonewright/storage/ServiceInstanceEqualsPinLaw" (19 : Nat) ({ cls := "com/example/zonewright/zonewright/storage/ServiceInstanceEqualsPinLaw", name := "c2", desc := "(I)C" } : Jvm.MethodName)).before a0 Z = true := hw _ (List.mem_of_getElem? (i := 71) rfl)
theorem ow72 {Z : State} {a0 : Array Value} (hw : ∀ d ∈ tables_1, d.before a0 Z = true) : (Jvm.Cond.static ({ cls := "com/example/zonewright/zonewright/storage/ServiceInstanceEqualsPinLaw", name := "c2", desc := "(I)C" } : Jvm.MethodName)).before a0 Z = true := hw _ (List.mem_of_getElem? (i := 72) rfl)
theorem ow73 {Z : State} {a0 : Array Value} (hw : ∀ d ∈ tables_1, d.before a0 Z = true) : (Jvm.Cond.code ({ cls := "com/example/zonewright/zonewright/storage/ServiceInstanceEqualsPinLaw", name := "c2", desc := "(I)C" } : Jvm.MethodName) method_3_code (1 : Nat) (Option.some Jvm.ClassFile.FieldType.char)).before a0 Z = true := hw _ (List.mem_of_getElem? (i := 73) rfl)
theorem ow74 {Z : State} {a0 : Array Value} (hw : ∀ d ∈ tables_1, d.before a0 Z = true) : (Jvm.Cond.methodLink "com/example/zonewright/zonewright/storage/ServiceInstanceEqualsPinLaw" (22 : Nat) ({ cls := "java/lang/String", name := "<init>", desc := "([C)V" } : Jvm.MethodName)).before a0 Z = true := hw _ (List.mem_of_getElem? (i := 74) rfl)
theorem ow75 {Z : State} {a0 : Array Value} (hw : ∀ d ∈ tables_1, d.before a0 Z = true) : (Jvm.Cond.instanceMethod ({ cls := "java/lang/String", name := "<init>", desc := "([C)V" } : Jvm.MethodName)).before a0 Z = true := hw _ (List.mem_of_getElem? (i := 75) rfl)
theorem ow76 {Z : State} {a0 : Array Value} (hw : ∀ d ∈ tables_1, d.before a0 Z = true) : (Jvm.Cond.code ({ cls := "java/lang/String", name := "<init>", desc := "([C)V" } : Jvm.MethodName) jdk_42_method_3_code (2 : Nat) (Option.none : Option Jvm.ClassFile.FieldType)).before a0 Z = true := hw _ (List.mem_of_getElem? (i := 76) rfl)
theorem ow77 {Z : State} {a0 : Array Value} (hw : ∀ d ∈ tables_1, d.before a0 Z = true) : (Jvm.Cond.methodLink "java/lang/String" (27 : Nat) ({ cls := "java/lang/String", name := "<init>", desc := "([CIILjava/lang/Void;)V" } : Jvm.MethodName)).before a0 Z = true := hw _ (List.mem_of_getElem? (i := 77) rfl)
theorem ow78 {Z : State} {a0 : Array Value} (hw : ∀ d ∈ tables_1, d.before a0 Z = true) : (Jvm.Cond.instanceMethod ({ cls := "java/lang/String", name := "<init>", desc := "([CIILjava/lang/Void;)V" } : Jvm.MethodName)).before a0 Z = true := hw _ (List.mem_of_getElem? (i := 78) rfl)
theorem ow79 {Z : State} {a0 : Array Value} (hw : ∀ d ∈ tables_1, d.before a0 Z = true) : (Jvm.Cond.code ({ cls := "java/lang/String", name := "<init>", desc := "([CIILjava/lang/Void;)V" } : Jvm.MethodName) jdk_42_method_149_code (6 : Nat) (Option.none : Option Jvm.ClassFile.FieldType)).before a0 Z = true := hw _ (List.mem_of_getElem? (i := 79) rfl)
theorem ow80 {Z : State} {a0 : Array Value} (hw : ∀ d ∈ tables_1, d.before a0 Z = true) : (Jvm.Cond.methodLink "java/lang/String" (177 : Nat) ({ cls := "java/lang/StringUTF16", name := "compress", desc := "([CII)[B" } : Jvm.MethodName)).before a0 Z = true := hw _ (List.mem_of_getElem? (i := 80) rfl)
theorem ow81 {Z : State} {a0 : Array Value} (hw : ∀ d ∈ tables_1, d.before a0 Z = true) : (Jvm.Cond.static ({ cls := "java/lang/StringUTF16", name := "compress", desc := "([CII)[B" } : Jvm.MethodName)).before a0 Z = true := hw _ (List.mem_of_getElem? (i := 81) rfl)
theorem ow82 {Z : State} {a0 : Array Value} (hw : ∀ d ∈ tables_1, d.before a0 Z = true) : (Jvm.Cond.initialized "java/lang/StringUTF16").before a0 Z = true := hw _ (List.mem_of_getElem? (i := 82) rfl)
theorem ow83 {Z : State} {a0 : Array Value} (hw : ∀ d ∈ tables_1, d.before a0 Z = true) : (Jvm.Cond.code ({ cls := "java/lang/StringUTF16", name := "compress", desc := "([CII)[B" } : Jvm.MethodName) jdk_52_method_16_code (6 : Nat) (Option.some (Jvm.ClassFile.FieldType.array Jvm.ClassFile.FieldType.byte))).before a0 Z = true := hw _ (List.mem_of_getElem? (i := 83) rfl)
theorem ow84 {Z : State} {a0 : Array Value} (hw : ∀ d ∈ tables_1, d.before a0 Z = true) : (Jvm.Cond.methodLink "java/lang/StringUTF16" (115 : Nat) ({ cls := "java/lang/StringUTF16", name := "compress", desc := "([CI[BII)I" } : Jvm.MethodName)).before a0 Z = true := hw _ (List.mem_of_getElem? (i := 84) rfl)
theorem ow85 {Z : State} {a0 : Array Value} (hw : ∀ d ∈ tables_1, d.before a0 Z = true) : (Jvm.Cond.static ({ cls := "java/lang/StringUTF16", name := "compress", desc := "([CI[BII)I" } : Jvm.MethodName)).before a0 Z = true := hw _ (List.mem_of_getElem? (i := 85) rfl)
theorem ow86 {Z : State} {a0 : Array Value} (hw : ∀ d ∈ tables_1, d.before a0 Z = true) : (Jvm.Cond.code ({ cls := "java/lang/StringUTF16", name := "compress", desc := "([CI[BII)I" } : Jvm.MethodName) jdk_52_method_21_code (7 : Nat) (Option.some Jvm.ClassFile.FieldType.int)).before a0 Z = true := hw _ (List.mem_of_getElem? (i := 86) rfl)
theorem ow87 {Z : State} {a0 : Array Value} (hw : ∀ d ∈ tables_1, d.before a0 Z = true) : (Jvm.Cond.methodLink "java/lang/String" (47 : Nat) ({ cls := "java/lang/StringUTF16", name := "coderFromArrayLen", desc := "([BI)B" } : Jvm.MethodName)).before a0 Z = true := hw _ (List.mem_of_getElem? (i := 87) rfl)
theorem ow88 {Z : State} {a0 : Array Value} (hw : ∀ d ∈ tables_1, d.before a0 Z = true) : (Jvm.Cond.static ({ cls := "java/lang/StringUTF16", name := "coderFromArrayLen", desc := "([BI)B" } : Jvm.MethodName)).before a0 Z = true := hw _ (List.mem_of_getElem? (i := 88) rfl)
theorem ow89 {Z : State} {a0 : Array Value} (hw : ∀ d ∈ tables_1, d.before a0 Z = true) : (Jvm.Cond.code ({ cls := "java/lang/StringUTF16", name := "coderFromArrayLen", desc := "([BI)B" } : Jvm.MethodName) jdk_52_method_15_code (2 : Nat) (Option.some Jvm.ClassFile.FieldType.byte)).before a0 Z = true := hw _ (List.mem_of_getElem? (i := 89) rfl)
theorem ow90 {Z : State} {a0 : Array Value} (hw : ∀ d ∈ tables_1, d.before a0 Z = true) : (Jvm.Cond.superclass "java/lang/String" "java/lang/Object").before a0 Z = true := hw _ (List.mem_of_getElem? (i := 90) rfl)
theorem ow91 {Z : State} {a0 : Array Value} (hw : ∀ d ∈ tables_1, d.before a0 Z = true) : (Jvm.Cond.noSuperclass "java/lang/Object").before a0 Z = true := hw _ (List.mem_of_getElem? (i := 91) rfl)
theorem ow92 {Z : State} {a0 : Array Value} (hw : ∀ d ∈ tables_1, d.before a0 Z = true) : (Jvm.Cond.stringLink "java/lang/String" (7 : Nat) "").before a0 Z = true := hw _ (List.mem_of_getElem? (i := 92) rfl)
theorem ow93 {Z : State} {a0 : Array Value} (hw : ∀ d ∈ tables_1, d.before a0 Z = true) : (Jvm.Cond.soleField "java/lang/String" "value").before a0 Z = true := hw _ (List.mem_of_getElem? (i := 93) rfl)
theorem ow94 {Z : State} {a0 : Array Value} (hw : ∀ d ∈ tables_1, d.before a0 Z = true) : (Jvm.Cond.soleField "java/lang/String" "coder").before a0 Z = true := hw _ (List.mem_of_getElem? (i := 94) rfl)
def own_EL : List (String × Nat) := [("java/lang/String", 7)]
theorem own_mem0 : ("java/lang/String", 7) ∈ own_EL := List.mem_of_getElem? (i := 0) rfl
theorem own_EW {Z : State} {a0 : Array Value} (hw : ∀ d ∈ tables_1, d.before a0 Z = true) : EW Z a0 own_EL := (EW.cons (ow92 hw) (by decide) EW.nil)
theorem own_sA {Z : State} {a0 : Array Value} (hw : ∀ d ∈ tables_1, d.before a0 Z = true) : ∀ a ∈ Bundle.stringAtoms, a.before a0 Z = true := by
  intro a ha
  simp only [Bundle.stringAtoms, List.mem_cons, List.not_mem_nil, or_false] at ha
  rcases ha with rfl | rfl | rfl | rfl | rfl | rfl | rfl
  · exact (ow12 hw)
  · exact (ow20 hw)
  · exact (ow24 hw)
  · exact (ow33 hw)
  · exact (ow35 hw)
  · exact (ow93 hw)
  · exact (ow94 hw)

def own_c1 (p : Int32) : Int32 := (p &&& (255 : Int32)).toUInt32.toUInt16.toUInt32.toInt32
def own_c2 (p : Int32) : Int32 := ((XT.ushr p (8 : Int32)) &&& (255 : Int32)).toUInt32.toUInt16.toUInt32.toInt32
def own_b (c : Int32) : Int32 := nar .byte (c.toInt8.toInt32)
def own_t (m : Int32) : Int32 := if m = 0 then 1 else if m = 1 then 1 else 0
def own_bb (m p : Int32) : Int32 := if m = 0 then own_b (own_c1 p) else own_b (own_c2 p)
def own_same (m p : Int32) : Int32 := if m = 0 then 1 else if m = 1 then (if own_c1 p = own_c2 p then 1 else 0) else 0
def own_e (a b : Int32) : Int32 := if a = b then 1 else 0
def own_eq (t a b : Int32) : Int32 := if t = 1 then own_e a b else 0
def own_4 (a b c d : Int32) : Int32 := if a = 0 then 0 else if b = 0 then 0 else if c = 0 then 0 else if d = 0 then 0 else 1
theorem own_lo (y : Int32) : 0 ≤ ((y &&& (255 : Int32)).toUInt32.toUInt16.toUInt32.toInt32).toInt ∧ ((y &&& (255 : Int32)).toUInt32.toUInt16.toUInt32.toInt32).toInt < 256 := by
  have q := c_i2c (y &&& (255 : Int32))
  have a4 : (y &&& (255 : Int32)).toInt = y.toInt % (2 ^ 8 : Nat) := c_mask y 255 8 (by decide) (by decide)
  omega
theorem own_c1r (p : Int32) : 0 ≤ (own_c1 p).toInt ∧ (own_c1 p).toInt < 256 := own_lo p
theorem own_c2r (p : Int32) : 0 ≤ (own_c2 p).toInt ∧ (own_c2 p).toInt < 256 := own_lo _
theorem own_le {c : Int32} (q : 0 ≤ c.toInt ∧ c.toInt < 256) : ¬ (255 : Int32) < c := fun z => by
  have u := Int32.lt_iff_toInt_lt.mp z
  have e : (255 : Int32).toInt = 255 := by decide
  omega
theorem own_c1l (p : Int32) : ¬ (255 : Int32) < own_c1 p := own_le (own_c1r p)
theorem own_c2l (p : Int32) : ¬ (255 : Int32) < own_c2 p := own_le (own_c2r p)
theorem own_n1 (p : Int32) : ¬ (255 : Int32) < nar .char (own_c1 p) := by rw [show nar .char (own_c1 p) = own_c1 p from own_narnar _]; exact own_c1l p
theorem own_n2 (p : Int32) : ¬ (255 : Int32) < nar .char (own_c2 p) := by rw [show nar .char (own_c2 p) = own_c2 p from own_narnar _]; exact own_c2l p
theorem own_binj {a b : Int32} (qa : 0 ≤ a.toInt ∧ a.toInt < 256) (qb : 0 ≤ b.toInt ∧ b.toInt < 256) (h : own_b a = own_b b) : a = b := by
  apply Int32.toInt_inj.mp
  have h2 : (own_b a).toInt = (own_b b).toInt := by rw [h]
  have a2 := c_i2b a
  have a3 := c_i2b a.toInt8.toInt32
  have a5 : (own_b a).toInt = (a.toInt8.toInt32).toInt8.toInt32.toInt := rfl
  have b2 := c_i2b b
  have b3 := c_i2b b.toInt8.toInt32
  have b5 : (own_b b).toInt = (b.toInt8.toInt32).toInt8.toInt32.toInt := rfl
  omega
theorem own_es (m p : Int32) : own_eq (own_t m) (own_b (own_c1 p)) (own_bb m p) = own_same m p := by
  by_cases h0 : m = 0
  · simp [own_eq, own_t, own_bb, own_same, own_e, h0]
  · by_cases h1 : m = 1
    · by_cases h2 : own_c1 p = own_c2 p
      · simp [own_eq, own_t, own_bb, own_same, own_e, h1, h2]
      · have h3 : ¬ own_b (own_c1 p) = own_b (own_c2 p) := fun z => h2 (own_binj (own_c1r p) (own_c2r p) z)
        simp [own_eq, own_t, own_bb, own_same, own_e, h1, h2, h3]
    · simp [own_eq, own_t, own_bb, own_same, own_e, h0, h1]
theorem own_bb0 {m p : Int32} (h : m = 0) : own_bb m p = own_b (own_c1 p) := if_pos h
theorem own_bb1 {m p : Int32} (h : ¬ m = 0) : own_bb m p = own_b (own_c2 p) := if_neg h
theorem own_eq1 {t a b : Int32} (ht : t = 1) (h : ¬ own_e a b = 0) : own_eq t a b = 1 := by
  rw [own_eq, if_pos ht]; unfold own_e at h ⊢; split <;> simp_all
theorem own_eq0 {t a b : Int32} (ht : t = 1) (h : own_e a b = 0) : own_eq t a b = 0 := by rw [own_eq, if_pos ht, h]
theorem own_eqz {t a b : Int32} (ht : t = 0) : own_eq t a b = 0 := by rw [own_eq, if_neg (by rw [ht]; decide)]

theorem pn0 : plainName "com/example/zonewright/zonewright/storage/ServiceInstanceEqualsPinLaw" = true := by first | (simp [plainName, overriddenIn]; done) | decide +kernel
theorem d2_0 : decode method_2_code 0 = .ok (.iload_n 0, 1) := by decide +kernel
theorem d2_1 : decode method_2_code 1 = .ok (.sipush 255, 3) := by decide +kernel
theorem d2_4 : decode method_2_code 4 = .ok (.iand, 1) := by decide +kernel
theorem d2_5 : decode method_2_code 5 = .ok (.i2c, 1) := by decide +kernel
theorem d2_6 : decode method_2_code 6 = .ok (.ireturn, 1) := by decide +kernel
theorem ef_rc1 (m : MethodId) (x0 : Int32) : entryFrame m #[(.int x0)] 1 = mkF m 0 #[.val (.int x0)] [] := by first | (simp [entryFrame, mkF, argsToLocals, Value.category]; done) | rfl
def Q_rc1 (Z : State) (x0 : Int32) (h0 : Heap) (n0 : Nat) (v : Option Value) (h : Heap) (L : List Loc) : Prop := v = some (.int (own_c1 x0)) ∧ Fr n0 L ∧ h = h0
set_option maxRecDepth 65536 in
set_option maxHeartbeats 40000000 in
theorem rc1 (l : Launch) (Z : State) (a0 : Array Value) (hw : ∀ d ∈ tables_1, d.before a0 Z = true) (ws : List Jvm.Cond) (x0 : Int32) (h0 : Heap) (n0 : Nat) (Z0 : n0 ≤ h0.size)  :
    OCon l Z (⟨"com/example/zonewright/zonewright/storage/ServiceInstanceEqualsPinLaw", "c1", "(I)C"⟩ : MethodName) method_2_code 1 (some .char) ws ({ frames := 0, cells := 0, slots := 0, locals := 0 } : Room) #[(.int x0)] h0 (Q_rc1 Z x0 h0 n0) := by
  refine OCon.of (plainFor_of_name pn0) ?_
  intro p e s m below meth c s₁ Φ X0 hx hby hml hown hnm hret hlk hZ e0 hΦ
  have N0 := Fr.nil n0
  refine os (fun _ z => castTop (ef_rc1 m x0) z) ?_
  show OG p e below Φ s₁ m 0 #[iv x0] []
  refine os (fun _ z => XS.iloadN X0.here hx rfl (hb hby d2_0) rfl z) ?_
  show OG p e below Φ s₁ m 1 #[iv x0] [(.int x0)]
  refine os (fun _ z => XS.sipush X0.here hx rfl (hb hby d2_1) z) ?_
  show OG p e below Φ s₁ m 4 #[iv x0] [(.int 255), (.int x0)]
  refine os (fun _ z => XS.iand X0.here hx rfl (hb hby d2_4) rfl z) ?_
  show OG p e below Φ s₁ m 5 #[iv x0] [(.int (x0 &&& (255 : Int32)))]
  refine os (fun _ z => XT.i2c X0.here hx rfl (hb hby d2_5) rfl z) ?_
  show OG p e below Φ s₁ m 6 #[iv x0] [(.int ((x0 &&& (255 : Int32)).toUInt32.toUInt16.toUInt32.toInt32))]
  refine OGo.fin X0 hlk (v := (some (.int ((x0 &&& (255 : Int32)).toUInt32.toUInt16.toUInt32.toInt32)))) (fun h => by rw [hret] at h; cases h) (by decide) (by decide) (fun fs hr => X0.ireturnOut hx hret (XT.narrow_c _) (by simp) (hb hby d2_6) hr) fun U eU hF => hΦ _ _ _ ?_ hF
  rw [eU, e0]
  show Q_rc1 Z x0 h0 n0 _ _ _
  exact ⟨rfl, N0, rfl⟩

theorem d14_0 : decode method_3_code 0 = .ok (.iload_n 0, 1) := by decide +kernel
theorem d14_1 : decode method_3_code 1 = .ok (.bipush 8, 2) := by decide +kernel
theorem d14_3 : decode method_3_code 3 = .ok (.iushr, 1) := by decide +kernel
theorem d14_4 : decode method_3_code 4 = .ok (.sipush 255, 3) := by decide +kernel
theorem d14_7 : decode method_3_code 7 = .ok (.iand, 1) := by decide +kernel
theorem d14_8 : decode method_3_code 8 = .ok (.i2c, 1) := by decide +kernel
theorem d14_9 : decode method_3_code 9 = .ok (.ireturn, 1) := by decide +kernel
theorem ef_rc2 (m : MethodId) (x0 : Int32) : entryFrame m #[(.int x0)] 1 = mkF m 0 #[.val (.int x0)] [] := by first | (simp [entryFrame, mkF, argsToLocals, Value.category]; done) | rfl
def Q_rc2 (Z : State) (x0 : Int32) (h0 : Heap) (n0 : Nat) (v : Option Value) (h : Heap) (L : List Loc) : Prop := v = some (.int (own_c2 x0)) ∧ Fr n0 L ∧ h = h0
set_option maxRecDepth 65536 in
set_option maxHeartbeats 40000000 in
theorem rc2 (l : Launch) (Z : State) (a0 : Array Value) (hw : ∀ d ∈ tables_1, d.before a0 Z = true) (ws : List Jvm.Cond) (x0 : Int32) (h0 : Heap) (n0 : Nat) (Z0 : n0 ≤ h0.size)  :
    OCon l Z (⟨"com/example/zonewright/zonewright/storage/ServiceInstanceEqualsPinLaw", "c2", "(I)C"⟩ : MethodName) method_3_code 1 (some .char) ws ({ frames := 0, cells := 0, slots := 0, locals := 0 } : Room) #[(.int x0)] h0 (Q_rc2 Z x0 h0 n0) := by
  refine OCon.of (plainFor_of_name pn0) ?_
  intro p e s m below meth c s₁ Φ X0 hx hby hml hown hnm hret hlk hZ e0 hΦ
  have N0 := Fr.nil n0
  refine os (fun _ z => castTop (ef_rc2 m x0) z) ?_
  show OG p e below Φ s₁ m 0 #[iv x0] []
  refine os (fun _ z => XS.iloadN X0.here hx rfl (hb hby d14_0) rfl z) ?_
  show OG p e below Φ s₁ m 1 #[iv x0] [(.int x0)]
  refine os (fun _ z => XS.bipush X0.here hx rfl (hb hby d14_1) z) ?_
  show OG p e below Φ s₁ m 3 #[iv x0] [(.int 8), (.int x0)]
  refine os (fun _ z => XT.iushr X0.here hx rfl (hb hby d14_3) rfl z) ?_
  show OG p e below Φ s₁ m 4 #[iv x0] [(.int (XT.ushr x0 (8 : Int32)))]
  refine os (fun _ z => XS.sipush X0.here hx rfl (hb hby d14_4) z) ?_
  show OG p e below Φ s₁ m 7 #[iv x0] [(.int 255), (.int (XT.ushr x0 (8 : Int32)))]
  refine os (fun _ z => XS.iand X0.here hx rfl (hb hby d14_7) rfl z) ?_
  show OG p e below Φ s₁ m 8 #[iv x0] [(.int ((XT.ushr x0 (8 : Int32)) &&& (255 : Int32)))]
  refine os (fun _ z => XT.i2c X0.here hx rfl (hb hby d14_8) rfl z) ?_
  show OG p e below Φ s₁ m 9 #[iv x0] [(.int (((XT.ushr x0 (8 : Int32)) &&& (255 : Int32)).toUInt32.toUInt16.toUInt32.toInt32))]
  refine OGo.fin X0 hlk (v := (some (.int (((XT.ushr x0 (8 : Int32)) &&& (255 : Int32)).toUInt32.toUInt16.toUInt32.toInt32)))) (fun h => by rw [hret] at h; cases h) (by decide) (by decide) (fun fs hr => X0.ireturnOut hx hret (XT.narrow_c _) (by simp) (hb hby d14_9) hr) fun U eU hF => hΦ _ _ _ ?_ hF
  rw [eU, e0]
  show Q_rc2 Z x0 h0 n0 _ _ _
  exact ⟨rfl, N0, rfl⟩

theorem d10_0 : decode method_6_code 0 = .ok (.iload_n 0, 1) := by decide +kernel
theorem d10_1 : decode method_6_code 1 = .ok (.ifCond .ne 5, 3) := by decide +kernel
theorem d10_4 : decode method_6_code 4 = .ok (.iconst 1, 1) := by decide +kernel
theorem d10_5 : decode method_6_code 5 = .ok (.ireturn, 1) := by decide +kernel
theorem d10_6 : decode method_6_code 6 = .ok (.iload_n 0, 1) := by decide +kernel
theorem d10_7 : decode method_6_code 7 = .ok (.iconst 1, 1) := by decide +kernel
theorem d10_8 : decode method_6_code 8 = .ok (.if_icmp .ne 20, 3) := by decide +kernel
theorem d10_11 : decode method_6_code 11 = .ok (.iload_n 1, 1) := by decide +kernel
theorem d10_12 : decode method_6_code 12 = .ok (.invokestatic 7, 3) := by decide +kernel
theorem pd0 : parseMethodDescriptor "(I)C" = some ⟨[.int], some .char⟩ := by decide +kernel
theorem d10_15 : decode method_6_code 15 = .ok (.iload_n 1, 1) := by decide +kernel
theorem d10_16 : decode method_6_code 16 = .ok (.invokestatic 19, 3) := by decide +kernel
theorem d10_19 : decode method_6_code 19 = .ok (.if_icmp .ne 7, 3) := by decide +kernel
theorem d10_22 : decode method_6_code 22 = .ok (.iconst 1, 1) := by decide +kernel
theorem d10_23 : decode method_6_code 23 = .ok (.goto 4, 3) := by decide +kernel
theorem d10_27 : decode method_6_code 27 = .ok (.ireturn, 1) := by decide +kernel
theorem d10_26 : decode method_6_code 26 = .ok (.iconst 0, 1) := by decide +kernel
theorem d10_28 : decode method_6_code 28 = .ok (.iconst 0, 1) := by decide +kernel
theorem d10_29 : decode method_6_code 29 = .ok (.ireturn, 1) := by decide +kernel
theorem ef_rsm (m : MethodId) (x0 : Int32) (x1 : Int32) : entryFrame m #[(.int x0), (.int x1)] 2 = mkF m 0 #[.val (.int x0), .val (.int x1)] [] := by first | (simp [entryFrame, mkF, argsToLocals, Value.category]; done) | rfl
def Q_rsm (Z : State) (x0 : Int32) (x1 : Int32) (h0 : Heap) (n0 : Nat) (v : Option Value) (h : Heap) (L : List Loc) : Prop := v = some (.int (own_same x0 x1)) ∧ Fr n0 L ∧ h = h0
set_option maxRecDepth 65536 in
set_option maxHeartbeats 40000000 in
theorem rsm (l : Launch) (Z : State) (a0 : Array Value) (hw : ∀ d ∈ tables_1, d.before a0 Z = true) (ws : List Jvm.Cond) (x0 : Int32) (x1 : Int32) (h0 : Heap) (n0 : Nat) (Z0 : n0 ≤ h0.size)  :
    OCon l Z (⟨"com/example/zonewright/zonewright/storage/ServiceInstanceEqualsPinLaw", "same", "(II)Z"⟩ : MethodName) method_6_code 2 (some .boolean) ws ({ frames := 1, cells := 0, slots := 0, locals := 13 } : Room) #[(.int x0), (.int x1)] h0 (Q_rsm Z x0 x1 h0 n0) := by
  refine OCon.of (plainFor_of_name pn0) ?_
  intro p e s m below meth c s₁ Φ X0 hx hby hml hown hnm hret hlk hZ e0 hΦ
  have N0 := Fr.nil n0
  refine os (fun _ z => castTop (ef_rsm m x0 x1) z) ?_
  show OG p e below Φ s₁ m 0 #[iv x0, iv x1] []
  refine os (fun _ z => XS.iloadN X0.here hx rfl (hb hby d10_0) rfl z) ?_
  show OG p e below Φ s₁ m 1 #[iv x0, iv x1] [(.int x0)]
  by_cases hc1 : x0 = 0
  · refine os (fun _ z => XS.ifNo X0.here hx rfl (hb hby d10_1) rfl (XT.i0_ne_f hc1) z) ?_
    show OG p e below Φ s₁ m 4 #[iv x0, iv x1] []
    refine os (fun _ z => XS.iconst X0.here hx rfl (hb hby d10_4) z) ?_
    show OG p e below Φ s₁ m 5 #[iv x0, iv x1] [(.int 1)]
    refine OGo.fin X0 hlk (v := (some (.int 1))) (fun h => by rw [hret] at h; cases h) (by decide) (by decide) (fun fs hr => X0.ireturnOut hx hret rfl (by simp) (hb hby d10_5) hr) fun U eU hF => hΦ _ _ _ ?_ hF
    rw [eU, e0]
    show Q_rsm Z x0 x1 h0 n0 _ _ _
    exact ⟨by simp [own_same, hc1], N0, rfl⟩
  · refine os (fun _ z => XS.ifYes X0.here hx rfl (pc0 := 1) (pc' := 6) rfl (hb hby d10_1) rfl (XT.i0_ne_t hc1) (by decide) (by decide) z) ?_
    show OG p e below Φ s₁ m 6 #[iv x0, iv x1] []
    refine os (fun _ z => XS.iloadN X0.here hx rfl (hb hby d10_6) rfl z) ?_
    show OG p e below Φ s₁ m 7 #[iv x0, iv x1] [(.int x0)]
    refine os (fun _ z => XS.iconst X0.here hx rfl (hb hby d10_7) z) ?_
    show OG p e below Φ s₁ m 8 #[iv x0, iv x1] [(.int 1), (.int x0)]
    by_cases hc2 : x0 = (1 : Int32)
    · refine os (fun _ z => XS.icmpNo X0.here hx rfl (hb hby d10_8) rfl (XT.ii_ne_f hc2) z) ?_
      show OG p e below Φ s₁ m 11 #[iv x0, iv x1] []
      refine os (fun _ z => XS.iloadN X0.here hx rfl (hb hby d10_11) rfl z) ?_
      show OG p e below Φ s₁ m 12 #[iv x0, iv x1] [(.int x1)]
      obtain ⟨_, T3, L3, X3, hQ3, st3⟩ := own_callSt X0 hx hZ hown (ow7 hw) (ow8 hw) (ow5 hw) (ow9 hw) (by decide) (rc1 l Z a0 hw [] x1 h0 n0 Z0 ) e0 (W := 0) (by decide) (by decide) (by decide) (by decide) (pc := 12) (ls := #[iv x0, iv x1]) (stk := [(.int x1)]) (by rw [hml]; rfl) (argsL := [(.int x1)]) (rest := []) (lenOf pd0 rfl) rfl rfl (Nat.le_of_eq rfl) (hb hby d10_12)
      obtain ⟨rfl, Nq3, e3⟩ := hQ3
      have N3 := Fr.app N0 Nq3
      refine os st3 ?_
      show OG p e below Φ T3 m 15 #[iv x0, iv x1] [(.int (own_c1 x1))]
      refine os (fun _ z => XS.iloadN X3.here hx rfl (hb hby d10_15) rfl z) ?_
      show OG p e below Φ T3 m 16 #[iv x0, iv x1] [(.int x1), (.int (own_c1 x1))]
      obtain ⟨_, T4, L4, X4, hQ4, st4⟩ := own_callSt X3 hx hZ hown (ow71 hw) (ow72 hw) (ow5 hw) (ow73 hw) (by decide) (rc2 l Z a0 hw [] x1 h0 n0 Z0 ) e3 (W := 1) (by decide) (by decide) (by decide) (by decide) (pc := 16) (ls := #[iv x0, iv x1]) (stk := [(.int x1), (.int (own_c1 x1))]) (by rw [hml]; rfl) (argsL := [(.int x1)]) (rest := [(.int (own_c1 x1))]) (lenOf pd0 rfl) rfl rfl (Nat.le_of_eq rfl) (hb hby d10_16)
      obtain ⟨rfl, Nq4, e4⟩ := hQ4
      have N4 := Fr.app N3 Nq4
      refine os st4 ?_
      show OG p e below Φ T4 m 19 #[iv x0, iv x1] [(.int (own_c2 x1)), (.int (own_c1 x1))]
      by_cases hc5 : (own_c1 x1) = (own_c2 x1)
      · refine os (fun _ z => XS.icmpNo X4.here hx rfl (hb hby d10_19) rfl (XT.ii_ne_f hc5) z) ?_
        show OG p e below Φ T4 m 22 #[iv x0, iv x1] []
        refine os (fun _ z => XS.iconst X4.here hx rfl (hb hby d10_22) z) ?_
        show OG p e below Φ T4 m 23 #[iv x0, iv x1] [(.int 1)]
        refine os (fun _ z => XS.goto X4.here hx rfl (pc0 := 23) (pc' := 27) rfl (hb hby d10_23) (by decide) (by decide) z) ?_
        show OG p e below Φ T4 m 27 #[iv x0, iv x1] [(.int 1)]
        refine OGo.fin X4 hlk (v := (some (.int 1))) (fun h => by rw [hret] at h; cases h) (by decide) (by decide) (fun fs hr => X4.ireturnOut hx hret rfl (by simp) (hb hby d10_27) hr) fun U eU hF => hΦ _ _ _ ?_ hF
        rw [eU, e4]
        show Q_rsm Z x0 x1 h0 n0 _ _ _
        exact ⟨by simp [own_same, hc1, hc2, hc5], N4, rfl⟩
      · refine os (fun _ z => XS.icmpYes X4.here hx rfl (pc0 := 19) (pc' := 26) rfl (hb hby d10_19) rfl (XT.ii_ne_t hc5) (by decide) (by decide) z) ?_
        show OG p e below Φ T4 m 26 #[iv x0, iv x1] []
        refine os (fun _ z => XS.iconst X4.here hx rfl (hb hby d10_26) z) ?_
        show OG p e below Φ T4 m 27 #[iv x0, iv x1] [(.int 0)]
        refine OGo.fin X4 hlk (v := (some (.int 0))) (fun h => by rw [hret] at h; cases h) (by decide) (by decide) (fun fs hr => X4.ireturnOut hx hret rfl (by simp) (hb hby d10_27) hr) fun U eU hF => hΦ _ _ _ ?_ hF
        rw [eU, e4]
        show Q_rsm Z x0 x1 h0 n0 _ _ _
        exact ⟨by simp [own_same, hc1, hc2, hc5], N4, rfl⟩
    · refine os (fun _ z => XS.icmpYes X0.here hx rfl (pc0 := 8) (pc' := 28) rfl (hb hby d10_8) rfl (XT.ii_ne_t hc2) (by decide) (by decide) z) ?_
      show OG p e below Φ s₁ m 28 #[iv x0, iv x1] []
      refine os (fun _ z => XS.iconst X0.here hx rfl (hb hby d10_28) z) ?_
      show OG p e below Φ s₁ m 29 #[iv x0, iv x1] [(.int 0)]
      refine OGo.fin X0 hlk (v := (some (.int 0))) (fun h => by rw [hret] at h; cases h) (by decide) (by decide) (fun fs hr => X0.ireturnOut hx hret rfl (by simp) (hb hby d10_29) hr) fun U eU hF => hΦ _ _ _ ?_ hF
      rw [eU, e0]
      show Q_rsm Z x0 x1 h0 n0 _ _ _
      exact ⟨by simp [own_same, hc1, hc2], N0, rfl⟩

theorem pn1 : plainName "java/lang/String" = true := by first | (simp [plainName, overriddenIn]; done) | decide +kernel
theorem d16_0 : decode jdk_42_method_149_code 0 = .ok (.aload_n 0, 1) := by decide +kernel
theorem d16_1 : decode jdk_42_method_149_code 1 = .ok (.invokespecial 1, 3) := by decide +kernel
theorem d16_4 : decode jdk_42_method_149_code 4 = .ok (.iload_n 3, 1) := by decide +kernel
theorem d16_5 : decode jdk_42_method_149_code 5 = .ok (.ifCond .ne 22, 3) := by decide +kernel
theorem d16_8 : decode jdk_42_method_149_code 8 = .ok (.aload_n 0, 1) := by decide +kernel
theorem d16_9 : decode jdk_42_method_149_code 9 = .ok (.ldc 7, 2) := by decide +kernel
theorem d16_11 : decode jdk_42_method_149_code 11 = .ok (.getfield 9, 3) := by decide +kernel
theorem d16_14 : decode jdk_42_method_149_code 14 = .ok (.putfield 9, 3) := by decide +kernel
theorem d16_17 : decode jdk_42_method_149_code 17 = .ok (.aload_n 0, 1) := by decide +kernel
theorem d16_18 : decode jdk_42_method_149_code 18 = .ok (.ldc 7, 2) := by decide +kernel
theorem d16_20 : decode jdk_42_method_149_code 20 = .ok (.getfield 15, 3) := by decide +kernel
theorem d16_23 : decode jdk_42_method_149_code 23 = .ok (.putfield 15, 3) := by decide +kernel
theorem d16_26 : decode jdk_42_method_149_code 26 = .ok (.return_, 1) := by decide +kernel
theorem ef_rsee4 (m : MethodId) (x0 : Addr) (x1 : Addr) (x2 : Int32) (x3 : Int32) : entryFrame m #[(.ref x0), (.ref x1), (.int x2), (.int x3), .null] 6 = mkF m 0 #[.val (.ref x0), .val (.ref x1), .val (.int x2), .val (.int x3), .val .null, .unset] [] := by first | (simp [entryFrame, mkF, argsToLocals, Value.category]; done) | rfl
def Q_rsee4 (Z : State) (s_ : Addr) (a : Addr) (ca : ClassId) (h0 : Heap) (n0 : Nat) (v : Option Value) (h : Heap) (L : List Loc) : Prop := v = none ∧ Fr n0 L ∧ Keep h0 h [s_] ∧ Exa Z h s_ "java/lang/String" ∧ ∃ b cb, Fld Z h s_ "java/lang/String" "value" "[B" (.ref b) ∧ Fld Z h s_ "java/lang/String" "coder" "B" (.int (0 : Int32)) ∧ Arv Z h b cb .byte (0 : Int32) [] (.int (0 : Int32))
set_option maxRecDepth 65536 in
set_option maxHeartbeats 40000000 in
theorem rsee4 (l : Launch) (Z : State) (a0 : Array Value) (hw : ∀ d ∈ tables_1, d.before a0 Z = true) (ws : List Jvm.Cond) (s_ : Addr) (a : Addr) (ca : ClassId) (h0 : Heap) (n0 : Nat) (Z0 : n0 ≤ h0.size) (E_s : Exa Z h0 s_ "java/lang/String") (g_s : n0 ≤ s_) (F_v : Fld Z h0 s_ "java/lang/String" "value" "[B" .null) (F_c : Fld Z h0 s_ "java/lang/String" "coder" "B" (.int (0 : Int32))) (V_a : Arv Z h0 a ca .char (0 : Int32) [] (.int (0 : Int32))) (nsa : s_ ≠ a) :
    OConW l Z own_EL (⟨"java/lang/String", "<init>", "([CIILjava/lang/Void;)V"⟩ : MethodName) jdk_42_method_149_code 6 none ws ({ frames := 1, cells := 2, slots := 4, locals := 12 } : Room) #[(.ref s_), (.ref a), (.int (0 : Int32)), (.int (0 : Int32)), .null] h0 [s_] (Q_rsee4 Z s_ a ca h0 n0) := by
  refine OConW.of (plainFor_of_name pn1) ?_
  intro p e s m below meth c s₁ Φ X0 hx hby hml hown hnm hret hlk hZ e0 hS hkk hC hsf hΦ
  have sf_s_ := hsf s_ (List.mem_of_getElem? (i := 0) rfl)
  have N0 := Fr.nil n0
  refine os (fun _ z => castTop (ef_rsee4 m s_ a (0 : Int32) (0 : Int32)) z) ?_
  have K0 := Keep.refl h0 [s_]
  show OG p e below Φ s₁ m 0 #[rv s_, rv a, iv 0, iv 0, .val .null, .unset] []
  refine os (fun _ z => XS.aloadN X0.here hx rfl (hb hby d16_0) rfl rfl z) ?_
  show OG p e below Φ s₁ m 1 #[rv s_, rv a, iv 0, iv 0, .val .null, .unset] [(.ref s_)]
  obtain ⟨T1, X1, e1, st1⟩ := initO X0 hx hZ hown (ow29 hw) (ow30 hw) (ow31 hw) e0 (g := (mkF m 1 #[rv s_, rv a, iv 0, iv 0, .val .null, .unset] [(.ref s_)])) rfl (by rw [hml]; rfl) rfl (hb hby d16_1) (by decide) (W := 0) (Nat.le_of_eq rfl) (by decide)
  refine os st1 ?_
  show OG p e below Φ T1 m 4 #[rv s_, rv a, iv 0, iv 0, .val .null, .unset] []
  refine os (fun _ z => XS.iloadN X1.here hx rfl (hb hby d16_4) rfl z) ?_
  show OG p e below Φ T1 m 5 #[rv s_, rv a, iv 0, iv 0, .val .null, .unset] [(.int 0)]
  refine os (fun _ z => XS.ifNo X1.here hx rfl (hb hby d16_5) rfl (XT.i0_ne_f (by decide)) z) ?_
  show OG p e below Φ T1 m 8 #[rv s_, rv a, iv 0, iv 0, .val .null, .unset] []
  refine os (fun _ z => XS.aloadN X1.here hx rfl (hb hby d16_8) rfl rfl z) ?_
  show OG p e below Φ T1 m 9 #[rv s_, rv a, iv 0, iv 0, .val .null, .unset] [(.ref s_)]
  obtain ⟨a2, T2, h2, kq2, b2, cb2, X2, e2, E2, hS, hkk, hZ, hown, Ex2, Fc2, Fv2, Vb2, -, -, hB2, Li2, ne2, st2⟩ := ldcCH X1 hx hZ hown (ow92 hw) (own_sA hw) e1 hS hkk (own_EW hw) (own_mem0) hC.1 (vs := []) (z := 0) ⟨by decide, by decide⟩ (by decide) (by decide) (g := (mkF m 9 #[rv s_, rv a, iv 0, iv 0, .val .null, .unset] [(.ref s_)])) rfl (hb hby d16_9) (n := 0) (by decide) (by decide) (by decide) (by decide)
  have F3 := E_s.ext E2
  have F4 := F_v.ext E2
  have F5 := F_c.ext E2
  have F6 := V_a.ext E2
  have K2 := K0.ext E2
  have Zs2 : n0 ≤ h2.size := Nat.le_trans Z0 E2.1
  have hA7 := hB2
  have sf_s_ := hA7.safe E_s.lt sf_s_
  have hkk := hkk
  have hC := hC.trans hA7
  have nl2_s_ := ne2 s_ sf_s_
  refine os st2 ?_
  show OG p e below Φ T2 m 11 #[rv s_, rv a, iv 0, iv 0, .val .null, .unset] [(.ref a2), (.ref s_)]
  obtain ⟨T8, X8, e8, st8⟩ := getF X2 hx hZ hown (host := "") (Or.inl (ow32 hw)) Via.refl e2 Fv2 (g := (mkF m 11 #[rv s_, rv a, iv 0, iv 0, .val .null, .unset] [(.ref a2), (.ref s_)])) rfl rfl (hb hby d16_11)
  refine os st8 ?_
  show OG p e below Φ T8 m 14 #[rv s_, rv a, iv 0, iv 0, .val .null, .unset] [(.ref b2), (.ref s_)]
  obtain ⟨T9, h9, X9, e9, W9, st9⟩ := putF X8 hx hZ hown (host := "") (Or.inl (ow32 hw)) Via.refl e8 F4 F3 (Or.inr ⟨(ow33 hw), rfl, hnm⟩) (ow20 hw) (ty := (.array .byte)) (by decide) rfl rfl (g := (mkF m 14 #[rv s_, rv a, iv 0, iv 0, .val .null, .unset] [(.ref b2), (.ref s_)])) rfl rfl (hb hby d16_14)
  have F10 := F3.wr W9
  have F11 := F4.same W9
  have F12 := F5.other W9 (Or.inr (slot_ne (Or.inr (ow35 hw)) (Or.inr (ow33 hw)) (by decide) (t := .byte) (t' := (.array .byte)) (by decide) (by decide)))
  have F13 := F6.other W9 (Ne.symm nsa)
  have F14 := Ex2.wr W9
  have F15 := Fc2.other W9 (Or.inl (Ne.symm nl2_s_.1))
  have F16 := Fv2.other W9 (Or.inl (Ne.symm nl2_s_.1))
  have F17 := Vb2.other W9 (Ne.symm nl2_s_.2)
  have K9 := K2.wr W9 (Or.inl (List.mem_of_getElem? (i := 0) rfl))
  have N9 := Fr.snoc X9 N0 g_s
  have Zs9 : n0 ≤ h9.size := by rw [W9.size]; exact Zs2
  have hA18 := CHr.wr W9 sf_s_ hC.1
  have sf_s_ := hA18.safe F3.lt sf_s_
  have hkk := Nat.le_trans hkk hA18.2.1
  have hC := hC.trans hA18
  refine os st9 ?_
  show OG p e below Φ T9 m 17 #[rv s_, rv a, iv 0, iv 0, .val .null, .unset] []
  refine os (fun _ z => XS.aloadN X9.here hx rfl (hb hby d16_17) rfl rfl z) ?_
  show OG p e below Φ T9 m 18 #[rv s_, rv a, iv 0, iv 0, .val .null, .unset] [(.ref s_)]
  refine os (ldcAgain X9 hx hZ hown (ow92 hw) Li2 (g := (mkF m 18 #[rv s_, rv a, iv 0, iv 0, .val .null, .unset] [(.ref s_)])) rfl (hb hby d16_18)) ?_
  show OG p e below Φ T9 m 20 #[rv s_, rv a, iv 0, iv 0, .val .null, .unset] [(.ref a2), (.ref s_)]
  obtain ⟨T19, X19, e19, st19⟩ := getF X9 hx hZ hown (host := "") (Or.inl (ow34 hw)) Via.refl e9 F15 (g := (mkF m 20 #[rv s_, rv a, iv 0, iv 0, .val .null, .unset] [(.ref a2), (.ref s_)])) rfl rfl (hb hby d16_20)
  refine os st19 ?_
  show OG p e below Φ T19 m 23 #[rv s_, rv a, iv 0, iv 0, .val .null, .unset] [(.int 0), (.ref s_)]
  obtain ⟨T20, h20, X20, e20, W20, st20⟩ := putF X19 hx hZ hown (host := "") (Or.inl (ow34 hw)) Via.refl e19 F12 F10 (Or.inr ⟨(ow35 hw), rfl, hnm⟩) (ow20 hw) (ty := .byte) (by decide) (by decide) (by decide) (g := (mkF m 23 #[rv s_, rv a, iv 0, iv 0, .val .null, .unset] [(.int 0), (.ref s_)])) rfl rfl (hb hby d16_23)
  have F21 := F10.wr W20
  have F22 := F11.other W20 (Or.inr (slot_ne (Or.inr (ow33 hw)) (Or.inr (ow35 hw)) (by decide) (t := (.array .byte)) (t' := .byte) (by decide) (by decide)))
  have F23 := F12.same W20
  have F24 := F13.other W20 (Ne.symm nsa)
  have F25 := F14.wr W20
  have F26 := F15.other W20 (Or.inl (Ne.symm nl2_s_.1))
  have F27 := F16.other W20 (Or.inl (Ne.symm nl2_s_.1))
  have F28 := F17.other W20 (Ne.symm nl2_s_.2)
  have K20 := K9.wr W20 (Or.inl (List.mem_of_getElem? (i := 0) rfl))
  have N20 := Fr.snoc X20 N9 g_s
  have Zs20 : n0 ≤ h20.size := by rw [W20.size]; exact Zs9
  have hA29 := CHr.wr W20 sf_s_ hC.1
  have sf_s_ := hA29.safe F10.lt sf_s_
  have hkk := Nat.le_trans hkk hA29.2.1
  have hC := hC.trans hA29
  refine os st20 ?_
  show OG p e below Φ T20 m 26 #[rv s_, rv a, iv 0, iv 0, .val .null, .unset] []
  refine OGo.finW X20 hlk hS e20 hkk (v := none) (fun _ => rfl) (by decide) (by decide) hZ (own_EW hw) hC (fun fs hr => X20.returnOut hx hret (hb hby d16_26) hr) fun U eU hc hF => hΦ _ _ _ ?_ hc hF
  rw [eU]
  show Q_rsee4 Z s_ a ca h0 n0 _ _ _
  exact ⟨rfl, N20, K20, F21, _, _, F22, F23, F28⟩

theorem d15_0 : decode jdk_42_method_3_code 0 = .ok (.aload_n 0, 1) := by decide +kernel
theorem d15_1 : decode jdk_42_method_3_code 1 = .ok (.aload_n 1, 1) := by decide +kernel
theorem d15_2 : decode jdk_42_method_3_code 2 = .ok (.iconst 0, 1) := by decide +kernel
theorem d15_3 : decode jdk_42_method_3_code 3 = .ok (.aload_n 1, 1) := by decide +kernel
theorem d15_4 : decode jdk_42_method_3_code 4 = .ok (.arraylength, 1) := by decide +kernel
theorem d15_5 : decode jdk_42_method_3_code 5 = .ok (.aconst_null, 1) := by decide +kernel
theorem d15_6 : decode jdk_42_method_3_code 6 = .ok (.invokespecial 27, 3) := by decide +kernel
theorem pd1 : parseMethodDescriptor "([CIILjava/lang/Void;)V" = some ⟨[(.array .char), .int, .int, (.object "java/lang/Void")], none⟩ := by decide +kernel
theorem d15_9 : decode jdk_42_method_3_code 9 = .ok (.return_, 1) := by decide +kernel
theorem ef_rsee1 (m : MethodId) (x0 : Addr) (x1 : Addr) : entryFrame m #[(.ref x0), (.ref x1)] 2 = mkF m 0 #[.val (.ref x0), .val (.ref x1)] [] := by first | (simp [entryFrame, mkF, argsToLocals, Value.category]; done) | rfl
def Q_rsee1 (Z : State) (s_ : Addr) (a : Addr) (ca : ClassId) (h0 : Heap) (n0 : Nat) (v : Option Value) (h : Heap) (L : List Loc) : Prop := v = none ∧ Fr n0 L ∧ Keep h0 h [s_] ∧ Exa Z h s_ "java/lang/String" ∧ ∃ b cb, Fld Z h s_ "java/lang/String" "value" "[B" (.ref b) ∧ Fld Z h s_ "java/lang/String" "coder" "B" (.int (0 : Int32)) ∧ Arv Z h b cb .byte (0 : Int32) [] (.int (0 : Int32))
set_option maxRecDepth 65536 in
set_option maxHeartbeats 40000000 in
theorem rsee1 (l : Launch) (Z : State) (a0 : Array Value) (hw : ∀ d ∈ tables_1, d.before a0 Z = true) (ws : List Jvm.Cond) (s_ : Addr) (a : Addr) (ca : ClassId) (h0 : Heap) (n0 : Nat) (Z0 : n0 ≤ h0.size) (E_s : Exa Z h0 s_ "java/lang/String") (g_s : n0 ≤ s_) (F_v : Fld Z h0 s_ "java/lang/String" "value" "[B" .null) (F_c : Fld Z h0 s_ "java/lang/String" "coder" "B" (.int (0 : Int32))) (V_a : Arv Z h0 a ca .char (0 : Int32) [] (.int (0 : Int32))) (nsa : s_ ≠ a) :
    OConW l Z own_EL (⟨"java/lang/String", "<init>", "([C)V"⟩ : MethodName) jdk_42_method_3_code 2 none ws ({ frames := 2, cells := 2, slots := 4, locals := 29 } : Room) #[(.ref s_), (.ref a)] h0 [s_] (Q_rsee1 Z s_ a ca h0 n0) := by
  refine OConW.of (plainFor_of_name pn1) ?_
  intro p e s m below meth c s₁ Φ X0 hx hby hml hown hnm hret hlk hZ e0 hS hkk hC hsf hΦ
  have sf_s_ := hsf s_ (List.mem_of_getElem? (i := 0) rfl)
  have N0 := Fr.nil n0
  refine os (fun _ z => castTop (ef_rsee1 m s_ a) z) ?_
  have K0 := Keep.refl h0 [s_]
  show OG p e below Φ s₁ m 0 #[rv s_, rv a] []
  refine os (fun _ z => XS.aloadN X0.here hx rfl (hb hby d15_0) rfl rfl z) ?_
  show OG p e below Φ s₁ m 1 #[rv s_, rv a] [(.ref s_)]
  refine os (fun _ z => XS.aloadN X0.here hx rfl (hb hby d15_1) rfl rfl z) ?_
  show OG p e below Φ s₁ m 2 #[rv s_, rv a] [(.ref a), (.ref s_)]
  refine os (fun _ z => XS.iconst X0.here hx rfl (hb hby d15_2) z) ?_
  show OG p e below Φ s₁ m 3 #[rv s_, rv a] [(.int 0), (.ref a), (.ref s_)]
  refine os (fun _ z => XS.aloadN X0.here hx rfl (hb hby d15_3) rfl rfl z) ?_
  show OG p e below Φ s₁ m 4 #[rv s_, rv a] [(.ref a), (.int 0), (.ref a), (.ref s_)]
  obtain ⟨cl1, Aq1, -, S1, M1, -, -⟩ := id V_a
  refine os (fun _ z => X0.arraylength hx (by rw [e0]; exact Aq1.1) (oia hZ Aq1.2.1) (g := (mkF m 4 #[rv s_, rv a] [(.ref a), (.int 0), (.ref a), (.ref s_)])) rfl rfl (hb hby d15_4) _ z) ?_
  rw [len_of S1 M1]
  show OG p e below Φ s₁ m 5 #[rv s_, rv a] [(.int 0), (.int 0), (.ref a), (.ref s_)]
  refine os (fun _ z => XS.aconstNull X0.here hx rfl (hb hby d15_5) z) ?_
  show OG p e below Φ s₁ m 6 #[rv s_, rv a] [.null, (.int 0), (.int 0), (.ref a), (.ref s_)]
  obtain ⟨_, T2, L2, X2, hQ2, st2, hS, hZ, hown, hB2⟩ := own_callSpW X0 hx hZ rfl hown (ow77 hw) (ow78 hw) (ow12 hw) (ow79 hw) (by decide) (rsee4 l Z a0 hw [] s_ a ca h0 n0 Z0 E_s g_s F_v F_c V_a nsa) e0 (W := 0) (by decide) (by decide) (by decide) (by decide) (pc := 6) (ls := #[rv s_, rv a]) (stk := [.null, (.int 0), (.int 0), (.ref a), (.ref s_)]) (by rw [hml]; rfl) (a := s_) (argsL := [(.ref a), (.int 0), (.int 0), .null]) (rest := []) (lenOf pd1 rfl) rfl rfl (Nat.le_of_eq rfl) (hb hby d15_6) hS hkk (own_EW hw) hC (allS ⟨E_s.lt, sf_s_⟩ all0)
  obtain ⟨rfl, Nq2, Kq2, Eq2, b2, cb2, Fv2, Fc2, Vq2⟩ := hQ2
  have N2 := Fr.app N0 Nq2
  have Zs2 : n0 ≤ T2.heap.size := Nat.le_trans Z0 Kq2.1
  have F3 := V_a.keep Kq2 (ninS (Ne.symm nsa) nin0)
  have K2 := K0.trans Kq2 (allS (Or.inl (List.mem_of_getElem? (i := 0) rfl)) all0)
  have hA4 := hB2
  have sf_s_ := hA4.safe E_s.lt sf_s_
  have hkk := Nat.le_refl T2.heap.size
  have hC := hC.trans hA4
  refine os st2 ?_
  show OG p e below Φ T2 m 9 #[rv s_, rv a] []
  refine OGo.finW X2 hlk hS rfl hkk (v := none) (fun _ => rfl) (by decide) (by decide) hZ (own_EW hw) hC (fun fs hr => X2.returnOut hx hret (hb hby d15_9) hr) fun U eU hc hF => hΦ _ _ _ ?_ hc hF
  rw [eU]
  show Q_rsee1 Z s_ a ca h0 n0 _ _ _
  exact ⟨rfl, N2, K2, Eq2, _, _, Fv2, Fc2, Vq2⟩

theorem pn2 : plainName "java/lang/StringUTF16" = true := by first | (simp [plainName, overriddenIn]; done) | decide +kernel
theorem d18_0 : decode jdk_52_method_21_code 0 = .ok (.iconst 0, 1) := by decide +kernel
theorem d18_1 : decode jdk_52_method_21_code 1 = .ok (.istore 5, 2) := by decide +kernel
theorem d18_3 : decode jdk_52_method_21_code 3 = .ok (.iload 5, 2) := by decide +kernel
theorem d18_5 : decode jdk_52_method_21_code 5 = .ok (.iload 4, 2) := by decide +kernel
theorem d18_7 : decode jdk_52_method_21_code 7 = .ok (.if_icmp .ge 37, 3) := by decide +kernel
theorem d18_10 : decode jdk_52_method_21_code 10 = .ok (.aload_n 0, 1) := by decide +kernel
theorem d18_11 : decode jdk_52_method_21_code 11 = .ok (.iload_n 1, 1) := by decide +kernel
theorem d18_12 : decode jdk_52_method_21_code 12 = .ok (.caload, 1) := by decide +kernel
theorem d18_13 : decode jdk_52_method_21_code 13 = .ok (.istore 6, 2) := by decide +kernel
theorem d18_15 : decode jdk_52_method_21_code 15 = .ok (.iload 6, 2) := by decide +kernel
theorem d18_17 : decode jdk_52_method_21_code 17 = .ok (.sipush 255, 3) := by decide +kernel
theorem d18_20 : decode jdk_52_method_21_code 20 = .ok (.if_icmp .le 6, 3) := by decide +kernel
theorem d18_26 : decode jdk_52_method_21_code 26 = .ok (.aload_n 2, 1) := by decide +kernel
theorem d18_27 : decode jdk_52_method_21_code 27 = .ok (.iload_n 3, 1) := by decide +kernel
theorem d18_28 : decode jdk_52_method_21_code 28 = .ok (.iload 6, 2) := by decide +kernel
theorem d18_30 : decode jdk_52_method_21_code 30 = .ok (.i2b, 1) := by decide +kernel
theorem d18_31 : decode jdk_52_method_21_code 31 = .ok (.bastore, 1) := by decide +kernel
theorem d18_32 : decode jdk_52_method_21_code 32 = .ok (.iinc 1 1, 3) := by decide +kernel
theorem d18_35 : decode jdk_52_method_21_code 35 = .ok (.iinc 3 1, 3) := by decide +kernel
theorem d18_38 : decode jdk_52_method_21_code 38 = .ok (.iinc 5 1, 3) := by decide +kernel
theorem d18_41 : decode jdk_52_method_21_code 41 = .ok (.goto (-38), 3) := by decide +kernel
theorem d18_44 : decode jdk_52_method_21_code 44 = .ok (.iload 4, 2) := by decide +kernel
theorem d18_46 : decode jdk_52_method_21_code 46 = .ok (.ireturn, 1) := by decide +kernel
theorem ef_rslc2 (m : MethodId) (x0 : Addr) (x1 : Int32) (x2 : Addr) (x3 : Int32) (x4 : Int32) : entryFrame m #[(.ref x0), (.int x1), (.ref x2), (.int x3), (.int x4)] 7 = mkF m 0 #[.val (.ref x0), .val (.int x1), .val (.ref x2), .val (.int x3), .val (.int x4), .unset, .unset] [] := by first | (simp [entryFrame, mkF, argsToLocals, Value.category]; done) | rfl
def Q_rslc2 (Z : State) (a : Addr) (ca : ClassId) (b : Addr) (cb : ClassId) (c0_ : Int32) (c1_ : Int32) (h0 : Heap) (n0 : Nat) (v : Option Value) (h : Heap) (L : List Loc) : Prop := v = some (.int (2 : Int32)) ∧ Fr n0 L ∧ Keep h0 h [b] ∧ Arv Z h b cb .byte (2 : Int32) [(.int (nar .byte (c0_.toInt8.toInt32))), (.int (nar .byte (c1_.toInt8.toInt32)))] (.int (0 : Int32))
set_option maxRecDepth 65536 in
set_option maxHeartbeats 40000000 in
theorem rslc2 (l : Launch) (Z : State) (a0 : Array Value) (hw : ∀ d ∈ tables_1, d.before a0 Z = true) (ws : List Jvm.Cond) (a : Addr) (ca : ClassId) (b : Addr) (cb : ClassId) (c0_ : Int32) (c1_ : Int32) (h0 : Heap) (n0 : Nat) (Z0 : n0 ≤ h0.size) (V_a : Arv Z h0 a ca .char (2 : Int32) [(.int c0_), (.int c1_)] (.int (0 : Int32))) (V_b : Arv Z h0 b cb .byte (2 : Int32) [(.int (0 : Int32)), (.int (0 : Int32))] (.int (0 : Int32))) (nab : a ≠ b) (g_b : n0 ≤ b) (hl0 : ¬ (255 : Int32) < c0_) (hl1 : ¬ (255 : Int32) < c1_) :
    OCon l Z (⟨"java/lang/StringUTF16", "compress", "([CI[BII)I"⟩ : MethodName) jdk_52_method_21_code 7 (some .int) ws ({ frames := 0, cells := 0, slots := 0, locals := 0 } : Room) #[(.ref a), (.int (0 : Int32)), (.ref b), (.int (0 : Int32)), (.int (2 : Int32))] h0 (Q_rslc2 Z a ca b cb c0_ c1_ h0 n0) := by
  refine OCon.of (plainFor_of_name pn2) ?_
  intro p e s m below meth c s₁ Φ X0 hx hby hml hown hnm hret hlk hZ e0 hΦ
  have N0 := Fr.nil n0
  refine os (fun _ z => castTop (ef_rslc2 m a (0 : Int32) b (0 : Int32) (2 : Int32)) z) ?_
  have K0 := Keep.refl h0 [b]
  show OG p e below Φ s₁ m 0 #[rv a, iv 0, rv b, iv 0, iv 2, .unset, .unset] []
  refine os (fun _ z => XS.iconst X0.here hx rfl (hb hby d18_0) z) ?_
  show OG p e below Φ s₁ m 1 #[rv a, iv 0, rv b, iv 0, iv 2, .unset, .unset] [(.int 0)]
  refine os (fun _ z => XS.istore X0.here hx rfl (hb hby d18_1) rfl (l' := #[rv a, iv 0, rv b, iv 0, iv 2, iv 0, .unset]) rfl z) ?_
  show OG p e below Φ s₁ m 3 #[rv a, iv 0, rv b, iv 0, iv 2, iv 0, .unset] []
  refine os (fun _ z => XS.iload X0.here hx rfl (hb hby d18_3) rfl z) ?_
  show OG p e below Φ s₁ m 5 #[rv a, iv 0, rv b, iv 0, iv 2, iv 0, .unset] [(.int 0)]
  refine os (fun _ z => XS.iload X0.here hx rfl (hb hby d18_5) rfl z) ?_
  show OG p e below Φ s₁ m 7 #[rv a, iv 0, rv b, iv 0, iv 2, iv 0, .unset] [(.int 2), (.int 0)]
  refine os (fun _ z => XS.icmpNo X0.here hx rfl (hb hby d18_7) rfl (XT.ii_ge_f (by decide)) z) ?_
  show OG p e below Φ s₁ m 10 #[rv a, iv 0, rv b, iv 0, iv 2, iv 0, .unset] []
  refine os (fun _ z => XS.aloadN X0.here hx rfl (hb hby d18_10) rfl rfl z) ?_
  show OG p e below Φ s₁ m 11 #[rv a, iv 0, rv b, iv 0, iv 2, iv 0, .unset] [(.ref a)]
  refine os (fun _ z => XS.iloadN X0.here hx rfl (hb hby d18_11) rfl z) ?_
  show OG p e below Φ s₁ m 12 #[rv a, iv 0, rv b, iv 0, iv 2, iv 0, .unset] [(.int 0), (.ref a)]
  obtain ⟨cl1, Aq1, -, S1, M1, H1, -⟩ := id V_a
  have in1 : ¬ ((0 : Int32) < 0 ∨ cl1.slots.size ≤ (0 : Int32).toNatClampNeg) := inb_of S1 ⟨by decide, by decide⟩
  have at1 : cl1.slots[(0 : Int32).toNatClampNeg]? = some (.int c0_) := H1.at in1 rfl
  refine os (fun _ z => X0.caload hx (by rw [e0]; exact Aq1.1) (oia hZ Aq1.2.1) Aq1.2.2 in1 at1 (g := (mkF m 12 #[rv a, iv 0, rv b, iv 0, iv 2, iv 0, .unset] [(.int 0), (.ref a)])) rfl rfl (hb hby d18_12) _ z) ?_
  show OG p e below Φ s₁ m 13 #[rv a, iv 0, rv b, iv 0, iv 2, iv 0, .unset] [(.int c0_)]
  refine os (fun _ z => XS.istore X0.here hx rfl (hb hby d18_13) rfl (l' := #[rv a, iv 0, rv b, iv 0, iv 2, iv 0, iv c0_]) rfl z) ?_
  show OG p e below Φ s₁ m 15 #[rv a, iv 0, rv b, iv 0, iv 2, iv 0, iv c0_] []
  refine os (fun _ z => XS.iload X0.here hx rfl (hb hby d18_15) rfl z) ?_
  show OG p e below Φ s₁ m 17 #[rv a, iv 0, rv b, iv 0, iv 2, iv 0, iv c0_] [(.int c0_)]
  refine os (fun _ z => XS.sipush X0.here hx rfl (hb hby d18_17) z) ?_
  show OG p e below Φ s₁ m 20 #[rv a, iv 0, rv b, iv 0, iv 2, iv 0, iv c0_] [(.int 255), (.int c0_)]
  refine os (fun _ z => XS.icmpYes X0.here hx rfl (pc0 := 20) (pc' := 26) rfl (hb hby d18_20) rfl (XT.ii_le_t hl0) (by decide) (by decide) z) ?_
  show OG p e below Φ s₁ m 26 #[rv a, iv 0, rv b, iv 0, iv 2, iv 0, iv c0_] []
  refine os (fun _ z => XS.aloadN X0.here hx rfl (hb hby d18_26) rfl rfl z) ?_
  show OG p e below Φ s₁ m 27 #[rv a, iv 0, rv b, iv 0, iv 2, iv 0, iv c0_] [(.ref b)]
  refine os (fun _ z => XS.iloadN X0.here hx rfl (hb hby d18_27) rfl z) ?_
  show OG p e below Φ s₁ m 28 #[rv a, iv 0, rv b, iv 0, iv 2, iv 0, iv c0_] [(.int 0), (.ref b)]
  refine os (fun _ z => XS.iload X0.here hx rfl (hb hby d18_28) rfl z) ?_
  show OG p e below Φ s₁ m 30 #[rv a, iv 0, rv b, iv 0, iv 2, iv 0, iv c0_] [(.int c0_), (.int 0), (.ref b)]
  refine os (fun _ z => XT.i2b X0.here hx rfl (hb hby d18_30) rfl z) ?_
  show OG p e below Φ s₁ m 31 #[rv a, iv 0, rv b, iv 0, iv 2, iv 0, iv c0_] [(.int (c0_.toInt8.toInt32)), (.int 0), (.ref b)]
  obtain ⟨cl2, Aq2, Cq2, S2, M2, H2, G2⟩ := id V_b
  have in2 : ¬ ((0 : Int32) < 0 ∨ cl2.slots.size ≤ (0 : Int32).toNatClampNeg) := inb_of S2 ⟨by decide, by decide⟩
  obtain ⟨T2, h2, X2, e2, W2, st2⟩ := stB X0 hx hZ e0 Aq2 in2 (g := (mkF m 31 #[rv a, iv 0, rv b, iv 0, iv 2, iv 0, iv c0_] [(.int (c0_.toInt8.toInt32)), (.int 0), (.ref b)])) rfl rfl (hb hby d18_31)
  have W2 : Wr h0 h2 b (0 : Int32).toNatClampNeg (.int (nar .byte (c0_.toInt8.toInt32))) := W2
  have F3 := V_a.other W2 nab
  have V2 : Arv Z h2 b cb .byte (2 : Int32) [(.int (nar .byte (c0_.toInt8.toInt32))), (.int (0 : Int32))] (.int (0 : Int32)) := Arv.set Aq2 Cq2 S2 M2 H2 G2 (fits_nar_byte _) W2 0 (by decide) (by show 0 < 2; decide)
  have K2 := K0.wr W2 (Or.inl (List.mem_of_getElem? (i := 0) rfl))
  have N2 := Fr.snoc X2 N0 g_b
  have Zs2 : n0 ≤ h2.size := by rw [W2.size]; exact Z0
  refine os st2 ?_
  show OG p e below Φ T2 m 32 #[rv a, iv 0, rv b, iv 0, iv 2, iv 0, iv c0_] []
  refine os (fun _ z => XS.iinc X2.here hx rfl (hb hby d18_32) rfl (l' := #[rv a, iv ((0 : Int32) + (1 : Int32)), rv b, iv 0, iv 2, iv 0, iv c0_]) rfl z) ?_
  show OG p e below Φ T2 m 35 #[rv a, iv 1, rv b, iv 0, iv 2, iv 0, iv c0_] []
  refine os (fun _ z => XS.iinc X2.here hx rfl (hb hby d18_35) rfl (l' := #[rv a, iv 1, rv b, iv ((0 : Int32) + (1 : Int32)), iv 2, iv 0, iv c0_]) rfl z) ?_
  show OG p e below Φ T2 m 38 #[rv a, iv 1, rv b, iv 1, iv 2, iv 0, iv c0_] []
  refine os (fun _ z => XS.iinc X2.here hx rfl (hb hby d18_38) rfl (l' := #[rv a, iv 1, rv b, iv 1, iv 2, iv ((0 : Int32) + (1 : Int32)), iv c0_]) rfl z) ?_
  show OG p e below Φ T2 m 41 #[rv a, iv 1, rv b, iv 1, iv 2, iv 1, iv c0_] []
  refine os (fun _ z => XS.goto X2.here hx rfl (pc0 := 41) (pc' := 3) rfl (hb hby d18_41) (by decide) (by decide) z) ?_
  show OG p e below Φ T2 m 3 #[rv a, iv 1, rv b, iv 1, iv 2, iv 1, iv c0_] []
  refine os (fun _ z => XS.iload X2.here hx rfl (hb hby d18_3) rfl z) ?_
  show OG p e below Φ T2 m 5 #[rv a, iv 1, rv b, iv 1, iv 2, iv 1, iv c0_] [(.int 1)]
  refine os (fun _ z => XS.iload X2.here hx rfl (hb hby d18_5) rfl z) ?_
  show OG p e below Φ T2 m 7 #[rv a, iv 1, rv b, iv 1, iv 2, iv 1, iv c0_] [(.int 2), (.int 1)]
  refine os (fun _ z => XS.icmpNo X2.here hx rfl (hb hby d18_7) rfl (XT.ii_ge_f (by decide)) z) ?_
  show OG p e below Φ T2 m 10 #[rv a, iv 1, rv b, iv 1, iv 2, iv 1, iv c0_] []
  refine os (fun _ z => XS.aloadN X2.here hx rfl (hb hby d18_10) rfl rfl z) ?_
  show OG p e below Φ T2 m 11 #[rv a, iv 1, rv b, iv 1, iv 2, iv 1, iv c0_] [(.ref a)]
  refine os (fun _ z => XS.iloadN X2.here hx rfl (hb hby d18_11) rfl z) ?_
  show OG p e below Φ T2 m 12 #[rv a, iv 1, rv b, iv 1, iv 2, iv 1, iv c0_] [(.int 1), (.ref a)]
  obtain ⟨cl4, Aq4, -, S4, M4, H4, -⟩ := id F3
  have in4 : ¬ ((1 : Int32) < 0 ∨ cl4.slots.size ≤ (1 : Int32).toNatClampNeg) := inb_of S4 ⟨by decide, by decide⟩
  have at4 : cl4.slots[(1 : Int32).toNatClampNeg]? = some (.int c1_) := H4.at in4 rfl
  refine os (fun _ z => X2.caload hx (by rw [e2]; exact Aq4.1) (oia hZ Aq4.2.1) Aq4.2.2 in4 at4 (g := (mkF m 12 #[rv a, iv 1, rv b, iv 1, iv 2, iv 1, iv c0_] [(.int 1), (.ref a)])) rfl rfl (hb hby d18_12) _ z) ?_
  show OG p e below Φ T2 m 13 #[rv a, iv 1, rv b, iv 1, iv 2, iv 1, iv c0_] [(.int c1_)]
  refine os (fun _ z => XS.istore X2.here hx rfl (hb hby d18_13) rfl (l' := #[rv a, iv 1, rv b, iv 1, iv 2, iv 1, iv c1_]) rfl z) ?_
  show OG p e below Φ T2 m 15 #[rv a, iv 1, rv b, iv 1, iv 2, iv 1, iv c1_] []
  refine os (fun _ z => XS.iload X2.here hx rfl (hb hby d18_15) rfl z) ?_
  show OG p e below Φ T2 m 17 #[rv a, iv 1, rv b, iv 1, iv 2, iv 1, iv c1_] [(.int c1_)]
  refine os (fun _ z => XS.sipush X2.here hx rfl (hb hby d18_17) z) ?_
  show OG p e below Φ T2 m 20 #[rv a, iv 1, rv b, iv 1, iv 2, iv 1, iv c1_] [(.int 255), (.int c1_)]
  refine os (fun _ z => XS.icmpYes X2.here hx rfl (pc0 := 20) (pc' := 26) rfl (hb hby d18_20) rfl (XT.ii_le_t hl1) (by decide) (by decide) z) ?_
  show OG p e below Φ T2 m 26 #[rv a, iv 1, rv b, iv 1, iv 2, iv 1, iv c1_] []
  refine os (fun _ z => XS.aloadN X2.here hx rfl (hb hby d18_26) rfl rfl z) ?_
  show OG p e below Φ T2 m 27 #[rv a, iv 1, rv b, iv 1, iv 2, iv 1, iv c1_] [(.ref b)]
  refine os (fun _ z => XS.iloadN X2.here hx rfl (hb hby d18_27) rfl z) ?_
  show OG p e below Φ T2 m 28 #[rv a, iv 1, rv b, iv 1, iv 2, iv 1, iv c1_] [(.int 1), (.ref b)]
  refine os (fun _ z => XS.iload X2.here hx rfl (hb hby d18_28) rfl z) ?_
  show OG p e below Φ T2 m 30 #[rv a, iv 1, rv b, iv 1, iv 2, iv 1, iv c1_] [(.int c1_), (.int 1), (.ref b)]
  refine os (fun _ z => XT.i2b X2.here hx rfl (hb hby d18_30) rfl z) ?_
  show OG p e below Φ T2 m 31 #[rv a, iv 1, rv b, iv 1, iv 2, iv 1, iv c1_] [(.int (c1_.toInt8.toInt32)), (.int 1), (.ref b)]
  obtain ⟨cl5, Aq5, Cq5, S5, M5, H5, G5⟩ := id V2
  have in5 : ¬ ((1 : Int32) < 0 ∨ cl5.slots.size ≤ (1 : Int32).toNatClampNeg) := inb_of S5 ⟨by decide, by decide⟩
  obtain ⟨T5, h5, X5, e5, W5, st5⟩ := stB X2 hx hZ e2 Aq5 in5 (g := (mkF m 31 #[rv a, iv 1, rv b, iv 1, iv 2, iv 1, iv c1_] [(.int (c1_.toInt8.toInt32)), (.int 1), (.ref b)])) rfl rfl (hb hby d18_31)
  have W5 : Wr h2 h5 b (1 : Int32).toNatClampNeg (.int (nar .byte (c1_.toInt8.toInt32))) := W5
  have F6 := F3.other W5 nab
  have V5 : Arv Z h5 b cb .byte (2 : Int32) [(.int (nar .byte (c0_.toInt8.toInt32))), (.int (nar .byte (c1_.toInt8.toInt32)))] (.int (0 : Int32)) := Arv.set Aq5 Cq5 S5 M5 H5 G5 (fits_nar_byte _) W5 1 (by decide) (by show 1 < 2; decide)
  have K5 := K2.wr W5 (Or.inl (List.mem_of_getElem? (i := 0) rfl))
  have N5 := Fr.snoc X5 N2 g_b
  have Zs5 : n0 ≤ h5.size := by rw [W5.size]; exact Zs2
  refine os st5 ?_
  show OG p e below Φ T5 m 32 #[rv a, iv 1, rv b, iv 1, iv 2, iv 1, iv c1_] []
  refine os (fun _ z => XS.iinc X5.here hx rfl (hb hby d18_32) rfl (l' := #[rv a, iv ((1 : Int32) + (1 : Int32)), rv b, iv 1, iv 2, iv 1, iv c1_]) rfl z) ?_
  show OG p e below Φ T5 m 35 #[rv a, iv 2, rv b, iv 1, iv 2, iv 1, iv c1_] []
  refine os (fun _ z => XS.iinc X5.here hx rfl (hb hby d18_35) rfl (l' := #[rv a, iv 2, rv b, iv ((1 : Int32) + (1 : Int32)), iv 2, iv 1, iv c1_]) rfl z) ?_
  show OG p e below Φ T5 m 38 #[rv a, iv 2, rv b, iv 2, iv 2, iv 1, iv c1_] []
  refine os (fun _ z => XS.iinc X5.here hx rfl (hb hby d18_38) rfl (l' := #[rv a, iv 2, rv b, iv 2, iv 2, iv ((1 : Int32) + (1 : Int32)), iv c1_]) rfl z) ?_
  show OG p e below Φ T5 m 41 #[rv a, iv 2, rv b, iv 2, iv 2, iv 2, iv c1_] []
  refine os (fun _ z => XS.goto X5.here hx rfl (pc0 := 41) (pc' := 3) rfl (hb hby d18_41) (by decide) (by decide) z) ?_
  show OG p e below Φ T5 m 3 #[rv a, iv 2, rv b, iv 2, iv 2, iv 2, iv c1_] []
  refine os (fun _ z => XS.iload X5.here hx rfl (hb hby d18_3) rfl z) ?_
  show OG p e below Φ T5 m 5 #[rv a, iv 2, rv b, iv 2, iv 2, iv 2, iv c1_] [(.int 2)]
  refine os (fun _ z => XS.iload X5.here hx rfl (hb hby d18_5) rfl z) ?_
  show OG p e below Φ T5 m 7 #[rv a, iv 2, rv b, iv 2, iv 2, iv 2, iv c1_] [(.int 2), (.int 2)]
  refine os (fun _ z => XS.icmpYes X5.here hx rfl (pc0 := 7) (pc' := 44) rfl (hb hby d18_7) rfl (XT.ii_ge_t (by decide)) (by decide) (by decide) z) ?_
  show OG p e below Φ T5 m 44 #[rv a, iv 2, rv b, iv 2, iv 2, iv 2, iv c1_] []
  refine os (fun _ z => XS.iload X5.here hx rfl (hb hby d18_44) rfl z) ?_
  show OG p e below Φ T5 m 46 #[rv a, iv 2, rv b, iv 2, iv 2, iv 2, iv c1_] [(.int 2)]
  refine OGo.fin X5 hlk (v := (some (.int 2))) (fun h => by rw [hret] at h; cases h) (by decide) (by decide) (fun fs hr => X5.ireturnOut hx hret rfl (by simp) (hb hby d18_46) hr) fun U eU hF => hΦ _ _ _ ?_ hF
  rw [eU, e5]
  show Q_rslc2 Z a ca b cb c0_ c1_ h0 n0 _ _ _
  exact ⟨rfl, N5, K5, V5⟩

theorem d17_0 : decode jdk_52_method_16_code 0 = .ok (.iload_n 2, 1) := by decide +kernel
theorem d17_1 : decode jdk_52_method_16_code 1 = .ok (.newarray .byte, 2) := by decide +kernel
theorem d17_3 : decode jdk_52_method_16_code 3 = .ok (.astore_n 3, 1) := by decide +kernel
theorem d17_4 : decode jdk_52_method_16_code 4 = .ok (.aload_n 0, 1) := by decide +kernel
theorem d17_5 : decode jdk_52_method_16_code 5 = .ok (.iload_n 1, 1) := by decide +kernel
theorem d17_6 : decode jdk_52_method_16_code 6 = .ok (.aload_n 3, 1) := by decide +kernel
theorem d17_7 : decode jdk_52_method_16_code 7 = .ok (.iconst 0, 1) := by decide +kernel
theorem d17_8 : decode jdk_52_method_16_code 8 = .ok (.iload_n 2, 1) := by decide +kernel
theorem d17_9 : decode jdk_52_method_16_code 9 = .ok (.invokestatic 115, 3) := by decide +kernel
theorem pd2 : parseMethodDescriptor "([CI[BII)I" = some ⟨[(.array .char), .int, (.array .byte), .int, .int], some .int⟩ := by decide +kernel
theorem d17_12 : decode jdk_52_method_16_code 12 = .ok (.istore 4, 2) := by decide +kernel
theorem d17_14 : decode jdk_52_method_16_code 14 = .ok (.iload 4, 2) := by decide +kernel
theorem d17_16 : decode jdk_52_method_16_code 16 = .ok (.iload_n 2, 1) := by decide +kernel
theorem d17_17 : decode jdk_52_method_16_code 17 = .ok (.if_icmp .eq 40, 3) := by decide +kernel
theorem d17_57 : decode jdk_52_method_16_code 57 = .ok (.aload_n 3, 1) := by decide +kernel
theorem d17_58 : decode jdk_52_method_16_code 58 = .ok (.areturn, 1) := by decide +kernel
theorem ef_rslc3 (m : MethodId) (x0 : Addr) (x1 : Int32) (x2 : Int32) : entryFrame m #[(.ref x0), (.int x1), (.int x2)] 6 = mkF m 0 #[.val (.ref x0), .val (.int x1), .val (.int x2), .unset, .unset, .unset] [] := by first | (simp [entryFrame, mkF, argsToLocals, Value.category]; done) | rfl
def Q_rslc3 (Z : State) (a : Addr) (ca : ClassId) (c0_ : Int32) (c1_ : Int32) (h0 : Heap) (n0 : Nat) (v : Option Value) (h : Heap) (L : List Loc) : Prop := ∃ b cb, v = some (.ref b) ∧ Fr n0 L ∧ Keep h0 h [] ∧ Arv Z h b cb .byte (2 : Int32) [(.int (nar .byte (c0_.toInt8.toInt32))), (.int (nar .byte (c1_.toInt8.toInt32)))] (.int (0 : Int32)) ∧ h0.size ≤ b
set_option maxRecDepth 65536 in
set_option maxHeartbeats 40000000 in
theorem rslc3 (l : Launch) (Z : State) (a0 : Array Value) (hw : ∀ d ∈ tables_1, d.before a0 Z = true) (ws : List Jvm.Cond) (a : Addr) (ca : ClassId) (c0_ : Int32) (c1_ : Int32) (h0 : Heap) (n0 : Nat) (Z0 : n0 ≤ h0.size) (V_a : Arv Z h0 a ca .char (2 : Int32) [(.int c0_), (.int c1_)] (.int (0 : Int32))) (hl0 : ¬ (255 : Int32) < c0_) (hl1 : ¬ (255 : Int32) < c1_) :
    OCon l Z (⟨"java/lang/StringUTF16", "compress", "([CII)[B"⟩ : MethodName) jdk_52_method_16_code 6 (some (.array .byte)) ws ({ frames := 1, cells := 1, slots := 2, locals := 18 } : Room) #[(.ref a), (.int (0 : Int32)), (.int (2 : Int32))] h0 (Q_rslc3 Z a ca c0_ c1_ h0 n0) := by
  refine OCon.of (plainFor_of_name pn2) ?_
  intro p e s m below meth c s₁ Φ X0 hx hby hml hown hnm hret hlk hZ e0 hΦ
  have N0 := Fr.nil n0
  refine os (fun _ z => castTop (ef_rslc3 m a (0 : Int32) (2 : Int32)) z) ?_
  have K0 := Keep.refl h0 []
  show OG p e below Φ s₁ m 0 #[rv a, iv 0, iv 2, .unset, .unset, .unset] []
  refine os (fun _ z => XS.iloadN X0.here hx rfl (hb hby d17_0) rfl z) ?_
  show OG p e below Φ s₁ m 1 #[rv a, iv 0, iv 2, .unset, .unset, .unset] [(.int 2)]
  obtain ⟨T1, h1, c1, X1, e1, E1, Ar1, st1⟩ := newP (aty := .byte) X0 hx hZ (ow24 hw) e0 (g := (mkF m 1 #[rv a, iv 0, iv 2, .unset, .unset, .unset] [(.int 2)])) rfl (hb hby d17_1) rfl (by decide) (cap := 2) (by decide) (by decide) (by decide) (by decide)
  obtain ⟨b1, g1⟩ : ∃ z, z = h0.size := ⟨_, rfl⟩
  rw [← g1] at Ar1 st1
  have ne1_a : a ≠ b1 := by rw [g1]; exact Nat.ne_of_lt V_a.lt
  have F2 := V_a.ext E1
  have gb1 : n0 ≤ b1 := Nat.le_trans Z0 (Nat.le_of_eq g1.symm)
  have sz1 : h0.size ≤ b1 := Nat.le_trans K0.1 (Nat.le_of_eq g1.symm)
  have K1 := K0.ext E1
  have Zs1 : n0 ≤ h1.size := Nat.le_trans Z0 E1.1
  have V1 : Arv Z h1 b1 c1 .byte (2 : Int32) [(.int (0 : Int32)), (.int (0 : Int32))] (.int (0 : Int32)) := (Arv.new Ar1 (by decide)).pad (pad_rep [] _ 2)
  refine os st1 ?_
  show OG p e below Φ T1 m 3 #[rv a, iv 0, iv 2, .unset, .unset, .unset] [(.ref b1)]
  refine os (fun _ z => XS.astoreN X1.here hx rfl (hb hby d17_3) rfl rfl (l' := #[rv a, iv 0, iv 2, rv b1, .unset, .unset]) rfl z) ?_
  show OG p e below Φ T1 m 4 #[rv a, iv 0, iv 2, rv b1, .unset, .unset] []
  refine os (fun _ z => XS.aloadN X1.here hx rfl (hb hby d17_4) rfl rfl z) ?_
  show OG p e below Φ T1 m 5 #[rv a, iv 0, iv 2, rv b1, .unset, .unset] [(.ref a)]
  refine os (fun _ z => XS.iloadN X1.here hx rfl (hb hby d17_5) rfl z) ?_
  show OG p e below Φ T1 m 6 #[rv a, iv 0, iv 2, rv b1, .unset, .unset] [(.int 0), (.ref a)]
  refine os (fun _ z => XS.aloadN X1.here hx rfl (hb hby d17_6) rfl rfl z) ?_
  show OG p e below Φ T1 m 7 #[rv a, iv 0, iv 2, rv b1, .unset, .unset] [(.ref b1), (.int 0), (.ref a)]
  refine os (fun _ z => XS.iconst X1.here hx rfl (hb hby d17_7) z) ?_
  show OG p e below Φ T1 m 8 #[rv a, iv 0, iv 2, rv b1, .unset, .unset] [(.int 0), (.ref b1), (.int 0), (.ref a)]
  refine os (fun _ z => XS.iloadN X1.here hx rfl (hb hby d17_8) rfl z) ?_
  show OG p e below Φ T1 m 9 #[rv a, iv 0, iv 2, rv b1, .unset, .unset] [(.int 2), (.int 0), (.ref b1), (.int 0), (.ref a)]
  obtain ⟨_, T3, L3, X3, hQ3, st3⟩ := own_callSt X1 hx hZ hown (ow84 hw) (ow85 hw) (ow82 hw) (ow86 hw) (by decide) (rslc2 l Z a0 hw [] a ca b1 c1 c0_ c1_ h1 n0 Zs1 F2 V1 ne1_a gb1 hl0 hl1) e1 (W := 0) (by decide) (by decide) (by decide) (by decide) (pc := 9) (ls := #[rv a, iv 0, iv 2, rv b1, .unset, .unset]) (stk := [(.int 2), (.int 0), (.ref b1), (.int 0), (.ref a)]) (by rw [hml]; rfl) (argsL := [(.ref a), (.int 0), (.ref b1), (.int 0), (.int 2)]) (rest := []) (lenOf pd2 rfl) rfl rfl (Nat.le_of_eq rfl) (hb hby d17_9)
  obtain ⟨rfl, Nq3, Kq3, Vq3⟩ := hQ3
  have N3 := Fr.app N0 Nq3
  have Zs3 : n0 ≤ T3.heap.size := Nat.le_trans Zs1 Kq3.1
  have F4 := F2.keep Kq3 (ninS ne1_a nin0)
  have K3 := K1.trans Kq3 (allS (Or.inr sz1) all0)
  refine os st3 ?_
  show OG p e below Φ T3 m 12 #[rv a, iv 0, iv 2, rv b1, .unset, .unset] [(.int 2)]
  refine os (fun _ z => XS.istore X3.here hx rfl (hb hby d17_12) rfl (l' := #[rv a, iv 0, iv 2, rv b1, iv 2, .unset]) rfl z) ?_
  show OG p e below Φ T3 m 14 #[rv a, iv 0, iv 2, rv b1, iv 2, .unset] []
  refine os (fun _ z => XS.iload X3.here hx rfl (hb hby d17_14) rfl z) ?_
  show OG p e below Φ T3 m 16 #[rv a, iv 0, iv 2, rv b1, iv 2, .unset] [(.int 2)]
  refine os (fun _ z => XS.iloadN X3.here hx rfl (hb hby d17_16) rfl z) ?_
  show OG p e below Φ T3 m 17 #[rv a, iv 0, iv 2, rv b1, iv 2, .unset] [(.int 2), (.int 2)]
  refine os (fun _ z => XS.icmpYes X3.here hx rfl (pc0 := 17) (pc' := 57) rfl (hb hby d17_17) rfl (XT.ii_eq_t (by decide)) (by decide) (by decide) z) ?_
  show OG p e below Φ T3 m 57 #[rv a, iv 0, iv 2, rv b1, iv 2, .unset] []
  refine os (fun _ z => XS.aloadN X3.here hx rfl (hb hby d17_57) rfl rfl z) ?_
  show OG p e below Φ T3 m 58 #[rv a, iv 0, iv 2, rv b1, iv 2, .unset] [(.ref b1)]
  refine OGo.fin X3 hlk (v := (some (.ref b1))) (fun h => by rw [hret] at h; cases h) (by decide) (by decide) (fun fs hr => X3.areturnOut hx rfl hret rfl (hb hby d17_58) hr) fun U eU hF => hΦ _ _ _ ?_ hF
  rw [eU]
  show Q_rslc3 Z a ca c0_ c1_ h0 n0 _ _ _
  exact ⟨_, _, rfl, N3, K3, Vq3, sz1⟩

theorem d19_0 : decode jdk_52_method_15_code 0 = .ok (.iload_n 1, 1) := by decide +kernel
theorem d19_1 : decode jdk_52_method_15_code 1 = .ok (.aload_n 0, 1) := by decide +kernel
theorem d19_2 : decode jdk_52_method_15_code 2 = .ok (.arraylength, 1) := by decide +kernel
theorem d19_3 : decode jdk_52_method_15_code 3 = .ok (.isub, 1) := by decide +kernel
theorem d19_4 : decode jdk_52_method_15_code 4 = .ok (.bipush 31, 2) := by decide +kernel
theorem d19_6 : decode jdk_52_method_15_code 6 = .ok (.iushr, 1) := by decide +kernel
theorem d19_7 : decode jdk_52_method_15_code 7 = .ok (.i2b, 1) := by decide +kernel
theorem d19_8 : decode jdk_52_method_15_code 8 = .ok (.ireturn, 1) := by decide +kernel
theorem ef_rslcf (m : MethodId) (x0 : Addr) (x1 : Int32) : entryFrame m #[(.ref x0), (.int x1)] 2 = mkF m 0 #[.val (.ref x0), .val (.int x1)] [] := by first | (simp [entryFrame, mkF, argsToLocals, Value.category]; done) | rfl
def Q_rslcf (Z : State) (b : Addr) (cb : ClassId) (c0_ : Int32) (c1_ : Int32) (h0 : Heap) (n0 : Nat) (v : Option Value) (h : Heap) (L : List Loc) : Prop := v = some (.int (0 : Int32)) ∧ Fr n0 L ∧ h = h0
set_option maxRecDepth 65536 in
set_option maxHeartbeats 40000000 in
theorem rslcf (l : Launch) (Z : State) (a0 : Array Value) (hw : ∀ d ∈ tables_1, d.before a0 Z = true) (ws : List Jvm.Cond) (b : Addr) (cb : ClassId) (c0_ : Int32) (c1_ : Int32) (h0 : Heap) (n0 : Nat) (Z0 : n0 ≤ h0.size) (V_b : Arv Z h0 b cb .byte (2 : Int32) [(.int (nar .byte (c0_.toInt8.toInt32))), (.int (nar .byte (c1_.toInt8.toInt32)))] (.int (0 : Int32))) :
    OCon l Z (⟨"java/lang/StringUTF16", "coderFromArrayLen", "([BI)B"⟩ : MethodName) jdk_52_method_15_code 2 (some .byte) ws ({ frames := 0, cells := 0, slots := 0, locals := 0 } : Room) #[(.ref b), (.int (2 : Int32))] h0 (Q_rslcf Z b cb c0_ c1_ h0 n0) := by
  refine OCon.of (plainFor_of_name pn2) ?_
  intro p e s m below meth c s₁ Φ X0 hx hby hml hown hnm hret hlk hZ e0 hΦ
  have N0 := Fr.nil n0
  refine os (fun _ z => castTop (ef_rslcf m b (2 : Int32)) z) ?_
  show OG p e below Φ s₁ m 0 #[rv b, iv 2] []
  refine os (fun _ z => XS.iloadN X0.here hx rfl (hb hby d19_0) rfl z) ?_
  show OG p e below Φ s₁ m 1 #[rv b, iv 2] [(.int 2)]
  refine os (fun _ z => XS.aloadN X0.here hx rfl (hb hby d19_1) rfl rfl z) ?_
  show OG p e below Φ s₁ m 2 #[rv b, iv 2] [(.ref b), (.int 2)]
  obtain ⟨cl1, Aq1, -, S1, M1, -, -⟩ := id V_b
  refine os (fun _ z => X0.arraylength hx (by rw [e0]; exact Aq1.1) (oia hZ Aq1.2.1) (g := (mkF m 2 #[rv b, iv 2] [(.ref b), (.int 2)])) rfl rfl (hb hby d19_2) _ z) ?_
  rw [len_of S1 M1]
  show OG p e below Φ s₁ m 3 #[rv b, iv 2] [(.int 2), (.int 2)]
  refine os (fun _ z => XS.isub X0.here hx rfl (hb hby d19_3) rfl z) ?_
  show OG p e below Φ s₁ m 4 #[rv b, iv 2] [(.int 0)]
  refine os (fun _ z => XS.bipush X0.here hx rfl (hb hby d19_4) z) ?_
  show OG p e below Φ s₁ m 6 #[rv b, iv 2] [(.int 31), (.int 0)]
  refine os (fun _ z => XT.iushr X0.here hx rfl (hb hby d19_6) rfl z) ?_
  show OG p e below Φ s₁ m 7 #[rv b, iv 2] [(.int 0)]
  refine os (fun _ z => XT.i2b X0.here hx rfl (hb hby d19_7) rfl z) ?_
  show OG p e below Φ s₁ m 8 #[rv b, iv 2] [(.int 0)]
  refine OGo.fin X0 hlk (v := (some (.int 0))) (fun h => by rw [hret] at h; cases h) (by decide) (by decide) (fun fs hr => X0.ireturnOut hx hret rfl (by simp) (hb hby d19_8) hr) fun U eU hF => hΦ _ _ _ ?_ hF
  rw [eU, e0]
  show Q_rslcf Z b cb c0_ c1_ h0 n0 _ _ _
  exact ⟨rfl, N0, rfl⟩

theorem d16_27 : decode jdk_42_method_149_code 27 = .ok (.getstatic 38, 3) := by decide +kernel
theorem d16_30 : decode jdk_42_method_149_code 30 = .ok (.ifCond .eq 28, 3) := by decide +kernel
theorem d16_33 : decode jdk_42_method_149_code 33 = .ok (.aload_n 1, 1) := by decide +kernel
theorem d16_34 : decode jdk_42_method_149_code 34 = .ok (.iload_n 2, 1) := by decide +kernel
theorem d16_35 : decode jdk_42_method_149_code 35 = .ok (.iload_n 3, 1) := by decide +kernel
theorem d16_36 : decode jdk_42_method_149_code 36 = .ok (.invokestatic 177, 3) := by decide +kernel
theorem pd3 : parseMethodDescriptor "([CII)[B" = some ⟨[(.array .char), .int, .int], some (.array .byte)⟩ := by decide +kernel
theorem d16_39 : decode jdk_42_method_149_code 39 = .ok (.astore 5, 2) := by decide +kernel
theorem d16_41 : decode jdk_42_method_149_code 41 = .ok (.aload_n 0, 1) := by decide +kernel
theorem d16_42 : decode jdk_42_method_149_code 42 = .ok (.aload 5, 2) := by decide +kernel
theorem d16_44 : decode jdk_42_method_149_code 44 = .ok (.iload_n 3, 1) := by decide +kernel
theorem d16_45 : decode jdk_42_method_149_code 45 = .ok (.invokestatic 47, 3) := by decide +kernel
theorem pd4 : parseMethodDescriptor "([BI)B" = some ⟨[(.array .byte), .int], some .byte⟩ := by decide +kernel
theorem d16_48 : decode jdk_42_method_149_code 48 = .ok (.putfield 15, 3) := by decide +kernel
theorem d16_51 : decode jdk_42_method_149_code 51 = .ok (.aload_n 0, 1) := by decide +kernel
theorem d16_52 : decode jdk_42_method_149_code 52 = .ok (.aload 5, 2) := by decide +kernel
theorem d16_54 : decode jdk_42_method_149_code 54 = .ok (.putfield 9, 3) := by decide +kernel
theorem d16_57 : decode jdk_42_method_149_code 57 = .ok (.return_, 1) := by decide +kernel
theorem ef_rsli4 (m : MethodId) (x0 : Addr) (x1 : Addr) (x2 : Int32) (x3 : Int32) : entryFrame m #[(.ref x0), (.ref x1), (.int x2), (.int x3), .null] 6 = mkF m 0 #[.val (.ref x0), .val (.ref x1), .val (.int x2), .val (.int x3), .val .null, .unset] [] := by first | (simp [entryFrame, mkF, argsToLocals, Value.category]; done) | rfl
def Q_rsli4 (Z : State) (s_ : Addr) (a : Addr) (ca : ClassId) (qc : Int32) (c0_ : Int32) (c1_ : Int32) (h0 : Heap) (n0 : Nat) (v : Option Value) (h : Heap) (L : List Loc) : Prop := v = none ∧ Fr n0 L ∧ Keep h0 h [s_] ∧ Exa Z h s_ "java/lang/String" ∧ ∃ b cb, Fld Z h s_ "java/lang/String" "value" "[B" (.ref b) ∧ Fld Z h s_ "java/lang/String" "coder" "B" (.int (0 : Int32)) ∧ Arv Z h b cb .byte (2 : Int32) [(.int (nar .byte (c0_.toInt8.toInt32))), (.int (nar .byte (c1_.toInt8.toInt32)))] (.int (0 : Int32)) ∧ h0.size ≤ b
set_option maxRecDepth 65536 in
set_option maxHeartbeats 40000000 in
theorem rsli4 (l : Launch) (Z : State) (a0 : Array Value) (hw : ∀ d ∈ tables_1, d.before a0 Z = true) (ws : List Jvm.Cond) (s_ : Addr) (a : Addr) (ca : ClassId) (qc : Int32) (c0_ : Int32) (c1_ : Int32) (h0 : Heap) (n0 : Nat) (Z0 : n0 ≤ h0.size) (E_s : Exa Z h0 s_ "java/lang/String") (g_s : n0 ≤ s_) (F_v : Fld Z h0 s_ "java/lang/String" "value" "[B" .null) (F_c : Fld Z h0 s_ "java/lang/String" "coder" "B" (.int (0 : Int32))) (V_a : Arv Z h0 a ca .char (2 : Int32) [(.int c0_), (.int c1_)] (.int (0 : Int32))) (nsa : s_ ≠ a) (S_q : Sta Z h0 "java/lang/String" "COMPACT_STRINGS" "Z" (.int qc)) (hq : ¬ qc = 0) (hl0 : ¬ (255 : Int32) < c0_) (hl1 : ¬ (255 : Int32) < c1_) :
    OCon l Z (⟨"java/lang/String", "<init>", "([CIILjava/lang/Void;)V"⟩ : MethodName) jdk_42_method_149_code 6 none ws ({ frames := 2, cells := 1, slots := 2, locals := 35 } : Room) #[(.ref s_), (.ref a), (.int (0 : Int32)), (.int (2 : Int32)), .null] h0 (Q_rsli4 Z s_ a ca qc c0_ c1_ h0 n0) := by
  refine OCon.of (plainFor_of_name pn1) ?_
  intro p e s m below meth c s₁ Φ X0 hx hby hml hown hnm hret hlk hZ e0 hΦ
  have N0 := Fr.nil n0
  refine os (fun _ z => castTop (ef_rsli4 m s_ a (0 : Int32) (2 : Int32)) z) ?_
  have K0 := Keep.refl h0 [s_]
  show OG p e below Φ s₁ m 0 #[rv s_, rv a, iv 0, iv 2, .val .null, .unset] []
  refine os (fun _ z => XS.aloadN X0.here hx rfl (hb hby d16_0) rfl rfl z) ?_
  show OG p e below Φ s₁ m 1 #[rv s_, rv a, iv 0, iv 2, .val .null, .unset] [(.ref s_)]
  obtain ⟨T1, X1, e1, st1⟩ := initO X0 hx hZ hown (ow29 hw) (ow30 hw) (ow31 hw) e0 (g := (mkF m 1 #[rv s_, rv a, iv 0, iv 2, .val .null, .unset] [(.ref s_)])) rfl (by rw [hml]; rfl) rfl (hb hby d16_1) (by decide) (W := 0) (Nat.le_of_eq rfl) (by decide)
  refine os st1 ?_
  show OG p e below Φ T1 m 4 #[rv s_, rv a, iv 0, iv 2, .val .null, .unset] []
  refine os (fun _ z => XS.iloadN X1.here hx rfl (hb hby d16_4) rfl z) ?_
  show OG p e below Φ T1 m 5 #[rv s_, rv a, iv 0, iv 2, .val .null, .unset] [(.int 2)]
  refine os (fun _ z => XS.ifYes X1.here hx rfl (pc0 := 5) (pc' := 27) rfl (hb hby d16_5) rfl (XT.i0_ne_t (by decide)) (by decide) (by decide) z) ?_
  show OG p e below Φ T1 m 27 #[rv s_, rv a, iv 0, iv 2, .val .null, .unset] []
  obtain ⟨T2, X2, e2, st2⟩ := getS2 X1 hx hZ hown (host := "") (Or.inl (ow14 hw)) Via.refl e1 S_q (g := (mkF m 27 #[rv s_, rv a, iv 0, iv 2, .val .null, .unset] [])) rfl (hb hby d16_27)
  refine os st2 ?_
  show OG p e below Φ T2 m 30 #[rv s_, rv a, iv 0, iv 2, .val .null, .unset] [(.int qc)]
  refine os (fun _ z => XS.ifNo X2.here hx rfl (hb hby d16_30) rfl (XT.i0_eq_f hq) z) ?_
  show OG p e below Φ T2 m 33 #[rv s_, rv a, iv 0, iv 2, .val .null, .unset] []
  refine os (fun _ z => XS.aloadN X2.here hx rfl (hb hby d16_33) rfl rfl z) ?_
  show OG p e below Φ T2 m 34 #[rv s_, rv a, iv 0, iv 2, .val .null, .unset] [(.ref a)]
  refine os (fun _ z => XS.iloadN X2.here hx rfl (hb hby d16_34) rfl z) ?_
  show OG p e below Φ T2 m 35 #[rv s_, rv a, iv 0, iv 2, .val .null, .unset] [(.int 0), (.ref a)]
  refine os (fun _ z => XS.iloadN X2.here hx rfl (hb hby d16_35) rfl z) ?_
  show OG p e below Φ T2 m 36 #[rv s_, rv a, iv 0, iv 2, .val .null, .unset] [(.int 2), (.int 0), (.ref a)]
  obtain ⟨_, T3, L3, X3, hQ3, st3⟩ := own_callSt X2 hx hZ hown (ow80 hw) (ow81 hw) (ow82 hw) (ow83 hw) (by decide) (rslc3 l Z a0 hw [] a ca c0_ c1_ h0 n0 Z0 V_a hl0 hl1) e2 (W := 0) (by decide) (by decide) (by decide) (by decide) (pc := 36) (ls := #[rv s_, rv a, iv 0, iv 2, .val .null, .unset]) (stk := [(.int 2), (.int 0), (.ref a)]) (by rw [hml]; rfl) (argsL := [(.ref a), (.int 0), (.int 2)]) (rest := []) (lenOf pd3 rfl) rfl rfl (Nat.le_of_eq rfl) (hb hby d16_36)
  obtain ⟨b3, cb3, rfl, Nq3, Kq3, Vq3, hz3⟩ := hQ3
  have nq3_a : a ≠ b3 := Nat.ne_of_lt (Nat.lt_of_lt_of_le V_a.lt hz3)
  have nq3_s_ : s_ ≠ b3 := Nat.ne_of_lt (Nat.lt_of_lt_of_le E_s.lt hz3)
  have gq3 : n0 ≤ b3 := Nat.le_trans Z0 hz3
  have sq3 : h0.size ≤ b3 := Nat.le_trans K0.1 hz3
  have N3 := Fr.app N0 Nq3
  have Zs3 : n0 ≤ T3.heap.size := Nat.le_trans Z0 Kq3.1
  have F4 := E_s.keep Kq3
  have F5 := F_v.keep Kq3 nin0
  have F6 := F_c.keep Kq3 nin0
  have F7 := V_a.keep Kq3 nin0
  have K3 := K0.trans Kq3 all0
  refine os st3 ?_
  show OG p e below Φ T3 m 39 #[rv s_, rv a, iv 0, iv 2, .val .null, .unset] [(.ref b3)]
  refine os (fun _ z => XS.astore X3.here hx rfl (hb hby d16_39) rfl rfl (l' := #[rv s_, rv a, iv 0, iv 2, .val .null, rv b3]) rfl z) ?_
  show OG p e below Φ T3 m 41 #[rv s_, rv a, iv 0, iv 2, .val .null, rv b3] []
  refine os (fun _ z => XS.aloadN X3.here hx rfl (hb hby d16_41) rfl rfl z) ?_
  show OG p e below Φ T3 m 42 #[rv s_, rv a, iv 0, iv 2, .val .null, rv b3] [(.ref s_)]
  refine os (fun _ z => XS.aload X3.here hx rfl (hb hby d16_42) rfl rfl z) ?_
  show OG p e below Φ T3 m 44 #[rv s_, rv a, iv 0, iv 2, .val .null, rv b3] [(.ref b3), (.ref s_)]
  refine os (fun _ z => XS.iloadN X3.here hx rfl (hb hby d16_44) rfl z) ?_
  show OG p e below Φ T3 m 45 #[rv s_, rv a, iv 0, iv 2, .val .null, rv b3] [(.int 2), (.ref b3), (.ref s_)]
  obtain ⟨_, T8, L8, X8, hQ8, st8⟩ := own_callSt X3 hx hZ hown (ow87 hw) (ow88 hw) (ow82 hw) (ow89 hw) (by decide) (rslcf l Z a0 hw [] b3 cb3 c0_ c1_ T3.heap n0 Zs3 Vq3) rfl (W := 1) (by decide) (by decide) (by decide) (by decide) (pc := 45) (ls := #[rv s_, rv a, iv 0, iv 2, .val .null, rv b3]) (stk := [(.int 2), (.ref b3), (.ref s_)]) (by rw [hml]; rfl) (argsL := [(.ref b3), (.int 2)]) (rest := [(.ref s_)]) (lenOf pd4 rfl) rfl rfl (Nat.le_of_eq rfl) (hb hby d16_45)
  obtain ⟨rfl, Nq8, e8⟩ := hQ8
  have N8 := Fr.app N3 Nq8
  refine os st8 ?_
  show OG p e below Φ T8 m 48 #[rv s_, rv a, iv 0, iv 2, .val .null, rv b3] [(.int 0), (.ref s_)]
  obtain ⟨T9, h9, X9, e9, W9, st9⟩ := putF X8 hx hZ hown (host := "") (Or.inl (ow34 hw)) Via.refl e8 F6 F4 (Or.inr ⟨(ow35 hw), rfl, hnm⟩) (ow20 hw) (ty := .byte) (by decide) (by decide) (by decide) (g := (mkF m 48 #[rv s_, rv a, iv 0, iv 2, .val .null, rv b3] [(.int 0), (.ref s_)])) rfl rfl (hb hby d16_48)
  have F10 := F4.wr W9
  have F11 := F5.other W9 (Or.inr (slot_ne (Or.inr (ow33 hw)) (Or.inr (ow35 hw)) (by decide) (t := (.array .byte)) (t' := .byte) (by decide) (by decide)))
  have F12 := F6.same W9
  have F13 := F7.other W9 (Ne.symm nsa)
  have F14 := Vq3.other W9 (Ne.symm nq3_s_)
  have K9 := K3.wr W9 (Or.inl (List.mem_of_getElem? (i := 0) rfl))
  have N9 := Fr.snoc X9 N8 g_s
  have Zs9 : n0 ≤ h9.size := by rw [W9.size]; exact Zs3
  refine os st9 ?_
  show OG p e below Φ T9 m 51 #[rv s_, rv a, iv 0, iv 2, .val .null, rv b3] []
  refine os (fun _ z => XS.aloadN X9.here hx rfl (hb hby d16_51) rfl rfl z) ?_
  show OG p e below Φ T9 m 52 #[rv s_, rv a, iv 0, iv 2, .val .null, rv b3] [(.ref s_)]
  refine os (fun _ z => XS.aload X9.here hx rfl (hb hby d16_52) rfl rfl z) ?_
  show OG p e below Φ T9 m 54 #[rv s_, rv a, iv 0, iv 2, .val .null, rv b3] [(.ref b3), (.ref s_)]
  obtain ⟨T15, h15, X15, e15, W15, st15⟩ := putF X9 hx hZ hown (host := "") (Or.inl (ow32 hw)) Via.refl e9 F11 F10 (Or.inr ⟨(ow33 hw), rfl, hnm⟩) (ow20 hw) (ty := (.array .byte)) (by decide) rfl rfl (g := (mkF m 54 #[rv s_, rv a, iv 0, iv 2, .val .null, rv b3] [(.ref b3), (.ref s_)])) rfl rfl (hb hby d16_54)
  have F16 := F10.wr W15
  have F17 := F11.same W15
  have F18 := F12.other W15 (Or.inr (slot_ne (Or.inr (ow35 hw)) (Or.inr (ow33 hw)) (by decide) (t := .byte) (t' := (.array .byte)) (by decide) (by decide)))
  have F19 := F13.other W15 (Ne.symm nsa)
  have F20 := F14.other W15 (Ne.symm nq3_s_)
  have K15 := K9.wr W15 (Or.inl (List.mem_of_getElem? (i := 0) rfl))
  have N15 := Fr.snoc X15 N9 g_s
  have Zs15 : n0 ≤ h15.size := by rw [W15.size]; exact Zs9
  refine os st15 ?_
  show OG p e below Φ T15 m 57 #[rv s_, rv a, iv 0, iv 2, .val .null, rv b3] []
  refine OGo.fin X15 hlk (v := none) (fun _ => rfl) (by decide) (by decide) (fun fs hr => X15.returnOut hx hret (hb hby d16_57) hr) fun U eU hF => hΦ _ _ _ ?_ hF
  rw [eU, e15]
  show Q_rsli4 Z s_ a ca qc c0_ c1_ h0 n0 _ _ _
  exact ⟨rfl, N15, K15, F16, _, _, F17, F18, F20, sq3⟩

theorem ef_rsli1 (m : MethodId) (x0 : Addr) (x1 : Addr) : entryFrame m #[(.ref x0), (.ref x1)] 2 = mkF m 0 #[.val (.ref x0), .val (.ref x1)] [] := by first | (simp [entryFrame, mkF, argsToLocals, Value.category]; done) | rfl
def Q_rsli1 (Z : State) (s_ : Addr) (a : Addr) (ca : ClassId) (qc : Int32) (c0_ : Int32) (c1_ : Int32) (h0 : Heap) (n0 : Nat) (v : Option Value) (h : Heap) (L : List Loc) : Prop := v = none ∧ Fr n0 L ∧ Keep h0 h [s_] ∧ Exa Z h s_ "java/lang/String" ∧ ∃ b cb, Fld Z h s_ "java/lang/String" "value" "[B" (.ref b) ∧ Fld Z h s_ "java/lang/String" "coder" "B" (.int (0 : Int32)) ∧ Arv Z h b cb .byte (2 : Int32) [(.int (nar .byte (c0_.toInt8.toInt32))), (.int (nar .byte (c1_.toInt8.toInt32)))] (.int (0 : Int32)) ∧ h0.size ≤ b
set_option maxRecDepth 65536 in
set_option maxHeartbeats 40000000 in
theorem rsli1 (l : Launch) (Z : State) (a0 : Array Value) (hw : ∀ d ∈ tables_1, d.before a0 Z = true) (ws : List Jvm.Cond) (s_ : Addr) (a : Addr) (ca : ClassId) (qc : Int32) (c0_ : Int32) (c1_ : Int32) (h0 : Heap) (n0 : Nat) (Z0 : n0 ≤ h0.size) (E_s : Exa Z h0 s_ "java/lang/String") (g_s : n0 ≤ s_) (F_v : Fld Z h0 s_ "java/lang/String" "value" "[B" .null) (F_c : Fld Z h0 s_ "java/lang/String" "coder" "B" (.int (0 : Int32))) (V_a : Arv Z h0 a ca .char (2 : Int32) [(.int c0_), (.int c1_)] (.int (0 : Int32))) (nsa : s_ ≠ a) (S_q : Sta Z h0 "java/lang/String" "COMPACT_STRINGS" "Z" (.int qc)) (hq : ¬ qc = 0) (hl0 : ¬ (255 : Int32) < c0_) (hl1 : ¬ (255 : Int32) < c1_) :
    OCon l Z (⟨"java/lang/String", "<init>", "([C)V"⟩ : MethodName) jdk_42_method_3_code 2 none ws ({ frames := 3, cells := 1, slots := 2, locals := 52 } : Room) #[(.ref s_), (.ref a)] h0 (Q_rsli1 Z s_ a ca qc c0_ c1_ h0 n0) := by
  refine OCon.of (plainFor_of_name pn1) ?_
  intro p e s m below meth c s₁ Φ X0 hx hby hml hown hnm hret hlk hZ e0 hΦ
  have N0 := Fr.nil n0
  refine os (fun _ z => castTop (ef_rsli1 m s_ a) z) ?_
  have K0 := Keep.refl h0 [s_]
  show OG p e below Φ s₁ m 0 #[rv s_, rv a] []
  refine os (fun _ z => XS.aloadN X0.here hx rfl (hb hby d15_0) rfl rfl z) ?_
  show OG p e below Φ s₁ m 1 #[rv s_, rv a] [(.ref s_)]
  refine os (fun _ z => XS.aloadN X0.here hx rfl (hb hby d15_1) rfl rfl z) ?_
  show OG p e below Φ s₁ m 2 #[rv s_, rv a] [(.ref a), (.ref s_)]
  refine os (fun _ z => XS.iconst X0.here hx rfl (hb hby d15_2) z) ?_
  show OG p e below Φ s₁ m 3 #[rv s_, rv a] [(.int 0), (.ref a), (.ref s_)]
  refine os (fun _ z => XS.aloadN X0.here hx rfl (hb hby d15_3) rfl rfl z) ?_
  show OG p e below Φ s₁ m 4 #[rv s_, rv a] [(.ref a), (.int 0), (.ref a), (.ref s_)]
  obtain ⟨cl1, Aq1, -, S1, M1, -, -⟩ := id V_a
  refine os (fun _ z => X0.arraylength hx (by rw [e0]; exact Aq1.1) (oia hZ Aq1.2.1) (g := (mkF m 4 #[rv s_, rv a] [(.ref a), (.int 0), (.ref a), (.ref s_)])) rfl rfl (hb hby d15_4) _ z) ?_
  rw [len_of S1 M1]
  show OG p e below Φ s₁ m 5 #[rv s_, rv a] [(.int 2), (.int 0), (.ref a), (.ref s_)]
  refine os (fun _ z => XS.aconstNull X0.here hx rfl (hb hby d15_5) z) ?_
  show OG p e below Φ s₁ m 6 #[rv s_, rv a] [.null, (.int 2), (.int 0), (.ref a), (.ref s_)]
  obtain ⟨_, T2, L2, X2, hQ2, st2⟩ := own_callSp X0 hx hZ rfl hown (ow77 hw) (ow78 hw) (ow12 hw) (ow79 hw) (by decide) (rsli4 l Z a0 hw [] s_ a ca qc c0_ c1_ h0 n0 Z0 E_s g_s F_v F_c V_a nsa S_q hq hl0 hl1) e0 (W := 0) (by decide) (by decide) (by decide) (by decide) (pc := 6) (ls := #[rv s_, rv a]) (stk := [.null, (.int 2), (.int 0), (.ref a), (.ref s_)]) (by rw [hml]; rfl) (a := s_) (argsL := [(.ref a), (.int 0), (.int 2), .null]) (rest := []) (lenOf pd1 rfl) rfl rfl (Nat.le_of_eq rfl) (hb hby d15_6)
  obtain ⟨rfl, Nq2, Kq2, Eq2, b2, cb2, Fv2, Fc2, Vq2, hz2⟩ := hQ2
  have nq2_a : a ≠ b2 := Nat.ne_of_lt (Nat.lt_of_lt_of_le V_a.lt hz2)
  have nq2_s_ : s_ ≠ b2 := Nat.ne_of_lt (Nat.lt_of_lt_of_le E_s.lt hz2)
  have gq2 : n0 ≤ b2 := Nat.le_trans Z0 hz2
  have sq2 : h0.size ≤ b2 := Nat.le_trans K0.1 hz2
  have N2 := Fr.app N0 Nq2
  have Zs2 : n0 ≤ T2.heap.size := Nat.le_trans Z0 Kq2.1
  have F3 := V_a.keep Kq2 (ninS (Ne.symm nsa) nin0)
  have K2 := K0.trans Kq2 (allS (Or.inl (List.mem_of_getElem? (i := 0) rfl)) all0)
  refine os st2 ?_
  show OG p e below Φ T2 m 9 #[rv s_, rv a] []
  refine OGo.fin X2 hlk (v := none) (fun _ => rfl) (by decide) (by decide) (fun fs hr => X2.returnOut hx hret (hb hby d15_9) hr) fun U eU hF => hΦ _ _ _ ?_ hF
  rw [eU]
  show Q_rsli1 Z s_ a ca qc c0_ c1_ h0 n0 _ _ _
  exact ⟨rfl, N2, K2, Eq2, _, _, Fv2, Fc2, Vq2, sq2⟩

theorem pn3 : plainName "java/lang/StringLatin1" = true := by first | (simp [plainName, overriddenIn]; done) | decide +kernel
theorem d4_0 : decode jdk_43_method_3_code 0 = .ok (.iload_n 0, 1) := by decide +kernel
theorem d4_1 : decode jdk_43_method_3_code 1 = .ok (.sipush 255, 3) := by decide +kernel
theorem d4_4 : decode jdk_43_method_3_code 4 = .ok (.if_icmp .gt 7, 3) := by decide +kernel
theorem d4_7 : decode jdk_43_method_3_code 7 = .ok (.iconst 1, 1) := by decide +kernel
theorem d4_8 : decode jdk_43_method_3_code 8 = .ok (.goto 4, 3) := by decide +kernel
theorem d4_12 : decode jdk_43_method_3_code 12 = .ok (.ireturn, 1) := by decide +kernel
theorem ef_rvcan (m : MethodId) (x0 : Int32) : entryFrame m #[(.int x0)] 1 = mkF m 0 #[.val (.int x0)] [] := by first | (simp [entryFrame, mkF, argsToLocals, Value.category]; done) | rfl
def Q_rvcan (Z : State) (xc : Int32) (h0 : Heap) (n0 : Nat) (v : Option Value) (h : Heap) (L : List Loc) : Prop := v = some (.int (1 : Int32)) ∧ Fr n0 L ∧ h = h0
set_option maxRecDepth 65536 in
set_option maxHeartbeats 40000000 in
theorem rvcan (l : Launch) (Z : State) (a0 : Array Value) (hw : ∀ d ∈ tables_1, d.before a0 Z = true) (ws : List Jvm.Cond) (xc : Int32) (h0 : Heap) (n0 : Nat) (Z0 : n0 ≤ h0.size) (hl : ¬ (255 : Int32) < xc) :
    OCon l Z (⟨"java/lang/StringLatin1", "canEncode", "(C)Z"⟩ : MethodName) jdk_43_method_3_code 1 (some .boolean) ws ({ frames := 0, cells := 0, slots := 0, locals := 0 } : Room) #[(.int xc)] h0 (Q_rvcan Z xc h0 n0) := by
  refine OCon.of (plainFor_of_name pn3) ?_
  intro p e s m below meth c s₁ Φ X0 hx hby hml hown hnm hret hlk hZ e0 hΦ
  have N0 := Fr.nil n0
  refine os (fun _ z => castTop (ef_rvcan m xc) z) ?_
  show OG p e below Φ s₁ m 0 #[iv xc] []
  refine os (fun _ z => XS.iloadN X0.here hx rfl (hb hby d4_0) rfl z) ?_
  show OG p e below Φ s₁ m 1 #[iv xc] [(.int xc)]
  refine os (fun _ z => XS.sipush X0.here hx rfl (hb hby d4_1) z) ?_
  show OG p e below Φ s₁ m 4 #[iv xc] [(.int 255), (.int xc)]
  refine os (fun _ z => XS.icmpNo X0.here hx rfl (hb hby d4_4) rfl (XT.ii_gt_f hl) z) ?_
  show OG p e below Φ s₁ m 7 #[iv xc] []
  refine os (fun _ z => XS.iconst X0.here hx rfl (hb hby d4_7) z) ?_
  show OG p e below Φ s₁ m 8 #[iv xc] [(.int 1)]
  refine os (fun _ z => XS.goto X0.here hx rfl (pc0 := 8) (pc' := 12) rfl (hb hby d4_8) (by decide) (by decide) z) ?_
  show OG p e below Φ s₁ m 12 #[iv xc] [(.int 1)]
  refine OGo.fin X0 hlk (v := (some (.int 1))) (fun h => by rw [hret] at h; cases h) (by decide) (by decide) (fun fs hr => X0.ireturnOut hx hret rfl (by simp) (hb hby d4_12) hr) fun U eU hF => hΦ _ _ _ ?_ hF
  rw [eU, e0]
  show Q_rvcan Z xc h0 n0 _ _ _
  exact ⟨rfl, N0, rfl⟩

theorem d5_0 : decode jdk_43_method_46_code 0 = .ok (.iconst 1, 1) := by decide +kernel
theorem d5_1 : decode jdk_43_method_46_code 1 = .ok (.newarray .byte, 2) := by decide +kernel
theorem d5_3 : decode jdk_43_method_46_code 3 = .ok (.dup, 1) := by decide +kernel
theorem d5_4 : decode jdk_43_method_46_code 4 = .ok (.iconst 0, 1) := by decide +kernel
theorem d5_5 : decode jdk_43_method_46_code 5 = .ok (.iload_n 0, 1) := by decide +kernel
theorem d5_6 : decode jdk_43_method_46_code 6 = .ok (.i2b, 1) := by decide +kernel
theorem d5_7 : decode jdk_43_method_46_code 7 = .ok (.bastore, 1) := by decide +kernel
theorem d5_8 : decode jdk_43_method_46_code 8 = .ok (.areturn, 1) := by decide +kernel
theorem ef_rvtob (m : MethodId) (x0 : Int32) : entryFrame m #[(.int x0)] 1 = mkF m 0 #[.val (.int x0)] [] := by first | (simp [entryFrame, mkF, argsToLocals, Value.category]; done) | rfl
def Q_rvtob (Z : State) (xc : Int32) (h0 : Heap) (n0 : Nat) (v : Option Value) (h : Heap) (L : List Loc) : Prop := ∃ b cb, v = some (.ref b) ∧ Fr n0 L ∧ Keep h0 h [] ∧ Arv Z h b cb .byte (1 : Int32) [(.int (nar .byte (xc.toInt8.toInt32)))] (.int (0 : Int32)) ∧ h0.size ≤ b
set_option maxRecDepth 65536 in
set_option maxHeartbeats 40000000 in
theorem rvtob (l : Launch) (Z : State) (a0 : Array Value) (hw : ∀ d ∈ tables_1, d.before a0 Z = true) (ws : List Jvm.Cond) (xc : Int32) (h0 : Heap) (n0 : Nat) (Z0 : n0 ≤ h0.size)  :
    OCon l Z (⟨"java/lang/StringLatin1", "toBytes", "(C)[B"⟩ : MethodName) jdk_43_method_46_code 1 (some (.array .byte)) ws ({ frames := 0, cells := 1, slots := 1, locals := 0 } : Room) #[(.int xc)] h0 (Q_rvtob Z xc h0 n0) := by
  refine OCon.of (plainFor_of_name pn3) ?_
  intro p e s m below meth c s₁ Φ X0 hx hby hml hown hnm hret hlk hZ e0 hΦ
  have N0 := Fr.nil n0
  refine os (fun _ z => castTop (ef_rvtob m xc) z) ?_
  have K0 := Keep.refl h0 []
  show OG p e below Φ s₁ m 0 #[iv xc] []
  refine os (fun _ z => XS.iconst X0.here hx rfl (hb hby d5_0) z) ?_
  show OG p e below Φ s₁ m 1 #[iv xc] [(.int 1)]
  obtain ⟨T1, h1, c1, X1, e1, E1, Ar1, st1⟩ := newP (aty := .byte) X0 hx hZ (ow24 hw) e0 (g := (mkF m 1 #[iv xc] [(.int 1)])) rfl (hb hby d5_1) rfl (by decide) (cap := 1) (by decide) (by decide) (by decide) (by decide)
  obtain ⟨b1, g1⟩ : ∃ z, z = h0.size := ⟨_, rfl⟩
  rw [← g1] at Ar1 st1
  have gb1 : n0 ≤ b1 := Nat.le_trans Z0 (Nat.le_of_eq g1.symm)
  have sz1 : h0.size ≤ b1 := Nat.le_trans K0.1 (Nat.le_of_eq g1.symm)
  have K1 := K0.ext E1
  have Zs1 : n0 ≤ h1.size := Nat.le_trans Z0 E1.1
  have V1 : Arv Z h1 b1 c1 .byte (1 : Int32) [(.int (0 : Int32))] (.int (0 : Int32)) := (Arv.new Ar1 (by decide)).pad (pad_rep [] _ 1)
  refine os st1 ?_
  show OG p e below Φ T1 m 3 #[iv xc] [(.ref b1)]
  refine os (fun _ z => XS.dup X1.here hx rfl (hb hby d5_3) rfl rfl z) ?_
  show OG p e below Φ T1 m 4 #[iv xc] [(.ref b1), (.ref b1)]
  refine os (fun _ z => XS.iconst X1.here hx rfl (hb hby d5_4) z) ?_
  show OG p e below Φ T1 m 5 #[iv xc] [(.int 0), (.ref b1), (.ref b1)]
  refine os (fun _ z => XS.iloadN X1.here hx rfl (hb hby d5_5) rfl z) ?_
  show OG p e below Φ T1 m 6 #[iv xc] [(.int xc), (.int 0), (.ref b1), (.ref b1)]
  refine os (fun _ z => XT.i2b X1.here hx rfl (hb hby d5_6) rfl z) ?_
  show OG p e below Φ T1 m 7 #[iv xc] [(.int (xc.toInt8.toInt32)), (.int 0), (.ref b1), (.ref b1)]
  obtain ⟨cl2, Aq2, Cq2, S2, M2, H2, G2⟩ := id V1
  have in2 : ¬ ((0 : Int32) < 0 ∨ cl2.slots.size ≤ (0 : Int32).toNatClampNeg) := inb_of S2 ⟨by decide, by decide⟩
  obtain ⟨T2, h2, X2, e2, W2, st2⟩ := stB X1 hx hZ e1 Aq2 in2 (g := (mkF m 7 #[iv xc] [(.int (xc.toInt8.toInt32)), (.int 0), (.ref b1), (.ref b1)])) rfl rfl (hb hby d5_7)
  have W2 : Wr h1 h2 b1 (0 : Int32).toNatClampNeg (.int (nar .byte (xc.toInt8.toInt32))) := W2
  have V2 : Arv Z h2 b1 c1 .byte (1 : Int32) [(.int (nar .byte (xc.toInt8.toInt32)))] (.int (0 : Int32)) := Arv.set Aq2 Cq2 S2 M2 H2 G2 (fits_nar_byte _) W2 0 (by decide) (by show 0 < 1; decide)
  have K2 := K1.wr W2 (Or.inr sz1)
  have N2 := Fr.snoc X2 N0 gb1
  have Zs2 : n0 ≤ h2.size := by rw [W2.size]; exact Zs1
  refine os st2 ?_
  show OG p e below Φ T2 m 8 #[iv xc] [(.ref b1)]
  refine OGo.fin X2 hlk (v := (some (.ref b1))) (fun h => by rw [hret] at h; cases h) (by decide) (by decide) (fun fs hr => X2.areturnOut hx rfl hret rfl (hb hby d5_8) hr) fun U eU hF => hΦ _ _ _ ?_ hF
  rw [eU, e2]
  show Q_rvtob Z xc h0 n0 _ _ _
  exact ⟨_, _, rfl, N2, K2, V2, sz1⟩

theorem d6_0 : decode jdk_42_method_151_code 0 = .ok (.aload_n 0, 1) := by decide +kernel
theorem d6_1 : decode jdk_42_method_151_code 1 = .ok (.invokespecial 1, 3) := by decide +kernel
theorem d6_4 : decode jdk_42_method_151_code 4 = .ok (.aload_n 0, 1) := by decide +kernel
theorem d6_5 : decode jdk_42_method_151_code 5 = .ok (.aload_n 1, 1) := by decide +kernel
theorem d6_6 : decode jdk_42_method_151_code 6 = .ok (.putfield 9, 3) := by decide +kernel
theorem d6_9 : decode jdk_42_method_151_code 9 = .ok (.aload_n 0, 1) := by decide +kernel
theorem d6_10 : decode jdk_42_method_151_code 10 = .ok (.iload_n 2, 1) := by decide +kernel
theorem d6_11 : decode jdk_42_method_151_code 11 = .ok (.putfield 15, 3) := by decide +kernel
theorem d6_14 : decode jdk_42_method_151_code 14 = .ok (.return_, 1) := by decide +kernel
theorem ef_rvinb (m : MethodId) (x0 : Addr) (x1 : Addr) (x2 : Int32) : entryFrame m #[(.ref x0), (.ref x1), (.int x2)] 3 = mkF m 0 #[.val (.ref x0), .val (.ref x1), .val (.int x2)] [] := by first | (simp [entryFrame, mkF, argsToLocals, Value.category]; done) | rfl
def Q_rvinb (Z : State) (s_ : Addr) (b : Addr) (h0 : Heap) (n0 : Nat) (v : Option Value) (h : Heap) (L : List Loc) : Prop := v = none ∧ Fr n0 L ∧ Keep h0 h [s_] ∧ Exa Z h s_ "java/lang/String" ∧ Fld Z h s_ "java/lang/String" "value" "[B" (.ref b) ∧ Fld Z h s_ "java/lang/String" "coder" "B" (.int (0 : Int32))
set_option maxRecDepth 65536 in
set_option maxHeartbeats 40000000 in
theorem rvinb (l : Launch) (Z : State) (a0 : Array Value) (hw : ∀ d ∈ tables_1, d.before a0 Z = true) (ws : List Jvm.Cond) (s_ : Addr) (b : Addr) (h0 : Heap) (n0 : Nat) (Z0 : n0 ≤ h0.size) (E_s : Exa Z h0 s_ "java/lang/String") (g_s : n0 ≤ s_) (F_v : Fld Z h0 s_ "java/lang/String" "value" "[B" .null) (F_c : Fld Z h0 s_ "java/lang/String" "coder" "B" (.int (0 : Int32))) :
    OCon l Z (⟨"java/lang/String", "<init>", "([BB)V"⟩ : MethodName) jdk_42_method_151_code 3 none ws ({ frames := 1, cells := 0, slots := 0, locals := 12 } : Room) #[(.ref s_), (.ref b), (.int (0 : Int32))] h0 (Q_rvinb Z s_ b h0 n0) := by
  refine OCon.of (plainFor_of_name pn1) ?_
  intro p e s m below meth c s₁ Φ X0 hx hby hml hown hnm hret hlk hZ e0 hΦ
  have N0 := Fr.nil n0
  refine os (fun _ z => castTop (ef_rvinb m s_ b (0 : Int32)) z) ?_
  have K0 := Keep.refl h0 [s_]
  show OG p e below Φ s₁ m 0 #[rv s_, rv b, iv 0] []
  refine os (fun _ z => XS.aloadN X0.here hx rfl (hb hby d6_0) rfl rfl z) ?_
  show OG p e below Φ s₁ m 1 #[rv s_, rv b, iv 0] [(.ref s_)]
  obtain ⟨T1, X1, e1, st1⟩ := initO X0 hx hZ hown (ow29 hw) (ow30 hw) (ow31 hw) e0 (g := (mkF m 1 #[rv s_, rv b, iv 0] [(.ref s_)])) rfl (by rw [hml]; rfl) rfl (hb hby d6_1) (by decide) (W := 0) (Nat.le_of_eq rfl) (by decide)
  refine os st1 ?_
  show OG p e below Φ T1 m 4 #[rv s_, rv b, iv 0] []
  refine os (fun _ z => XS.aloadN X1.here hx rfl (hb hby d6_4) rfl rfl z) ?_
  show OG p e below Φ T1 m 5 #[rv s_, rv b, iv 0] [(.ref s_)]
  refine os (fun _ z => XS.aloadN X1.here hx rfl (hb hby d6_5) rfl rfl z) ?_
  show OG p e below Φ T1 m 6 #[rv s_, rv b, iv 0] [(.ref b), (.ref s_)]
  obtain ⟨T2, h2, X2, e2, W2, st2⟩ := putF X1 hx hZ hown (host := "") (Or.inl (ow32 hw)) Via.refl e1 F_v E_s (Or.inr ⟨(ow33 hw), rfl, hnm⟩) (ow20 hw) (ty := (.array .byte)) (by decide) rfl rfl (g := (mkF m 6 #[rv s_, rv b, iv 0] [(.ref b), (.ref s_)])) rfl rfl (hb hby d6_6)
  have F3 := E_s.wr W2
  have F4 := F_v.same W2
  have F5 := F_c.other W2 (Or.inr (slot_ne (Or.inr (ow35 hw)) (Or.inr (ow33 hw)) (by decide) (t := .byte) (t' := (.array .byte)) (by decide) (by decide)))
  have K2 := K0.wr W2 (Or.inl (List.mem_of_getElem? (i := 0) rfl))
  have N2 := Fr.snoc X2 N0 g_s
  have Zs2 : n0 ≤ h2.size := by rw [W2.size]; exact Z0
  refine os st2 ?_
  show OG p e below Φ T2 m 9 #[rv s_, rv b, iv 0] []
  refine os (fun _ z => XS.aloadN X2.here hx rfl (hb hby d6_9) rfl rfl z) ?_
  show OG p e below Φ T2 m 10 #[rv s_, rv b, iv 0] [(.ref s_)]
  refine os (fun _ z => XS.iloadN X2.here hx rfl (hb hby d6_10) rfl z) ?_
  show OG p e below Φ T2 m 11 #[rv s_, rv b, iv 0] [(.int 0), (.ref s_)]
  obtain ⟨T6, h6, X6, e6, W6, st6⟩ := putF X2 hx hZ hown (host := "") (Or.inl (ow34 hw)) Via.refl e2 F5 F3 (Or.inr ⟨(ow35 hw), rfl, hnm⟩) (ow20 hw) (ty := .byte) (by decide) (by decide) (by decide) (g := (mkF m 11 #[rv s_, rv b, iv 0] [(.int 0), (.ref s_)])) rfl rfl (hb hby d6_11)
  have F7 := F3.wr W6
  have F8 := F4.other W6 (Or.inr (slot_ne (Or.inr (ow33 hw)) (Or.inr (ow35 hw)) (by decide) (t := (.array .byte)) (t' := .byte) (by decide) (by decide)))
  have F9 := F5.same W6
  have K6 := K2.wr W6 (Or.inl (List.mem_of_getElem? (i := 0) rfl))
  have N6 := Fr.snoc X6 N2 g_s
  have Zs6 : n0 ≤ h6.size := by rw [W6.size]; exact Zs2
  refine os st6 ?_
  show OG p e below Φ T6 m 14 #[rv s_, rv b, iv 0] []
  refine OGo.fin X6 hlk (v := none) (fun _ => rfl) (by decide) (by decide) (fun fs hr => X6.returnOut hx hret (hb hby d6_14) hr) fun U eU hF => hΦ _ _ _ ?_ hF
  rw [eU, e6]
  show Q_rvinb Z s_ b h0 n0 _ _ _
  exact ⟨rfl, N6, K6, F7, F8, F9⟩

theorem d3_0 : decode jdk_42_method_139_code 0 = .ok (.getstatic 38, 3) := by decide +kernel
theorem d3_3 : decode jdk_42_method_139_code 3 = .ok (.ifCond .eq 23, 3) := by decide +kernel
theorem d3_6 : decode jdk_42_method_139_code 6 = .ok (.iload_n 0, 1) := by decide +kernel
theorem d3_7 : decode jdk_42_method_139_code 7 = .ok (.invokestatic 1015, 3) := by decide +kernel
theorem pd5 : parseMethodDescriptor "(C)Z" = some ⟨[.char], some .boolean⟩ := by decide +kernel
theorem d3_10 : decode jdk_42_method_139_code 10 = .ok (.ifCond .eq 16, 3) := by decide +kernel
theorem d3_13 : decode jdk_42_method_139_code 13 = .ok (.new 10, 3) := by decide +kernel
theorem d3_16 : decode jdk_42_method_139_code 16 = .ok (.dup, 1) := by decide +kernel
theorem d3_17 : decode jdk_42_method_139_code 17 = .ok (.iload_n 0, 1) := by decide +kernel
theorem d3_18 : decode jdk_42_method_139_code 18 = .ok (.invokestatic 1018, 3) := by decide +kernel
theorem pd6 : parseMethodDescriptor "(C)[B" = some ⟨[.char], some (.array .byte)⟩ := by decide +kernel
theorem d3_21 : decode jdk_42_method_139_code 21 = .ok (.iconst 0, 1) := by decide +kernel
theorem d3_22 : decode jdk_42_method_139_code 22 = .ok (.invokespecial 209, 3) := by decide +kernel
theorem pd7 : parseMethodDescriptor "([BB)V" = some ⟨[(.array .byte), .byte], none⟩ := by decide +kernel
theorem d3_25 : decode jdk_42_method_139_code 25 = .ok (.areturn, 1) := by decide +kernel
theorem ef_rvvof (m : MethodId) (x0 : Int32) : entryFrame m #[(.int x0)] 1 = mkF m 0 #[.val (.int x0)] [] := by first | (simp [entryFrame, mkF, argsToLocals, Value.category]; done) | rfl
def Q_rvvof (Z : State) (xc : Int32) (qc : Int32) (h0 : Heap) (n0 : Nat) (v : Option Value) (h : Heap) (L : List Loc) : Prop := ∃ s_ b cb, v = some (.ref s_) ∧ Fr n0 L ∧ Keep h0 h [] ∧ Exa Z h s_ "java/lang/String" ∧ Fld Z h s_ "java/lang/String" "value" "[B" (.ref b) ∧ Fld Z h s_ "java/lang/String" "coder" "B" (.int (0 : Int32)) ∧ Arv Z h b cb .byte (1 : Int32) [(.int (nar .byte (xc.toInt8.toInt32)))] (.int (0 : Int32)) ∧ h0.size ≤ s_ ∧ h0.size ≤ b ∧ s_ ≠ b
set_option maxRecDepth 65536 in
set_option maxHeartbeats 40000000 in
theorem rvvof (l : Launch) (Z : State) (a0 : Array Value) (hw : ∀ d ∈ tables_1, d.before a0 Z = true) (ws : List Jvm.Cond) (xc : Int32) (qc : Int32) (h0 : Heap) (n0 : Nat) (Z0 : n0 ≤ h0.size) (S_q : Sta Z h0 "java/lang/String" "COMPACT_STRINGS" "Z" (.int qc)) (hq : ¬ qc = 0) (hl : ¬ (255 : Int32) < xc) :
    OCon l Z (⟨"java/lang/String", "valueOf", "(C)Ljava/lang/String;"⟩ : MethodName) jdk_42_method_139_code 1 (some (.object "java/lang/String")) ws ({ frames := 2, cells := 2, slots := 5, locals := 27 } : Room) #[(.int xc)] h0 (Q_rvvof Z xc qc h0 n0) := by
  refine OCon.of (plainFor_of_name pn1) ?_
  intro p e s m below meth c s₁ Φ X0 hx hby hml hown hnm hret hlk hZ e0 hΦ
  have N0 := Fr.nil n0
  refine os (fun _ z => castTop (ef_rvvof m xc) z) ?_
  have K0 := Keep.refl h0 []
  show OG p e below Φ s₁ m 0 #[iv xc] []
  obtain ⟨T1, X1, e1, st1⟩ := getS2 X0 hx hZ hown (host := "") (Or.inl (ow14 hw)) Via.refl e0 S_q (g := (mkF m 0 #[iv xc] [])) rfl (hb hby d3_0)
  refine os st1 ?_
  show OG p e below Φ T1 m 3 #[iv xc] [(.int qc)]
  refine os (fun _ z => XS.ifNo X1.here hx rfl (hb hby d3_3) rfl (XT.i0_eq_f hq) z) ?_
  show OG p e below Φ T1 m 6 #[iv xc] []
  refine os (fun _ z => XS.iloadN X1.here hx rfl (hb hby d3_6) rfl z) ?_
  show OG p e below Φ T1 m 7 #[iv xc] [(.int xc)]
  obtain ⟨_, T2, L2, X2, hQ2, st2⟩ := own_callSt X1 hx hZ hown (ow15 hw) (ow16 hw) (ow17 hw) (ow18 hw) (by decide) (rvcan l Z a0 hw [] xc h0 n0 Z0 hl) e1 (W := 0) (by decide) (by decide) (by decide) (by decide) (pc := 7) (ls := #[iv xc]) (stk := [(.int xc)]) (by rw [hml]; rfl) (argsL := [(.int xc)]) (rest := []) (lenOf pd5 rfl) rfl rfl (Nat.le_of_eq rfl) (hb hby d3_7)
  obtain ⟨rfl, Nq2, e2⟩ := hQ2
  have N2 := Fr.app N0 Nq2
  refine os st2 ?_
  show OG p e below Φ T2 m 10 #[iv xc] [(.int 1)]
  refine os (fun _ z => XS.ifNo X2.here hx rfl (hb hby d3_10) rfl (XT.i0_eq_f (by decide)) z) ?_
  show OG p e below Φ T2 m 13 #[iv xc] []
  obtain ⟨T3, h3, X3, e3, E3, A3, D3, U3, st3⟩ := newO X2 hx hZ hown (ow19 hw) (ow20 hw) (ow12 hw) e2 (g := (mkF m 13 #[iv xc] [])) rfl (hb hby d3_13) (by decide) (by decide)
  obtain ⟨b3, g3⟩ : ∃ z, z = h0.size := ⟨_, rfl⟩
  rw [← g3] at A3 D3 st3 U3
  have F4 := S_q.ext E3
  have gb3 : n0 ≤ b3 := Nat.le_trans Z0 (Nat.le_of_eq g3.symm)
  have K3 := K0.ext E3
  have sz3 : h0.size ≤ b3 := Nat.le_trans K0.1 (Nat.le_of_eq g3.symm)
  have Zs3 : n0 ≤ h3.size := Nat.le_trans Z0 E3.1
  have F3_33 : Fld Z h3 b3 "java/lang/String" "value" "[B" .null := D3 (Or.inr (ow33 hw)) (ty := (.array .byte)) (by decide)
  have F3_35 : Fld Z h3 b3 "java/lang/String" "coder" "B" (.int (0 : Int32)) := D3 (Or.inr (ow35 hw)) (ty := .byte) (by decide)
  refine os (st3) ?_
  show OG p e below Φ T3 m 16 #[iv xc] [(.ref b3)]
  refine os (fun _ z => XS.dup X3.here hx rfl (hb hby d3_16) rfl rfl z) ?_
  show OG p e below Φ T3 m 17 #[iv xc] [(.ref b3), (.ref b3)]
  refine os (fun _ z => XS.iloadN X3.here hx rfl (hb hby d3_17) rfl z) ?_
  show OG p e below Φ T3 m 18 #[iv xc] [(.int xc), (.ref b3), (.ref b3)]
  obtain ⟨_, T5, L5, X5, hQ5, st5⟩ := own_callSt X3 hx hZ hown (ow21 hw) (ow22 hw) (ow17 hw) (ow23 hw) (by decide) (rvtob l Z a0 hw [] xc h3 n0 Zs3 ) e3 (W := 2) (by decide) (by decide) (by decide) (by decide) (pc := 18) (ls := #[iv xc]) (stk := [(.int xc), (.ref b3), (.ref b3)]) (by rw [hml]; rfl) (argsL := [(.int xc)]) (rest := [(.ref b3), (.ref b3)]) (lenOf pd6 rfl) rfl rfl (Nat.le_of_eq rfl) (hb hby d3_18)
  obtain ⟨b5, cb5, rfl, Nq5, Kq5, Vq5, hz5⟩ := hQ5
  have nq5_b3 : b3 ≠ b5 := Nat.ne_of_lt (Nat.lt_of_lt_of_le A3.lt hz5)
  have gq5 : n0 ≤ b5 := Nat.le_trans Zs3 hz5
  have sq5 : h0.size ≤ b5 := Nat.le_trans K3.1 hz5
  have N5 := Fr.app N2 Nq5
  have Zs5 : n0 ≤ T5.heap.size := Nat.le_trans Zs3 Kq5.1
  have F6 := A3.keep Kq5
  have F7 := F3_33.keep Kq5 nin0
  have F8 := F3_35.keep Kq5 nin0
  have K5 := K3.trans Kq5 all0
  refine os st5 ?_
  show OG p e below Φ T5 m 21 #[iv xc] [(.ref b5), (.ref b3), (.ref b3)]
  refine os (fun _ z => XS.iconst X5.here hx rfl (hb hby d3_21) z) ?_
  show OG p e below Φ T5 m 22 #[iv xc] [(.int 0), (.ref b5), (.ref b3), (.ref b3)]
  obtain ⟨_, T9, L9, X9, hQ9, st9⟩ := own_callSp X5 hx hZ rfl hown (ow25 hw) (ow26 hw) (ow12 hw) (ow28 hw) (by decide) (rvinb l Z a0 hw [] b3 b5 T5.heap n0 Zs5 F6 gb3 F7 F8) rfl (W := 1) (by decide) (by decide) (by decide) (by decide) (pc := 22) (ls := #[iv xc]) (stk := [(.int 0), (.ref b5), (.ref b3), (.ref b3)]) (by rw [hml]; rfl) (a := b3) (argsL := [(.ref b5), (.int 0)]) (rest := [(.ref b3)]) (lenOf pd7 rfl) rfl rfl (Nat.le_of_eq rfl) (hb hby d3_22)
  obtain ⟨rfl, Nq9, Kq9, Eq9, Fq9_0, Fq9_1⟩ := hQ9
  have N9 := Fr.app N5 Nq9
  have Zs9 : n0 ≤ T9.heap.size := Nat.le_trans Zs5 Kq9.1
  have F10 := Vq5.keep Kq9 (ninS (Ne.symm nq5_b3) nin0)
  have K9 := K5.trans Kq9 (allS (Or.inr sz3) all0)
  refine os st9 ?_
  show OG p e below Φ T9 m 25 #[iv xc] [(.ref b3)]
  refine OGo.fin X9 hlk (v := (some (.ref b3))) (fun h => by rw [hret] at h; cases h) (by decide) (by decide) (fun fs hr => X9.areturnOut hx rfl hret rfl (hb hby d3_25) hr) fun U eU hF => hΦ _ _ _ ?_ hF
  rw [eU]
  show Q_rvvof Z xc qc h0 n0 _ _ _
  exact ⟨_, _, _, rfl, N9, K9, Eq9, Fq9_0, Fq9_1, F10, sz3, sq5, nq5_b3⟩

theorem d1_0 : decode method_4_code 0 = .ok (.iload_n 0, 1) := by decide +kernel
theorem d1_1 : decode method_4_code 1 = .ok (.invokestatic 7, 3) := by decide +kernel
theorem d1_4 : decode method_4_code 4 = .ok (.invokestatic 13, 3) := by decide +kernel
theorem pd8 : parseMethodDescriptor "(C)Ljava/lang/String;" = some ⟨[.char], some (.object "java/lang/String")⟩ := by decide +kernel
theorem d1_7 : decode method_4_code 7 = .ok (.areturn, 1) := by decide +kernel
theorem ef_rba (m : MethodId) (x0 : Int32) : entryFrame m #[(.int x0)] 1 = mkF m 0 #[.val (.int x0)] [] := by first | (simp [entryFrame, mkF, argsToLocals, Value.category]; done) | rfl
def Q_rba (Z : State) (xx : Int32) (qc : Int32) (h0 : Heap) (n0 : Nat) (v : Option Value) (h : Heap) (L : List Loc) : Prop := ∃ s_, v = some (.ref s_) ∧ Fr n0 L ∧ Keep h0 h [] ∧ TStr Z h s_ 1 (own_b (own_c1 xx)) ∧ h0.size ≤ s_
set_option maxRecDepth 65536 in
set_option maxHeartbeats 40000000 in
theorem rba (l : Launch) (Z : State) (a0 : Array Value) (hw : ∀ d ∈ tables_1, d.before a0 Z = true) (ws : List Jvm.Cond) (xx : Int32) (qc : Int32) (h0 : Heap) (n0 : Nat) (Z0 : n0 ≤ h0.size) (O_0 : Old Z n0 h0) (S_cs : Sta Z Z.heap "java/lang/String" "COMPACT_STRINGS" "Z" (.int qc)) (hq : ¬ qc = 0) :
    OCon l Z (⟨"com/example/zonewright/zonewright/storage/ServiceInstanceEqualsPinLaw", "base", "(I)Ljava/lang/String;"⟩ : MethodName) method_4_code 1 (some (.object "java/lang/String")) ws ({ frames := 3, cells := 2, slots := 5, locals := 39 } : Room) #[(.int xx)] h0 (Q_rba Z xx qc h0 n0) := by
  refine OCon.of (plainFor_of_name pn0) ?_
  intro p e s m below meth c s₁ Φ X0 hx hby hml hown hnm hret hlk hZ e0 hΦ
  have N0 := Fr.nil n0
  refine os (fun _ z => castTop (ef_rba m xx) z) ?_
  have K0 := Keep.refl h0 []
  show OG p e below Φ s₁ m 0 #[iv xx] []
  refine os (fun _ z => XS.iloadN X0.here hx rfl (hb hby d1_0) rfl z) ?_
  show OG p e below Φ s₁ m 1 #[iv xx] [(.int xx)]
  obtain ⟨_, T1, L1, X1, hQ1, st1⟩ := own_callSt X0 hx hZ hown (ow7 hw) (ow8 hw) (ow5 hw) (ow9 hw) (by decide) (rc1 l Z a0 hw [] xx h0 n0 Z0 ) e0 (W := 0) (by decide) (by decide) (by decide) (by decide) (pc := 1) (ls := #[iv xx]) (stk := [(.int xx)]) (by rw [hml]; rfl) (argsL := [(.int xx)]) (rest := []) (lenOf pd0 rfl) rfl rfl (Nat.le_of_eq rfl) (hb hby d1_1)
  obtain ⟨rfl, Nq1, e1⟩ := hQ1
  have N1 := Fr.app N0 Nq1
  refine os st1 ?_
  show OG p e below Φ T1 m 4 #[iv xx] [(.int (own_c1 xx))]
  obtain ⟨_, T2, L2, X2, hQ2, st2⟩ := own_callSt X1 hx hZ hown (ow10 hw) (ow11 hw) (ow12 hw) (ow13 hw) (by decide) (rvvof l Z a0 hw [] (own_c1 xx) qc h0 n0 Z0 (S_cs.ext O_0.2) hq (own_c1l xx)) e1 (W := 0) (by decide) (by decide) (by decide) (by decide) (pc := 4) (ls := #[iv xx]) (stk := [(.int (own_c1 xx))]) (by rw [hml]; rfl) (argsL := [(.int (own_c1 xx))]) (rest := []) (lenOf pd8 rfl) rfl rfl (Nat.le_of_eq rfl) (hb hby d1_4)
  obtain ⟨sx2, bx2, cx2, rfl, Nq2, Kq2, Eq2, Fv2, Fc2, Vq2, hz2, hy2, nn2⟩ := hQ2
  have gq2 : n0 ≤ sx2 := Nat.le_trans Z0 hz2
  have sq2 : h0.size ≤ sx2 := Nat.le_trans K0.1 hz2
  have gq100002 : n0 ≤ bx2 := Nat.le_trans Z0 hy2
  have sq100002 : h0.size ≤ bx2 := Nat.le_trans K0.1 hy2
  have N2 := Fr.app N1 Nq2
  have Zs2 : n0 ≤ T2.heap.size := Nat.le_trans Z0 Kq2.1
  have F3 := O_0.keep Kq2 all0
  have K2 := K0.trans Kq2 all0
  refine os st2 ?_
  show OG p e below Φ T2 m 7 #[iv xx] [(.ref sx2)]
  refine OGo.fin X2 hlk (v := (some (.ref sx2))) (fun h => by rw [hret] at h; cases h) (by decide) (by decide) (fun fs hr => X2.areturnOut hx rfl hret rfl (hb hby d1_7) hr) fun U eU hF => hΦ _ _ _ ?_ hF
  rw [eU]
  show Q_rba Z xx qc h0 n0 _ _ _
  exact ⟨_, rfl, N2, K2, ⟨Eq2, _, _, _, _, Fv2, Fc2, Vq2, Or.inl ⟨rfl, rfl, rfl⟩⟩, sq2⟩

theorem d9_0 : decode method_5_code 0 = .ok (.iload_n 0, 1) := by decide +kernel
theorem d9_1 : decode method_5_code 1 = .ok (.ifCond .ne 11, 3) := by decide +kernel
theorem d9_4 : decode method_5_code 4 = .ok (.iload_n 1, 1) := by decide +kernel
theorem d9_5 : decode method_5_code 5 = .ok (.invokestatic 7, 3) := by decide +kernel
theorem d9_8 : decode method_5_code 8 = .ok (.invokestatic 13, 3) := by decide +kernel
theorem d9_11 : decode method_5_code 11 = .ok (.areturn, 1) := by decide +kernel
theorem d9_12 : decode method_5_code 12 = .ok (.iload_n 0, 1) := by decide +kernel
theorem d9_13 : decode method_5_code 13 = .ok (.iconst 1, 1) := by decide +kernel
theorem d9_14 : decode method_5_code 14 = .ok (.if_icmp .ne 11, 3) := by decide +kernel
theorem d9_17 : decode method_5_code 17 = .ok (.iload_n 1, 1) := by decide +kernel
theorem d9_18 : decode method_5_code 18 = .ok (.invokestatic 19, 3) := by decide +kernel
theorem d9_21 : decode method_5_code 21 = .ok (.invokestatic 13, 3) := by decide +kernel
theorem d9_24 : decode method_5_code 24 = .ok (.areturn, 1) := by decide +kernel
theorem d9_25 : decode method_5_code 25 = .ok (.iload_n 0, 1) := by decide +kernel
theorem d9_26 : decode method_5_code 26 = .ok (.iconst 2, 1) := by decide +kernel
theorem d9_27 : decode method_5_code 27 = .ok (.if_icmp .ne 14, 3) := by decide +kernel
theorem d9_30 : decode method_5_code 30 = .ok (.new 14, 3) := by decide +kernel
theorem d9_33 : decode method_5_code 33 = .ok (.dup, 1) := by decide +kernel
theorem d9_34 : decode method_5_code 34 = .ok (.iconst 0, 1) := by decide +kernel
theorem d9_35 : decode method_5_code 35 = .ok (.newarray .char, 2) := by decide +kernel
theorem d9_37 : decode method_5_code 37 = .ok (.invokespecial 22, 3) := by decide +kernel
theorem pd9 : parseMethodDescriptor "([C)V" = some ⟨[(.array .char)], none⟩ := by decide +kernel
theorem d9_40 : decode method_5_code 40 = .ok (.areturn, 1) := by decide +kernel
theorem d9_41 : decode method_5_code 41 = .ok (.new 14, 3) := by decide +kernel
theorem d9_44 : decode method_5_code 44 = .ok (.dup, 1) := by decide +kernel
theorem d9_45 : decode method_5_code 45 = .ok (.iconst 2, 1) := by decide +kernel
theorem d9_46 : decode method_5_code 46 = .ok (.newarray .char, 2) := by decide +kernel
theorem d9_48 : decode method_5_code 48 = .ok (.dup, 1) := by decide +kernel
theorem d9_49 : decode method_5_code 49 = .ok (.iconst 0, 1) := by decide +kernel
theorem d9_50 : decode method_5_code 50 = .ok (.iload_n 1, 1) := by decide +kernel
theorem d9_51 : decode method_5_code 51 = .ok (.invokestatic 7, 3) := by decide +kernel
theorem d9_54 : decode method_5_code 54 = .ok (.castore, 1) := by decide +kernel
theorem d9_55 : decode method_5_code 55 = .ok (.dup, 1) := by decide +kernel
theorem d9_56 : decode method_5_code 56 = .ok (.iconst 1, 1) := by decide +kernel
theorem d9_57 : decode method_5_code 57 = .ok (.iload_n 1, 1) := by decide +kernel
theorem d9_58 : decode method_5_code 58 = .ok (.invokestatic 19, 3) := by decide +kernel
theorem d9_61 : decode method_5_code 61 = .ok (.castore, 1) := by decide +kernel
theorem d9_62 : decode method_5_code 62 = .ok (.invokespecial 22, 3) := by decide +kernel
theorem d9_65 : decode method_5_code 65 = .ok (.areturn, 1) := by decide +kernel
theorem ef_rmk (m : MethodId) (x0 : Int32) (x1 : Int32) : entryFrame m #[(.int x0), (.int x1)] 2 = mkF m 0 #[.val (.int x0), .val (.int x1)] [] := by first | (simp [entryFrame, mkF, argsToLocals, Value.category]; done) | rfl
def Q_rmk (Z : State) (mo : Int32) (xx : Int32) (qc : Int32) (h0 : Heap) (n0 : Nat) (v : Option Value) (h : Heap) (L : List Loc) : Prop := ∃ s_, v = some (.ref s_) ∧ Fr n0 L ∧ Keep h0 h [] ∧ TStr Z h s_ (own_t mo) (own_bb mo xx) ∧ h0.size ≤ s_
set_option maxRecDepth 65536 in
set_option maxHeartbeats 40000000 in
theorem rmk (l : Launch) (Z : State) (a0 : Array Value) (hw : ∀ d ∈ tables_1, d.before a0 Z = true) (ws : List Jvm.Cond) (mo : Int32) (xx : Int32) (qc : Int32) (h0 : Heap) (n0 : Nat) (Z0 : n0 ≤ h0.size) (O_0 : Old Z n0 h0) (S_cs : Sta Z Z.heap "java/lang/String" "COMPACT_STRINGS" "Z" (.int qc)) (hq : ¬ qc = 0) :
    OConW l Z own_EL (⟨"com/example/zonewright/zonewright/storage/ServiceInstanceEqualsPinLaw", "mk", "(II)Ljava/lang/String;"⟩ : MethodName) method_5_code 2 (some (.object "java/lang/String")) ws ({ frames := 4, cells := 4, slots := 8, locals := 66 } : Room) #[(.int mo), (.int xx)] h0 [] (Q_rmk Z mo xx qc h0 n0) := by
  refine OConW.of (plainFor_of_name pn0) ?_
  intro p e s m below meth c s₁ Φ X0 hx hby hml hown hnm hret hlk hZ e0 hS hkk hC hsf hΦ
  have N0 := Fr.nil n0
  refine os (fun _ z => castTop (ef_rmk m mo xx) z) ?_
  have K0 := Keep.refl h0 []
  show OG p e below Φ s₁ m 0 #[iv mo, iv xx] []
  refine os (fun _ z => XS.iloadN X0.here hx rfl (hb hby d9_0) rfl z) ?_
  show OG p e below Φ s₁ m 1 #[iv mo, iv xx] [(.int mo)]
  by_cases hc1 : mo = 0
  · refine os (fun _ z => XS.ifNo X0.here hx rfl (hb hby d9_1) rfl (XT.i0_ne_f hc1) z) ?_
    show OG p e below Φ s₁ m 4 #[iv mo, iv xx] []
    refine os (fun _ z => XS.iloadN X0.here hx rfl (hb hby d9_4) rfl z) ?_
    show OG p e below Φ s₁ m 5 #[iv mo, iv xx] [(.int xx)]
    obtain ⟨_, T2, L2, X2, hQ2, st2⟩ := own_callSt X0 hx hZ hown (ow7 hw) (ow8 hw) (ow5 hw) (ow9 hw) (by decide) (rc1 l Z a0 hw [] xx h0 n0 Z0 ) e0 (W := 0) (by decide) (by decide) (by decide) (by decide) (pc := 5) (ls := #[iv mo, iv xx]) (stk := [(.int xx)]) (by rw [hml]; rfl) (argsL := [(.int xx)]) (rest := []) (lenOf pd0 rfl) rfl rfl (Nat.le_of_eq rfl) (hb hby d9_5)
    obtain ⟨rfl, Nq2, e2⟩ := hQ2
    have N2 := Fr.app N0 Nq2
    refine os st2 ?_
    show OG p e below Φ T2 m 8 #[iv mo, iv xx] [(.int (own_c1 xx))]
    obtain ⟨_, T3, L3, X3, hQ3, st3⟩ := own_callSt X2 hx hZ hown (ow10 hw) (ow11 hw) (ow12 hw) (ow13 hw) (by decide) (rvvof l Z a0 hw [] (own_c1 xx) qc h0 n0 Z0 (S_cs.ext O_0.2) hq (own_c1l xx)) e2 (W := 0) (by decide) (by decide) (by decide) (by decide) (pc := 8) (ls := #[iv mo, iv xx]) (stk := [(.int (own_c1 xx))]) (by rw [hml]; rfl) (argsL := [(.int (own_c1 xx))]) (rest := []) (lenOf pd8 rfl) rfl rfl (Nat.le_of_eq rfl) (hb hby d9_8)
    obtain ⟨sx3, bx3, cx3, rfl, Nq3, Kq3, Eq3, Fv3, Fc3, Vq3, hz3, hy3, nn3⟩ := hQ3
    have gq3 : n0 ≤ sx3 := Nat.le_trans Z0 hz3
    have sq3 : h0.size ≤ sx3 := Nat.le_trans K0.1 hz3
    have gq100003 : n0 ≤ bx3 := Nat.le_trans Z0 hy3
    have sq100003 : h0.size ≤ bx3 := Nat.le_trans K0.1 hy3
    have N3 := Fr.app N2 Nq3
    have Zs3 : n0 ≤ T3.heap.size := Nat.le_trans Z0 Kq3.1
    have F4 := O_0.keep Kq3 all0
    have hA5 := CHr.keep Kq3 sf0 hC.1
    have hkk := Nat.le_trans hkk hA5.2.1
    have hC := hC.trans hA5
    have K3 := K0.trans Kq3 all0
    refine os st3 ?_
    show OG p e below Φ T3 m 11 #[iv mo, iv xx] [(.ref sx3)]
    refine OGo.finW X3 hlk hS rfl hkk (v := (some (.ref sx3))) (fun h => by rw [hret] at h; cases h) (by decide) (by decide) hZ (own_EW hw) hC (fun fs hr => X3.areturnOut hx rfl hret rfl (hb hby d9_11) hr) fun U eU hc hF => hΦ _ _ _ ?_ hc hF
    rw [eU]
    show Q_rmk Z mo xx qc h0 n0 _ _ _
    exact ⟨_, rfl, N3, K3, ⟨Eq3, _, _, _, _, Fv3, Fc3, Vq3, Or.inl ⟨by simp [own_t, hc1], rfl, by rw [own_bb0 hc1]; rfl⟩⟩, sq3⟩
  · refine os (fun _ z => XS.ifYes X0.here hx rfl (pc0 := 1) (pc' := 12) rfl (hb hby d9_1) rfl (XT.i0_ne_t hc1) (by decide) (by decide) z) ?_
    show OG p e below Φ s₁ m 12 #[iv mo, iv xx] []
    refine os (fun _ z => XS.iloadN X0.here hx rfl (hb hby d9_12) rfl z) ?_
    show OG p e below Φ s₁ m 13 #[iv mo, iv xx] [(.int mo)]
    refine os (fun _ z => XS.iconst X0.here hx rfl (hb hby d9_13) z) ?_
    show OG p e below Φ s₁ m 14 #[iv mo, iv xx] [(.int 1), (.int mo)]
    by_cases hc6 : mo = (1 : Int32)
    · refine os (fun _ z => XS.icmpNo X0.here hx rfl (hb hby d9_14) rfl (XT.ii_ne_f hc6) z) ?_
      show OG p e below Φ s₁ m 17 #[iv mo, iv xx] []
      refine os (fun _ z => XS.iloadN X0.here hx rfl (hb hby d9_17) rfl z) ?_
      show OG p e below Φ s₁ m 18 #[iv mo, iv xx] [(.int xx)]
      obtain ⟨_, T7, L7, X7, hQ7, st7⟩ := own_callSt X0 hx hZ hown (ow71 hw) (ow72 hw) (ow5 hw) (ow73 hw) (by decide) (rc2 l Z a0 hw [] xx h0 n0 Z0 ) e0 (W := 0) (by decide) (by decide) (by decide) (by decide) (pc := 18) (ls := #[iv mo, iv xx]) (stk := [(.int xx)]) (by rw [hml]; rfl) (argsL := [(.int xx)]) (rest := []) (lenOf pd0 rfl) rfl rfl (Nat.le_of_eq rfl) (hb hby d9_18)
      obtain ⟨rfl, Nq7, e7⟩ := hQ7
      have N7 := Fr.app N0 Nq7
      refine os st7 ?_
      show OG p e below Φ T7 m 21 #[iv mo, iv xx] [(.int (own_c2 xx))]
      obtain ⟨_, T8, L8, X8, hQ8, st8⟩ := own_callSt X7 hx hZ hown (ow10 hw) (ow11 hw) (ow12 hw) (ow13 hw) (by decide) (rvvof l Z a0 hw [] (own_c2 xx) qc h0 n0 Z0 (S_cs.ext O_0.2) hq (own_c2l xx)) e7 (W := 0) (by decide) (by decide) (by decide) (by decide) (pc := 21) (ls := #[iv mo, iv xx]) (stk := [(.int (own_c2 xx))]) (by rw [hml]; rfl) (argsL := [(.int (own_c2 xx))]) (rest := []) (lenOf pd8 rfl) rfl rfl (Nat.le_of_eq rfl) (hb hby d9_21)
      obtain ⟨sx8, bx8, cx8, rfl, Nq8, Kq8, Eq8, Fv8, Fc8, Vq8, hz8, hy8, nn8⟩ := hQ8
      have gq8 : n0 ≤ sx8 := Nat.le_trans Z0 hz8
      have sq8 : h0.size ≤ sx8 := Nat.le_trans K0.1 hz8
      have gq100008 : n0 ≤ bx8 := Nat.le_trans Z0 hy8
      have sq100008 : h0.size ≤ bx8 := Nat.le_trans K0.1 hy8
      have N8 := Fr.app N7 Nq8
      have Zs8 : n0 ≤ T8.heap.size := Nat.le_trans Z0 Kq8.1
      have F9 := O_0.keep Kq8 all0
      have hA10 := CHr.keep Kq8 sf0 hC.1
      have hkk := Nat.le_trans hkk hA10.2.1
      have hC := hC.trans hA10
      have K8 := K0.trans Kq8 all0
      refine os st8 ?_
      show OG p e below Φ T8 m 24 #[iv mo, iv xx] [(.ref sx8)]
      refine OGo.finW X8 hlk hS rfl hkk (v := (some (.ref sx8))) (fun h => by rw [hret] at h; cases h) (by decide) (by decide) hZ (own_EW hw) hC (fun fs hr => X8.areturnOut hx rfl hret rfl (hb hby d9_24) hr) fun U eU hc hF => hΦ _ _ _ ?_ hc hF
      rw [eU]
      show Q_rmk Z mo xx qc h0 n0 _ _ _
      exact ⟨_, rfl, N8, K8, ⟨Eq8, _, _, _, _, Fv8, Fc8, Vq8, Or.inl ⟨by simp [own_t, hc6], rfl, by rw [own_bb1 hc1]; rfl⟩⟩, sq8⟩
    · refine os (fun _ z => XS.icmpYes X0.here hx rfl (pc0 := 14) (pc' := 25) rfl (hb hby d9_14) rfl (XT.ii_ne_t hc6) (by decide) (by decide) z) ?_
      show OG p e below Φ s₁ m 25 #[iv mo, iv xx] []
      refine os (fun _ z => XS.iloadN X0.here hx rfl (hb hby d9_25) rfl z) ?_
      show OG p e below Φ s₁ m 26 #[iv mo, iv xx] [(.int mo)]
      refine os (fun _ z => XS.iconst X0.here hx rfl (hb hby d9_26) z) ?_
      show OG p e below Φ s₁ m 27 #[iv mo, iv xx] [(.int 2), (.int mo)]
      by_cases hc11 : mo = (2 : Int32)
      · refine os (fun _ z => XS.icmpNo X0.here hx rfl (hb hby d9_27) rfl (XT.ii_ne_f hc11) z) ?_
        show OG p e below Φ s₁ m 30 #[iv mo, iv xx] []
        obtain ⟨T12, h12, X12, e12, E12, A12, D12, U12, st12⟩ := newO X0 hx hZ hown (ow69 hw) (ow20 hw) (ow12 hw) e0 (g := (mkF m 30 #[iv mo, iv xx] [])) rfl (hb hby d9_30) (by decide) (by decide)
        obtain ⟨b12, g12⟩ : ∃ z, z = h0.size := ⟨_, rfl⟩
        rw [← g12] at A12 D12 st12 U12
        have F13 := O_0.ext E12
        have gb12 : n0 ≤ b12 := Nat.le_trans Z0 (Nat.le_of_eq g12.symm)
        have K12 := K0.ext E12
        have sz12 : h0.size ≤ b12 := Nat.le_trans K0.1 (Nat.le_of_eq g12.symm)
        have Zs12 : n0 ≤ h12.size := Nat.le_trans Z0 E12.1
        have F12_33 : Fld Z h12 b12 "java/lang/String" "value" "[B" .null := D12 (Or.inr (ow33 hw)) (ty := (.array .byte)) (by decide)
        have F12_35 : Fld Z h12 b12 "java/lang/String" "coder" "B" (.int (0 : Int32)) := D12 (Or.inr (ow35 hw)) (ty := .byte) (by decide)
        have hA14 := CHr.ext E12 hC.1
        have sf_b12 := Safe.ext E12 hC.1 (Safe.new (Nat.le_of_eq g12.symm))
        have hkk := Nat.le_trans hkk hA14.2.1
        have hC := hC.trans hA14
        refine os (st12) ?_
        show OG p e below Φ T12 m 33 #[iv mo, iv xx] [(.ref b12)]
        refine os (fun _ z => XS.dup X12.here hx rfl (hb hby d9_33) rfl rfl z) ?_
        show OG p e below Φ T12 m 34 #[iv mo, iv xx] [(.ref b12), (.ref b12)]
        refine os (fun _ z => XS.iconst X12.here hx rfl (hb hby d9_34) z) ?_
        show OG p e below Φ T12 m 35 #[iv mo, iv xx] [(.int 0), (.ref b12), (.ref b12)]
        obtain ⟨T15, h15, c15, X15, e15, E15, Ar15, st15⟩ := newP (aty := .char) X12 hx hZ (ow70 hw) e12 (g := (mkF m 35 #[iv mo, iv xx] [(.int 0), (.ref b12), (.ref b12)])) rfl (hb hby d9_35) rfl (by decide) (cap := 0) (by decide) (by decide) (by decide) (by decide)
        obtain ⟨b15, g15⟩ : ∃ z, z = h12.size := ⟨_, rfl⟩
        rw [← g15] at Ar15 st15
        have ne15_b12 : b12 ≠ b15 := by rw [g15]; exact Nat.ne_of_lt A12.lt
        have F16 := F13.ext E15
        have F17 := A12.ext E15
        have F18 := F12_33.ext E15
        have F19 := F12_35.ext E15
        have gb15 : n0 ≤ b15 := Nat.le_trans Zs12 (Nat.le_of_eq g15.symm)
        have sz15 : h0.size ≤ b15 := Nat.le_trans K12.1 (Nat.le_of_eq g15.symm)
        have K15 := K12.ext E15
        have Zs15 : n0 ≤ h15.size := Nat.le_trans Zs12 E15.1
        have hA20 := CHr.ext E15 hC.1
        have sf_b15 := Safe.ext E15 hC.1 (Safe.new (Nat.le_of_eq g15.symm))
        have sf_b12 := hA20.safe A12.lt sf_b12
        have hkk := Nat.le_trans hkk hA20.2.1
        have hC := hC.trans hA20
        have V15 : Arv Z h15 b15 c15 .char (0 : Int32) [] (.int (0 : Int32)) := (Arv.new Ar15 (by decide)).pad (pad_rep [] _ 0)
        refine os st15 ?_
        show OG p e below Φ T15 m 37 #[iv mo, iv xx] [(.ref b15), (.ref b12), (.ref b12)]
        obtain ⟨_, T21, L21, X21, hQ21, st21, hS, hZ, hown, hB21⟩ := own_callSpW X15 hx hZ rfl hown (ow74 hw) (ow75 hw) (ow12 hw) (ow76 hw) (by decide) (rsee1 l Z a0 hw [] b12 b15 c15 h15 n0 Zs15 F17 gb12 F18 F19 V15 ne15_b12) e15 (W := 1) (by decide) (by decide) (by decide) (by decide) (pc := 37) (ls := #[iv mo, iv xx]) (stk := [(.ref b15), (.ref b12), (.ref b12)]) (by rw [hml]; rfl) (a := b12) (argsL := [(.ref b15)]) (rest := [(.ref b12)]) (lenOf pd9 rfl) rfl rfl (Nat.le_of_eq rfl) (hb hby d9_37) hS hkk (own_EW hw) hC (allS ⟨F17.lt, sf_b12⟩ all0)
        obtain ⟨rfl, Nq21, Kq21, Eq21, b21, cb21, Fv21, Fc21, Vq21⟩ := hQ21
        have N21 := Fr.app N0 Nq21
        have Zs21 : n0 ≤ T21.heap.size := Nat.le_trans Zs15 Kq21.1
        have F22 := F16.keep Kq21 (allS gb12 all0)
        have F23 := V15.keep Kq21 (ninS (Ne.symm ne15_b12) nin0)
        have K21 := K15.trans Kq21 (allS (Or.inr sz12) all0)
        have hA24 := hB21
        have sf_b12 := hA24.safe F17.lt sf_b12
        have sf_b15 := hA24.safe V15.lt sf_b15
        have hkk := Nat.le_refl T21.heap.size
        have hC := hC.trans hA24
        refine os st21 ?_
        show OG p e below Φ T21 m 40 #[iv mo, iv xx] [(.ref b12)]
        refine OGo.finW X21 hlk hS rfl hkk (v := (some (.ref b12))) (fun h => by rw [hret] at h; cases h) (by decide) (by decide) hZ (own_EW hw) hC (fun fs hr => X21.areturnOut hx rfl hret rfl (hb hby d9_40) hr) fun U eU hc hF => hΦ _ _ _ ?_ hc hF
        rw [eU]
        show Q_rmk Z mo xx qc h0 n0 _ _ _
        exact ⟨_, rfl, N21, K21, ⟨Eq21, _, _, _, _, Fv21, Fc21, Vq21, Or.inr ⟨by simp [own_t, hc1, hc6], Or.inl ⟨rfl, rfl⟩⟩⟩, sz12⟩
      · refine os (fun _ z => XS.icmpYes X0.here hx rfl (pc0 := 27) (pc' := 41) rfl (hb hby d9_27) rfl (XT.ii_ne_t hc11) (by decide) (by decide) z) ?_
        show OG p e below Φ s₁ m 41 #[iv mo, iv xx] []
        obtain ⟨T25, h25, X25, e25, E25, A25, D25, U25, st25⟩ := newO X0 hx hZ hown (ow69 hw) (ow20 hw) (ow12 hw) e0 (g := (mkF m 41 #[iv mo, iv xx] [])) rfl (hb hby d9_41) (by decide) (by decide)
        obtain ⟨b25, g25⟩ : ∃ z, z = h0.size := ⟨_, rfl⟩
        rw [← g25] at A25 D25 st25 U25
        have F26 := O_0.ext E25
        have gb25 : n0 ≤ b25 := Nat.le_trans Z0 (Nat.le_of_eq g25.symm)
        have K25 := K0.ext E25
        have sz25 : h0.size ≤ b25 := Nat.le_trans K0.1 (Nat.le_of_eq g25.symm)
        have Zs25 : n0 ≤ h25.size := Nat.le_trans Z0 E25.1
        have F25_33 : Fld Z h25 b25 "java/lang/String" "value" "[B" .null := D25 (Or.inr (ow33 hw)) (ty := (.array .byte)) (by decide)
        have F25_35 : Fld Z h25 b25 "java/lang/String" "coder" "B" (.int (0 : Int32)) := D25 (Or.inr (ow35 hw)) (ty := .byte) (by decide)
        have hA27 := CHr.ext E25 hC.1
        have sf_b25 := Safe.ext E25 hC.1 (Safe.new (Nat.le_of_eq g25.symm))
        have hkk := Nat.le_trans hkk hA27.2.1
        have hC := hC.trans hA27
        refine os (st25) ?_
        show OG p e below Φ T25 m 44 #[iv mo, iv xx] [(.ref b25)]
        refine os (fun _ z => XS.dup X25.here hx rfl (hb hby d9_44) rfl rfl z) ?_
        show OG p e below Φ T25 m 45 #[iv mo, iv xx] [(.ref b25), (.ref b25)]
        refine os (fun _ z => XS.iconst X25.here hx rfl (hb hby d9_45) z) ?_
        show OG p e below Φ T25 m 46 #[iv mo, iv xx] [(.int 2), (.ref b25), (.ref b25)]
        obtain ⟨T28, h28, c28, X28, e28, E28, Ar28, st28⟩ := newP (aty := .char) X25 hx hZ (ow70 hw) e25 (g := (mkF m 46 #[iv mo, iv xx] [(.int 2), (.ref b25), (.ref b25)])) rfl (hb hby d9_46) rfl (by decide) (cap := 2) (by decide) (by decide) (by decide) (by decide)
        obtain ⟨b28, g28⟩ : ∃ z, z = h25.size := ⟨_, rfl⟩
        rw [← g28] at Ar28 st28
        have ne28_b25 : b25 ≠ b28 := by rw [g28]; exact Nat.ne_of_lt A25.lt
        have F29 := F26.ext E28
        have F30 := A25.ext E28
        have F31 := F25_33.ext E28
        have F32 := F25_35.ext E28
        have gb28 : n0 ≤ b28 := Nat.le_trans Zs25 (Nat.le_of_eq g28.symm)
        have sz28 : h0.size ≤ b28 := Nat.le_trans K25.1 (Nat.le_of_eq g28.symm)
        have K28 := K25.ext E28
        have Zs28 : n0 ≤ h28.size := Nat.le_trans Zs25 E28.1
        have hA33 := CHr.ext E28 hC.1
        have sf_b28 := Safe.ext E28 hC.1 (Safe.new (Nat.le_of_eq g28.symm))
        have sf_b25 := hA33.safe A25.lt sf_b25
        have hkk := Nat.le_trans hkk hA33.2.1
        have hC := hC.trans hA33
        have V28 : Arv Z h28 b28 c28 .char (2 : Int32) [(.int (0 : Int32)), (.int (0 : Int32))] (.int (0 : Int32)) := (Arv.new Ar28 (by decide)).pad (pad_rep [] _ 2)
        refine os st28 ?_
        show OG p e below Φ T28 m 48 #[iv mo, iv xx] [(.ref b28), (.ref b25), (.ref b25)]
        refine os (fun _ z => XS.dup X28.here hx rfl (hb hby d9_48) rfl rfl z) ?_
        show OG p e below Φ T28 m 49 #[iv mo, iv xx] [(.ref b28), (.ref b28), (.ref b25), (.ref b25)]
        refine os (fun _ z => XS.iconst X28.here hx rfl (hb hby d9_49) z) ?_
        show OG p e below Φ T28 m 50 #[iv mo, iv xx] [(.int 0), (.ref b28), (.ref b28), (.ref b25), (.ref b25)]
        refine os (fun _ z => XS.iloadN X28.here hx rfl (hb hby d9_50) rfl z) ?_
        show OG p e below Φ T28 m 51 #[iv mo, iv xx] [(.int xx), (.int 0), (.ref b28), (.ref b28), (.ref b25), (.ref b25)]
        obtain ⟨_, T34, L34, X34, hQ34, st34⟩ := own_callSt X28 hx hZ hown (ow7 hw) (ow8 hw) (ow5 hw) (ow9 hw) (by decide) (rc1 l Z a0 hw [] xx h28 n0 Zs28 ) e28 (W := 5) (by decide) (by decide) (by decide) (by decide) (pc := 51) (ls := #[iv mo, iv xx]) (stk := [(.int xx), (.int 0), (.ref b28), (.ref b28), (.ref b25), (.ref b25)]) (by rw [hml]; rfl) (argsL := [(.int xx)]) (rest := [(.int 0), (.ref b28), (.ref b28), (.ref b25), (.ref b25)]) (lenOf pd0 rfl) rfl rfl (Nat.le_of_eq rfl) (hb hby d9_51)
        obtain ⟨rfl, Nq34, e34⟩ := hQ34
        have N34 := Fr.app N0 Nq34
        refine os st34 ?_
        show OG p e below Φ T34 m 54 #[iv mo, iv xx] [(.int (own_c1 xx)), (.int 0), (.ref b28), (.ref b28), (.ref b25), (.ref b25)]
        obtain ⟨cl35, Aq35, Cq35, S35, M35, H35, G35⟩ := id V28
        have in35 : ¬ ((0 : Int32) < 0 ∨ cl35.slots.size ≤ (0 : Int32).toNatClampNeg) := inb_of S35 ⟨by decide, by decide⟩
        obtain ⟨T35, h35, X35, e35, W35, st35⟩ := stC X34 hx hZ e34 Aq35 in35 (g := (mkF m 54 #[iv mo, iv xx] [(.int (own_c1 xx)), (.int 0), (.ref b28), (.ref b28), (.ref b25), (.ref b25)])) rfl rfl (hb hby d9_54)
        have W35 : Wr h28 h35 b28 (0 : Int32).toNatClampNeg (.int (nar .char (own_c1 xx))) := W35
        have F36 := F29.wr W35 gb28
        have F37 := F30.wr W35
        have F38 := F31.other W35 (Or.inl ne28_b25)
        have F39 := F32.other W35 (Or.inl ne28_b25)
        have hA40 := CHr.wr W35 sf_b28 hC.1
        have sf_b25 := hA40.safe F30.lt sf_b25
        have sf_b28 := hA40.safe V28.lt sf_b28
        have hkk := Nat.le_trans hkk hA40.2.1
        have hC := hC.trans hA40
        have V35 : Arv Z h35 b28 c28 .char (2 : Int32) [(.int (nar .char (own_c1 xx))), (.int (0 : Int32))] (.int (0 : Int32)) := Arv.set Aq35 Cq35 S35 M35 H35 G35 (fits_nar_char _) W35 0 (by decide) (by show 0 < 2; decide)
        have K35 := K28.wr W35 (Or.inr sz28)
        have N35 := Fr.snoc X35 N34 gb28
        have Zs35 : n0 ≤ h35.size := by rw [W35.size]; exact Zs28
        refine os st35 ?_
        show OG p e below Φ T35 m 55 #[iv mo, iv xx] [(.ref b28), (.ref b25), (.ref b25)]
        refine os (fun _ z => XS.dup X35.here hx rfl (hb hby d9_55) rfl rfl z) ?_
        show OG p e below Φ T35 m 56 #[iv mo, iv xx] [(.ref b28), (.ref b28), (.ref b25), (.ref b25)]
        refine os (fun _ z => XS.iconst X35.here hx rfl (hb hby d9_56) z) ?_
        show OG p e below Φ T35 m 57 #[iv mo, iv xx] [(.int 1), (.ref b28), (.ref b28), (.ref b25), (.ref b25)]
        refine os (fun _ z => XS.iloadN X35.here hx rfl (hb hby d9_57) rfl z) ?_
        show OG p e below Φ T35 m 58 #[iv mo, iv xx] [(.int xx), (.int 1), (.ref b28), (.ref b28), (.ref b25), (.ref b25)]
        obtain ⟨_, T41, L41, X41, hQ41, st41⟩ := own_callSt X35 hx hZ hown (ow71 hw) (ow72 hw) (ow5 hw) (ow73 hw) (by decide) (rc2 l Z a0 hw [] xx h35 n0 Zs35 ) e35 (W := 5) (by decide) (by decide) (by decide) (by decide) (pc := 58) (ls := #[iv mo, iv xx]) (stk := [(.int xx), (.int 1), (.ref b28), (.ref b28), (.ref b25), (.ref b25)]) (by rw [hml]; rfl) (argsL := [(.int xx)]) (rest := [(.int 1), (.ref b28), (.ref b28), (.ref b25), (.ref b25)]) (lenOf pd0 rfl) rfl rfl (Nat.le_of_eq rfl) (hb hby d9_58)
        obtain ⟨rfl, Nq41, e41⟩ := hQ41
        have N41 := Fr.app N35 Nq41
        refine os st41 ?_
        show OG p e below Φ T41 m 61 #[iv mo, iv xx] [(.int (own_c2 xx)), (.int 1), (.ref b28), (.ref b28), (.ref b25), (.ref b25)]
        obtain ⟨cl42, Aq42, Cq42, S42, M42, H42, G42⟩ := id V35
        have in42 : ¬ ((1 : Int32) < 0 ∨ cl42.slots.size ≤ (1 : Int32).toNatClampNeg) := inb_of S42 ⟨by decide, by decide⟩
        obtain ⟨T42, h42, X42, e42, W42, st42⟩ := stC X41 hx hZ e41 Aq42 in42 (g := (mkF m 61 #[iv mo, iv xx] [(.int (own_c2 xx)), (.int 1), (.ref b28), (.ref b28), (.ref b25), (.ref b25)])) rfl rfl (hb hby d9_61)
        have W42 : Wr h35 h42 b28 (1 : Int32).toNatClampNeg (.int (nar .char (own_c2 xx))) := W42
        have F43 := F36.wr W42 gb28
        have F44 := F37.wr W42
        have F45 := F38.other W42 (Or.inl ne28_b25)
        have F46 := F39.other W42 (Or.inl ne28_b25)
        have hA47 := CHr.wr W42 sf_b28 hC.1
        have sf_b25 := hA47.safe F37.lt sf_b25
        have sf_b28 := hA47.safe V35.lt sf_b28
        have hkk := Nat.le_trans hkk hA47.2.1
        have hC := hC.trans hA47
        have V42 : Arv Z h42 b28 c28 .char (2 : Int32) [(.int (nar .char (own_c1 xx))), (.int (nar .char (own_c2 xx)))] (.int (0 : Int32)) := Arv.set Aq42 Cq42 S42 M42 H42 G42 (fits_nar_char _) W42 1 (by decide) (by show 1 < 2; decide)
        have K42 := K35.wr W42 (Or.inr sz28)
        have N42 := Fr.snoc X42 N41 gb28
        have Zs42 : n0 ≤ h42.size := by rw [W42.size]; exact Zs35
        refine os st42 ?_
        show OG p e below Φ T42 m 62 #[iv mo, iv xx] [(.ref b28), (.ref b25), (.ref b25)]
        obtain ⟨_, T48, L48, X48, hQ48, st48⟩ := own_callSp X42 hx hZ rfl hown (ow74 hw) (ow75 hw) (ow12 hw) (ow76 hw) (by decide) (rsli1 l Z a0 hw [] b25 b28 c28 qc (nar .char (own_c1 xx)) (nar .char (own_c2 xx)) h42 n0 Zs42 F44 gb25 F45 F46 V42 ne28_b25 (S_cs.ext F43.2) hq (own_n1 xx) (own_n2 xx)) e42 (W := 1) (by decide) (by decide) (by decide) (by decide) (pc := 62) (ls := #[iv mo, iv xx]) (stk := [(.ref b28), (.ref b25), (.ref b25)]) (by rw [hml]; rfl) (a := b25) (argsL := [(.ref b28)]) (rest := [(.ref b25)]) (lenOf pd9 rfl) rfl rfl (Nat.le_of_eq rfl) (hb hby d9_62)
        obtain ⟨rfl, Nq48, Kq48, Eq48, b48, cb48, Fv48, Fc48, Vq48, hz48⟩ := hQ48
        have nq48_b25 : b25 ≠ b48 := Nat.ne_of_lt (Nat.lt_of_lt_of_le F44.lt hz48)
        have nq48_b28 : b28 ≠ b48 := Nat.ne_of_lt (Nat.lt_of_lt_of_le V42.lt hz48)
        have gq48 : n0 ≤ b48 := Nat.le_trans Zs42 hz48
        have sq48 : h0.size ≤ b48 := Nat.le_trans K42.1 hz48
        have N48 := Fr.app N42 Nq48
        have Zs48 : n0 ≤ T48.heap.size := Nat.le_trans Zs42 Kq48.1
        have F49 := F43.keep Kq48 (allS gb25 all0)
        have F50 := V42.keep Kq48 (ninS (Ne.symm ne28_b25) nin0)
        have hA51 := CHr.keep Kq48 (sfS sf_b25 sf0) hC.1
        have sf_b25 := hA51.safe F44.lt sf_b25
        have sf_b28 := hA51.safe V42.lt sf_b28
        have hkk := Nat.le_trans hkk hA51.2.1
        have hC := hC.trans hA51
        have K48 := K42.trans Kq48 (allS (Or.inr sz25) all0)
        refine os st48 ?_
        show OG p e below Φ T48 m 65 #[iv mo, iv xx] [(.ref b25)]
        refine OGo.finW X48 hlk hS rfl hkk (v := (some (.ref b25))) (fun h => by rw [hret] at h; cases h) (by decide) (by decide) hZ (own_EW hw) hC (fun fs hr => X48.areturnOut hx rfl hret rfl (hb hby d9_65) hr) fun U eU hc hF => hΦ _ _ _ ?_ hc hF
        rw [eU]
        show Q_rmk Z mo xx qc h0 n0 _ _ _
        exact ⟨_, rfl, N48, K48, ⟨Eq48, _, _, _, _, Fv48, Fc48, Vq48, Or.inr ⟨by simp [own_t, hc1, hc6], Or.inr ⟨_, _, rfl, rfl⟩⟩⟩, sz25⟩

theorem d13_0 : decode jdk_43_method_13_code 0 = .ok (.aload_n 0, 1) := by decide +kernel
theorem d13_1 : decode jdk_43_method_13_code 1 = .ok (.arraylength, 1) := by decide +kernel
theorem d13_2 : decode jdk_43_method_13_code 2 = .ok (.aload_n 1, 1) := by decide +kernel
theorem d13_3 : decode jdk_43_method_13_code 3 = .ok (.arraylength, 1) := by decide +kernel
theorem d13_4 : decode jdk_43_method_13_code 4 = .ok (.if_icmp .ne 30, 3) := by decide +kernel
theorem d13_34 : decode jdk_43_method_13_code 34 = .ok (.iconst 0, 1) := by decide +kernel
theorem d13_35 : decode jdk_43_method_13_code 35 = .ok (.ireturn, 1) := by decide +kernel
theorem ef_rel0 (m : MethodId) (x0 : Addr) (x1 : Addr) : entryFrame m #[(.ref x0), (.ref x1)] 3 = mkF m 0 #[.val (.ref x0), .val (.ref x1), .unset] [] := by first | (simp [entryFrame, mkF, argsToLocals, Value.category]; done) | rfl
def Q_rel0 (Z : State) (a : Addr) (ca : ClassId) (b : Addr) (cb : ClassId) (xa : Int32) (h0 : Heap) (n0 : Nat) (v : Option Value) (h : Heap) (L : List Loc) : Prop := v = some (.int (0 : Int32)) ∧ Fr n0 L ∧ h = h0
set_option maxRecDepth 65536 in
set_option maxHeartbeats 40000000 in
theorem rel0 (l : Launch) (Z : State) (a0 : Array Value) (hw : ∀ d ∈ tables_1, d.before a0 Z = true) (ws : List Jvm.Cond) (a : Addr) (ca : ClassId) (b : Addr) (cb : ClassId) (xa : Int32) (h0 : Heap) (n0 : Nat) (Z0 : n0 ≤ h0.size) (V_a : Arv Z h0 a ca .byte (1 : Int32) [(.int xa)] (.int (0 : Int32))) (V_b : Arv Z h0 b cb .byte (0 : Int32) [] (.int (0 : Int32))) :
    OCon l Z (⟨"java/lang/StringLatin1", "equals", "([B[B)Z"⟩ : MethodName) jdk_43_method_13_code 3 (some .boolean) ws ({ frames := 0, cells := 0, slots := 0, locals := 0 } : Room) #[(.ref a), (.ref b)] h0 (Q_rel0 Z a ca b cb xa h0 n0) := by
  refine OCon.of (plainFor_of_name pn3) ?_
  intro p e s m below meth c s₁ Φ X0 hx hby hml hown hnm hret hlk hZ e0 hΦ
  have N0 := Fr.nil n0
  refine os (fun _ z => castTop (ef_rel0 m a b) z) ?_
  show OG p e below Φ s₁ m 0 #[rv a, rv b, .unset] []
  refine os (fun _ z => XS.aloadN X0.here hx rfl (hb hby d13_0) rfl rfl z) ?_
  show OG p e below Φ s₁ m 1 #[rv a, rv b, .unset] [(.ref a)]
  obtain ⟨cl1, Aq1, -, S1, M1, -, -⟩ := id V_a
  refine os (fun _ z => X0.arraylength hx (by rw [e0]; exact Aq1.1) (oia hZ Aq1.2.1) (g := (mkF m 1 #[rv a, rv b, .unset] [(.ref a)])) rfl rfl (hb hby d13_1) _ z) ?_
  rw [len_of S1 M1]
  show OG p e below Φ s₁ m 2 #[rv a, rv b, .unset] [(.int 1)]
  refine os (fun _ z => XS.aloadN X0.here hx rfl (hb hby d13_2) rfl rfl z) ?_
  show OG p e below Φ s₁ m 3 #[rv a, rv b, .unset] [(.ref b), (.int 1)]
  obtain ⟨cl2, Aq2, -, S2, M2, -, -⟩ := id V_b
  refine os (fun _ z => X0.arraylength hx (by rw [e0]; exact Aq2.1) (oia hZ Aq2.2.1) (g := (mkF m 3 #[rv a, rv b, .unset] [(.ref b), (.int 1)])) rfl rfl (hb hby d13_3) _ z) ?_
  rw [len_of S2 M2]
  show OG p e below Φ s₁ m 4 #[rv a, rv b, .unset] [(.int 0), (.int 1)]
  refine os (fun _ z => XS.icmpYes X0.here hx rfl (pc0 := 4) (pc' := 34) rfl (hb hby d13_4) rfl (XT.ii_ne_t (by decide)) (by decide) (by decide) z) ?_
  show OG p e below Φ s₁ m 34 #[rv a, rv b, .unset] []
  refine os (fun _ z => XS.iconst X0.here hx rfl (hb hby d13_34) z) ?_
  show OG p e below Φ s₁ m 35 #[rv a, rv b, .unset] [(.int 0)]
  refine OGo.fin X0 hlk (v := (some (.int 0))) (fun h => by rw [hret] at h; cases h) (by decide) (by decide) (fun fs hr => X0.ireturnOut hx hret rfl (by simp) (hb hby d13_35) hr) fun U eU hF => hΦ _ _ _ ?_ hF
  rw [eU, e0]
  show Q_rel0 Z a ca b cb xa h0 n0 _ _ _
  exact ⟨rfl, N0, rfl⟩

theorem d13_7 : decode jdk_43_method_13_code 7 = .ok (.iconst 0, 1) := by decide +kernel
theorem d13_8 : decode jdk_43_method_13_code 8 = .ok (.istore_n 2, 1) := by decide +kernel
theorem d13_9 : decode jdk_43_method_13_code 9 = .ok (.iload_n 2, 1) := by decide +kernel
theorem d13_10 : decode jdk_43_method_13_code 10 = .ok (.aload_n 0, 1) := by decide +kernel
theorem d13_11 : decode jdk_43_method_13_code 11 = .ok (.arraylength, 1) := by decide +kernel
theorem d13_12 : decode jdk_43_method_13_code 12 = .ok (.if_icmp .ge 20, 3) := by decide +kernel
theorem d13_15 : decode jdk_43_method_13_code 15 = .ok (.aload_n 0, 1) := by decide +kernel
theorem d13_16 : decode jdk_43_method_13_code 16 = .ok (.iload_n 2, 1) := by decide +kernel
theorem d13_17 : decode jdk_43_method_13_code 17 = .ok (.baload, 1) := by decide +kernel
theorem d13_18 : decode jdk_43_method_13_code 18 = .ok (.aload_n 1, 1) := by decide +kernel
theorem d13_19 : decode jdk_43_method_13_code 19 = .ok (.iload_n 2, 1) := by decide +kernel
theorem d13_20 : decode jdk_43_method_13_code 20 = .ok (.baload, 1) := by decide +kernel
theorem d13_21 : decode jdk_43_method_13_code 21 = .ok (.if_icmp .eq 5, 3) := by decide +kernel
theorem d13_26 : decode jdk_43_method_13_code 26 = .ok (.iinc 2 1, 3) := by decide +kernel
theorem d13_29 : decode jdk_43_method_13_code 29 = .ok (.goto (-20), 3) := by decide +kernel
theorem d13_32 : decode jdk_43_method_13_code 32 = .ok (.iconst 1, 1) := by decide +kernel
theorem d13_33 : decode jdk_43_method_13_code 33 = .ok (.ireturn, 1) := by decide +kernel
theorem d13_24 : decode jdk_43_method_13_code 24 = .ok (.iconst 0, 1) := by decide +kernel
theorem d13_25 : decode jdk_43_method_13_code 25 = .ok (.ireturn, 1) := by decide +kernel
theorem ef_rel1 (m : MethodId) (x0 : Addr) (x1 : Addr) : entryFrame m #[(.ref x0), (.ref x1)] 3 = mkF m 0 #[.val (.ref x0), .val (.ref x1), .unset] [] := by first | (simp [entryFrame, mkF, argsToLocals, Value.category]; done) | rfl
def Q_rel1 (Z : State) (a : Addr) (ca : ClassId) (b : Addr) (cb : ClassId) (xa : Int32) (yb : Int32) (h0 : Heap) (n0 : Nat) (v : Option Value) (h : Heap) (L : List Loc) : Prop := v = some (.int (own_e xa yb)) ∧ Fr n0 L ∧ h = h0
set_option maxRecDepth 65536 in
set_option maxHeartbeats 40000000 in
theorem rel1 (l : Launch) (Z : State) (a0 : Array Value) (hw : ∀ d ∈ tables_1, d.before a0 Z = true) (ws : List Jvm.Cond) (a : Addr) (ca : ClassId) (b : Addr) (cb : ClassId) (xa : Int32) (yb : Int32) (h0 : Heap) (n0 : Nat) (Z0 : n0 ≤ h0.size) (V_a : Arv Z h0 a ca .byte (1 : Int32) [(.int xa)] (.int (0 : Int32))) (V_b : Arv Z h0 b cb .byte (1 : Int32) [(.int yb)] (.int (0 : Int32))) :
    OCon l Z (⟨"java/lang/StringLatin1", "equals", "([B[B)Z"⟩ : MethodName) jdk_43_method_13_code 3 (some .boolean) ws ({ frames := 0, cells := 0, slots := 0, locals := 0 } : Room) #[(.ref a), (.ref b)] h0 (Q_rel1 Z a ca b cb xa yb h0 n0) := by
  refine OCon.of (plainFor_of_name pn3) ?_
  intro p e s m below meth c s₁ Φ X0 hx hby hml hown hnm hret hlk hZ e0 hΦ
  have N0 := Fr.nil n0
  refine os (fun _ z => castTop (ef_rel1 m a b) z) ?_
  show OG p e below Φ s₁ m 0 #[rv a, rv b, .unset] []
  refine os (fun _ z => XS.aloadN X0.here hx rfl (hb hby d13_0) rfl rfl z) ?_
  show OG p e below Φ s₁ m 1 #[rv a, rv b, .unset] [(.ref a)]
  obtain ⟨cl1, Aq1, -, S1, M1, -, -⟩ := id V_a
  refine os (fun _ z => X0.arraylength hx (by rw [e0]; exact Aq1.1) (oia hZ Aq1.2.1) (g := (mkF m 1 #[rv a, rv b, .unset] [(.ref a)])) rfl rfl (hb hby d13_1) _ z) ?_
  rw [len_of S1 M1]
  show OG p e below Φ s₁ m 2 #[rv a, rv b, .unset] [(.int 1)]
  refine os (fun _ z => XS.aloadN X0.here hx rfl (hb hby d13_2) rfl rfl z) ?_
  show OG p e below Φ s₁ m 3 #[rv a, rv b, .unset] [(.ref b), (.int 1)]
  obtain ⟨cl2, Aq2, -, S2, M2, -, -⟩ := id V_b
  refine os (fun _ z => X0.arraylength hx (by rw [e0]; exact Aq2.1) (oia hZ Aq2.2.1) (g := (mkF m 3 #[rv a, rv b, .unset] [(.ref b), (.int 1)])) rfl rfl (hb hby d13_3) _ z) ?_
  rw [len_of S2 M2]
  show OG p e below Φ s₁ m 4 #[rv a, rv b, .unset] [(.int 1), (.int 1)]
  refine os (fun _ z => XS.icmpNo X0.here hx rfl (hb hby d13_4) rfl (XT.ii_ne_f (by decide)) z) ?_
  show OG p e below Φ s₁ m 7 #[rv a, rv b, .unset] []
  refine os (fun _ z => XS.iconst X0.here hx rfl (hb hby d13_7) z) ?_
  show OG p e below Φ s₁ m 8 #[rv a, rv b, .unset] [(.int 0)]
  refine os (fun _ z => XS.istoreN X0.here hx rfl (hb hby d13_8) rfl (l' := #[rv a, rv b, iv 0]) rfl z) ?_
  show OG p e below Φ s₁ m 9 #[rv a, rv b, iv 0] []
  refine os (fun _ z => XS.iloadN X0.here hx rfl (hb hby d13_9) rfl z) ?_
  show OG p e below Φ s₁ m 10 #[rv a, rv b, iv 0] [(.int 0)]
  refine os (fun _ z => XS.aloadN X0.here hx rfl (hb hby d13_10) rfl rfl z) ?_
  show OG p e below Φ s₁ m 11 #[rv a, rv b, iv 0] [(.ref a), (.int 0)]
  obtain ⟨cl3, Aq3, -, S3, M3, -, -⟩ := id V_a
  refine os (fun _ z => X0.arraylength hx (by rw [e0]; exact Aq3.1) (oia hZ Aq3.2.1) (g := (mkF m 11 #[rv a, rv b, iv 0] [(.ref a), (.int 0)])) rfl rfl (hb hby d13_11) _ z) ?_
  rw [len_of S3 M3]
  show OG p e below Φ s₁ m 12 #[rv a, rv b, iv 0] [(.int 1), (.int 0)]
  refine os (fun _ z => XS.icmpNo X0.here hx rfl (hb hby d13_12) rfl (XT.ii_ge_f (by decide)) z) ?_
  show OG p e below Φ s₁ m 15 #[rv a, rv b, iv 0] []
  refine os (fun _ z => XS.aloadN X0.here hx rfl (hb hby d13_15) rfl rfl z) ?_
  show OG p e below Φ s₁ m 16 #[rv a, rv b, iv 0] [(.ref a)]
  refine os (fun _ z => XS.iloadN X0.here hx rfl (hb hby d13_16) rfl z) ?_
  show OG p e below Φ s₁ m 17 #[rv a, rv b, iv 0] [(.int 0), (.ref a)]
  obtain ⟨cl4, Aq4, -, S4, M4, H4, -⟩ := id V_a
  have in4 : ¬ ((0 : Int32) < 0 ∨ cl4.slots.size ≤ (0 : Int32).toNatClampNeg) := inb_of S4 ⟨by decide, by decide⟩
  have at4 : cl4.slots[(0 : Int32).toNatClampNeg]? = some (.int xa) := H4.at in4 rfl
  refine os (fun _ z => X0.baloadBytes hx (by rw [e0]; exact Aq4.1) (oia hZ Aq4.2.1) Aq4.2.2 in4 at4 (g := (mkF m 17 #[rv a, rv b, iv 0] [(.int 0), (.ref a)])) rfl rfl (hb hby d13_17) _ z) ?_
  show OG p e below Φ s₁ m 18 #[rv a, rv b, iv 0] [(.int xa)]
  refine os (fun _ z => XS.aloadN X0.here hx rfl (hb hby d13_18) rfl rfl z) ?_
  show OG p e below Φ s₁ m 19 #[rv a, rv b, iv 0] [(.ref b), (.int xa)]
  refine os (fun _ z => XS.iloadN X0.here hx rfl (hb hby d13_19) rfl z) ?_
  show OG p e below Φ s₁ m 20 #[rv a, rv b, iv 0] [(.int 0), (.ref b), (.int xa)]
  obtain ⟨cl5, Aq5, -, S5, M5, H5, -⟩ := id V_b
  have in5 : ¬ ((0 : Int32) < 0 ∨ cl5.slots.size ≤ (0 : Int32).toNatClampNeg) := inb_of S5 ⟨by decide, by decide⟩
  have at5 : cl5.slots[(0 : Int32).toNatClampNeg]? = some (.int yb) := H5.at in5 rfl
  refine os (fun _ z => X0.baloadBytes hx (by rw [e0]; exact Aq5.1) (oia hZ Aq5.2.1) Aq5.2.2 in5 at5 (g := (mkF m 20 #[rv a, rv b, iv 0] [(.int 0), (.ref b), (.int xa)])) rfl rfl (hb hby d13_20) _ z) ?_
  show OG p e below Φ s₁ m 21 #[rv a, rv b, iv 0] [(.int yb), (.int xa)]
  by_cases hc6 : xa = yb
  · refine os (fun _ z => XS.icmpYes X0.here hx rfl (pc0 := 21) (pc' := 26) rfl (hb hby d13_21) rfl (XT.ii_eq_t hc6) (by decide) (by decide) z) ?_
    show OG p e below Φ s₁ m 26 #[rv a, rv b, iv 0] []
    refine os (fun _ z => XS.iinc X0.here hx rfl (hb hby d13_26) rfl (l' := #[rv a, rv b, iv ((0 : Int32) + (1 : Int32))]) rfl z) ?_
    show OG p e below Φ s₁ m 29 #[rv a, rv b, iv 1] []
    refine os (fun _ z => XS.goto X0.here hx rfl (pc0 := 29) (pc' := 9) rfl (hb hby d13_29) (by decide) (by decide) z) ?_
    show OG p e below Φ s₁ m 9 #[rv a, rv b, iv 1] []
    refine os (fun _ z => XS.iloadN X0.here hx rfl (hb hby d13_9) rfl z) ?_
    show OG p e below Φ s₁ m 10 #[rv a, rv b, iv 1] [(.int 1)]
    refine os (fun _ z => XS.aloadN X0.here hx rfl (hb hby d13_10) rfl rfl z) ?_
    show OG p e below Φ s₁ m 11 #[rv a, rv b, iv 1] [(.ref a), (.int 1)]
    obtain ⟨cl7, Aq7, -, S7, M7, -, -⟩ := id V_a
    refine os (fun _ z => X0.arraylength hx (by rw [e0]; exact Aq7.1) (oia hZ Aq7.2.1) (g := (mkF m 11 #[rv a, rv b, iv 1] [(.ref a), (.int 1)])) rfl rfl (hb hby d13_11) _ z) ?_
    rw [len_of S7 M7]
    show OG p e below Φ s₁ m 12 #[rv a, rv b, iv 1] [(.int 1), (.int 1)]
    refine os (fun _ z => XS.icmpYes X0.here hx rfl (pc0 := 12) (pc' := 32) rfl (hb hby d13_12) rfl (XT.ii_ge_t (by decide)) (by decide) (by decide) z) ?_
    show OG p e below Φ s₁ m 32 #[rv a, rv b, iv 1] []
    refine os (fun _ z => XS.iconst X0.here hx rfl (hb hby d13_32) z) ?_
    show OG p e below Φ s₁ m 33 #[rv a, rv b, iv 1] [(.int 1)]
    refine OGo.fin X0 hlk (v := (some (.int 1))) (fun h => by rw [hret] at h; cases h) (by decide) (by decide) (fun fs hr => X0.ireturnOut hx hret rfl (by simp) (hb hby d13_33) hr) fun U eU hF => hΦ _ _ _ ?_ hF
    rw [eU, e0]
    show Q_rel1 Z a ca b cb xa yb h0 n0 _ _ _
    exact ⟨by simp [own_e, hc6], N0, rfl⟩
  · refine os (fun _ z => XS.icmpNo X0.here hx rfl (hb hby d13_21) rfl (XT.ii_eq_f hc6) z) ?_
    show OG p e below Φ s₁ m 24 #[rv a, rv b, iv 0] []
    refine os (fun _ z => XS.iconst X0.here hx rfl (hb hby d13_24) z) ?_
    show OG p e below Φ s₁ m 25 #[rv a, rv b, iv 0] [(.int 0)]
    refine OGo.fin X0 hlk (v := (some (.int 0))) (fun h => by rw [hret] at h; cases h) (by decide) (by decide) (fun fs hr => X0.ireturnOut hx hret rfl (by simp) (hb hby d13_25) hr) fun U eU hF => hΦ _ _ _ ?_ hF
    rw [eU, e0]
    show Q_rel1 Z a ca b cb xa yb h0 n0 _ _ _
    exact ⟨by simp [own_e, hc6], N0, rfl⟩

theorem ef_rel2 (m : MethodId) (x0 : Addr) (x1 : Addr) : entryFrame m #[(.ref x0), (.ref x1)] 3 = mkF m 0 #[.val (.ref x0), .val (.ref x1), .unset] [] := by first | (simp [entryFrame, mkF, argsToLocals, Value.category]; done) | rfl
def Q_rel2 (Z : State) (a : Addr) (ca : ClassId) (b : Addr) (cb : ClassId) (xa : Int32) (yc : Int32) (yd : Int32) (h0 : Heap) (n0 : Nat) (v : Option Value) (h : Heap) (L : List Loc) : Prop := v = some (.int (0 : Int32)) ∧ Fr n0 L ∧ h = h0
set_option maxRecDepth 65536 in
set_option maxHeartbeats 40000000 in
theorem rel2 (l : Launch) (Z : State) (a0 : Array Value) (hw : ∀ d ∈ tables_1, d.before a0 Z = true) (ws : List Jvm.Cond) (a : Addr) (ca : ClassId) (b : Addr) (cb : ClassId) (xa : Int32) (yc : Int32) (yd : Int32) (h0 : Heap) (n0 : Nat) (Z0 : n0 ≤ h0.size) (V_a : Arv Z h0 a ca .byte (1 : Int32) [(.int xa)] (.int (0 : Int32))) (V_b : Arv Z h0 b cb .byte (2 : Int32) [(.int yc), (.int yd)] (.int (0 : Int32))) :
    OCon l Z (⟨"java/lang/StringLatin1", "equals", "([B[B)Z"⟩ : MethodName) jdk_43_method_13_code 3 (some .boolean) ws ({ frames := 0, cells := 0, slots := 0, locals := 0 } : Room) #[(.ref a), (.ref b)] h0 (Q_rel2 Z a ca b cb xa yc yd h0 n0) := by
  refine OCon.of (plainFor_of_name pn3) ?_
  intro p e s m below meth c s₁ Φ X0 hx hby hml hown hnm hret hlk hZ e0 hΦ
  have N0 := Fr.nil n0
  refine os (fun _ z => castTop (ef_rel2 m a b) z) ?_
  show OG p e below Φ s₁ m 0 #[rv a, rv b, .unset] []
  refine os (fun _ z => XS.aloadN X0.here hx rfl (hb hby d13_0) rfl rfl z) ?_
  show OG p e below Φ s₁ m 1 #[rv a, rv b, .unset] [(.ref a)]
  obtain ⟨cl1, Aq1, -, S1, M1, -, -⟩ := id V_a
  refine os (fun _ z => X0.arraylength hx (by rw [e0]; exact Aq1.1) (oia hZ Aq1.2.1) (g := (mkF m 1 #[rv a, rv b, .unset] [(.ref a)])) rfl rfl (hb hby d13_1) _ z) ?_
  rw [len_of S1 M1]
  show OG p e below Φ s₁ m 2 #[rv a, rv b, .unset] [(.int 1)]
  refine os (fun _ z => XS.aloadN X0.here hx rfl (hb hby d13_2) rfl rfl z) ?_
  show OG p e below Φ s₁ m 3 #[rv a, rv b, .unset] [(.ref b), (.int 1)]
  obtain ⟨cl2, Aq2, -, S2, M2, -, -⟩ := id V_b
  refine os (fun _ z => X0.arraylength hx (by rw [e0]; exact Aq2.1) (oia hZ Aq2.2.1) (g := (mkF m 3 #[rv a, rv b, .unset] [(.ref b), (.int 1)])) rfl rfl (hb hby d13_3) _ z) ?_
  rw [len_of S2 M2]
  show OG p e below Φ s₁ m 4 #[rv a, rv b, .unset] [(.int 2), (.int 1)]
  refine os (fun _ z => XS.icmpYes X0.here hx rfl (pc0 := 4) (pc' := 34) rfl (hb hby d13_4) rfl (XT.ii_ne_t (by decide)) (by decide) (by decide) z) ?_
  show OG p e below Φ s₁ m 34 #[rv a, rv b, .unset] []
  refine os (fun _ z => XS.iconst X0.here hx rfl (hb hby d13_34) z) ?_
  show OG p e below Φ s₁ m 35 #[rv a, rv b, .unset] [(.int 0)]
  refine OGo.fin X0 hlk (v := (some (.int 0))) (fun h => by rw [hret] at h; cases h) (by decide) (by decide) (fun fs hr => X0.ireturnOut hx hret rfl (by simp) (hb hby d13_35) hr) fun U eU hF => hΦ _ _ _ ?_ hF
  rw [eU, e0]
  show Q_rel2 Z a ca b cb xa yc yd h0 n0 _ _ _
  exact ⟨rfl, N0, rfl⟩

theorem d12_0 : decode jdk_42_method_66_code 0 = .ok (.aload_n 0, 1) := by decide +kernel
theorem d12_1 : decode jdk_42_method_66_code 1 = .ok (.aload_n 1, 1) := by decide +kernel
theorem d12_2 : decode jdk_42_method_66_code 2 = .ok (.if_acmp .ne 5, 3) := by decide +kernel
theorem d12_7 : decode jdk_42_method_66_code 7 = .ok (.aload_n 1, 1) := by decide +kernel
theorem d12_8 : decode jdk_42_method_66_code 8 = .ok (.instanceof 10, 3) := by decide +kernel
theorem d12_11 : decode jdk_42_method_66_code 11 = .ok (.ifCond .eq 43, 3) := by decide +kernel
theorem d12_14 : decode jdk_42_method_66_code 14 = .ok (.aload_n 1, 1) := by decide +kernel
theorem d12_15 : decode jdk_42_method_66_code 15 = .ok (.checkcast 10, 3) := by decide +kernel
theorem d12_18 : decode jdk_42_method_66_code 18 = .ok (.astore_n 2, 1) := by decide +kernel
theorem d12_19 : decode jdk_42_method_66_code 19 = .ok (.getstatic 38, 3) := by decide +kernel
theorem d12_22 : decode jdk_42_method_66_code 22 = .ok (.ifCond .eq 14, 3) := by decide +kernel
theorem d12_25 : decode jdk_42_method_66_code 25 = .ok (.aload_n 0, 1) := by decide +kernel
theorem d12_26 : decode jdk_42_method_66_code 26 = .ok (.getfield 15, 3) := by decide +kernel
theorem d12_29 : decode jdk_42_method_66_code 29 = .ok (.aload_n 2, 1) := by decide +kernel
theorem d12_30 : decode jdk_42_method_66_code 30 = .ok (.getfield 15, 3) := by decide +kernel
theorem d12_33 : decode jdk_42_method_66_code 33 = .ok (.if_icmp .ne 21, 3) := by decide +kernel
theorem d12_36 : decode jdk_42_method_66_code 36 = .ok (.aload_n 0, 1) := by decide +kernel
theorem d12_37 : decode jdk_42_method_66_code 37 = .ok (.getfield 9, 3) := by decide +kernel
theorem d12_40 : decode jdk_42_method_66_code 40 = .ok (.aload_n 2, 1) := by decide +kernel
theorem d12_41 : decode jdk_42_method_66_code 41 = .ok (.getfield 9, 3) := by decide +kernel
theorem d12_44 : decode jdk_42_method_66_code 44 = .ok (.invokestatic 541, 3) := by decide +kernel
theorem pd10 : parseMethodDescriptor "([B[B)Z" = some ⟨[(.array .byte), (.array .byte)], some .boolean⟩ := by decide +kernel
theorem d12_47 : decode jdk_42_method_66_code 47 = .ok (.ifCond .eq 7, 3) := by decide +kernel
theorem d12_54 : decode jdk_42_method_66_code 54 = .ok (.iconst 0, 1) := by decide +kernel
theorem d12_55 : decode jdk_42_method_66_code 55 = .ok (.ireturn, 1) := by decide +kernel
theorem d12_50 : decode jdk_42_method_66_code 50 = .ok (.iconst 1, 1) := by decide +kernel
theorem d12_51 : decode jdk_42_method_66_code 51 = .ok (.goto 4, 3) := by decide +kernel
theorem ef_rqe (m : MethodId) (x0 : Addr) (x1 : Addr) : entryFrame m #[(.ref x0), (.ref x1)] 3 = mkF m 0 #[.val (.ref x0), .val (.ref x1), .unset] [] := by first | (simp [entryFrame, mkF, argsToLocals, Value.category]; done) | rfl
def Q_rqe (Z : State) (s_ : Addr) (u_ : Addr) (xa : Int32) (ty : Int32) (yb : Int32) (qc : Int32) (h0 : Heap) (n0 : Nat) (v : Option Value) (h : Heap) (L : List Loc) : Prop := v = some (.int (own_eq ty xa yb)) ∧ Fr n0 L ∧ h = h0
set_option maxRecDepth 65536 in
set_option maxHeartbeats 40000000 in
theorem rqe (l : Launch) (Z : State) (a0 : Array Value) (hw : ∀ d ∈ tables_1, d.before a0 Z = true) (ws : List Jvm.Cond) (s_ : Addr) (u_ : Addr) (xa : Int32) (ty : Int32) (yb : Int32) (qc : Int32) (h0 : Heap) (n0 : Nat) (Z0 : n0 ≤ h0.size) (T_s : TStr Z h0 s_ 1 xa) (T_u : TStr Z h0 u_ ty yb) (nsu : s_ ≠ u_) (S_q : Sta Z h0 "java/lang/String" "COMPACT_STRINGS" "Z" (.int qc)) (hq : ¬ qc = 0) :
    OCon l Z (⟨"java/lang/String", "equals", "(Ljava/lang/Object;)Z"⟩ : MethodName) jdk_42_method_66_code 3 (some .boolean) ws ({ frames := 1, cells := 0, slots := 0, locals := 14 } : Room) #[(.ref s_), (.ref u_)] h0 (Q_rqe Z s_ u_ xa ty yb qc h0 n0) := by
  refine OCon.of (plainFor_of_name pn1) ?_
  intro p e s m below meth c s₁ Φ X0 hx hby hml hown hnm hret hlk hZ e0 hΦ
  have N0 := Fr.nil n0
  refine os (fun _ z => castTop (ef_rqe m s_ u_) z) ?_
  obtain ⟨E_s, bs, cs, ns, ls_, F_s, G_s, V_s, ds⟩ := id T_s
  obtain ⟨E_u, bu, cu, nu, lu_, F_u, G_u, V_u, du⟩ := id T_u
  obtain ⟨rfl, rfl⟩ : ns = 1 ∧ ls_ = [.int xa] := by rcases ds with q | q; exact q.2; exact absurd q.1 (by decide)
  show OG p e below Φ s₁ m 0 #[rv s_, rv u_, .unset] []
  rcases du with ⟨ht, rfl, rfl⟩ | ⟨ht, ⟨rfl, rfl⟩ | ⟨yc, yd, rfl, rfl⟩⟩
  · show OG p e below Φ s₁ m 0 #[rv s_, rv u_, .unset] []
    refine os (fun _ z => XS.aloadN X0.here hx rfl (hb hby d12_0) rfl rfl z) ?_
    show OG p e below Φ s₁ m 1 #[rv s_, rv u_, .unset] [(.ref s_)]
    refine os (fun _ z => XS.aloadN X0.here hx rfl (hb hby d12_1) rfl rfl z) ?_
    show OG p e below Φ s₁ m 2 #[rv s_, rv u_, .unset] [(.ref u_), (.ref s_)]
    refine os (fun _ z => XT.acmpYes X0.here hx rfl (pc0 := 2) (pc' := 7) rfl (hb hby d12_2) rfl rfl rfl (XT.aa_ne_t (fun q => nsu (Value.ref.inj q))) (by decide) (by decide) z) ?_
    show OG p e below Φ s₁ m 7 #[rv s_, rv u_, .unset] []
    refine os (fun _ z => XS.aloadN X0.here hx rfl (hb hby d12_7) rfl rfl z) ?_
    show OG p e below Φ s₁ m 8 #[rv s_, rv u_, .unset] [(.ref u_)]
    obtain ⟨T1, X1, e1, st1⟩ := instY X0 hx hZ hown (ow19 hw) e0 (Ins.self E_u) (g := (mkF m 8 #[rv s_, rv u_, .unset] [(.ref u_)])) rfl rfl (hb hby d12_8)
    refine os st1 ?_
    show OG p e below Φ T1 m 11 #[rv s_, rv u_, .unset] [(.int 1)]
    refine os (fun _ z => XS.ifNo X1.here hx rfl (hb hby d12_11) rfl (XT.i0_eq_f (by decide)) z) ?_
    show OG p e below Φ T1 m 14 #[rv s_, rv u_, .unset] []
    refine os (fun _ z => XS.aloadN X1.here hx rfl (hb hby d12_14) rfl rfl z) ?_
    show OG p e below Φ T1 m 15 #[rv s_, rv u_, .unset] [(.ref u_)]
    obtain ⟨T2, X2, e2, st2⟩ := castY X1 hx hZ hown (ow19 hw) e1 (Ins.self E_u) (g := (mkF m 15 #[rv s_, rv u_, .unset] [(.ref u_)])) rfl rfl (hb hby d12_15)
    refine os st2 ?_
    show OG p e below Φ T2 m 18 #[rv s_, rv u_, .unset] [(.ref u_)]
    refine os (fun _ z => XS.astoreN X2.here hx rfl (hb hby d12_18) rfl rfl (l' := #[rv s_, rv u_, rv u_]) rfl z) ?_
    show OG p e below Φ T2 m 19 #[rv s_, rv u_, rv u_] []
    obtain ⟨T3, X3, e3, st3⟩ := getS2 X2 hx hZ hown (host := "") (Or.inl (ow14 hw)) Via.refl e2 S_q (g := (mkF m 19 #[rv s_, rv u_, rv u_] [])) rfl (hb hby d12_19)
    refine os st3 ?_
    show OG p e below Φ T3 m 22 #[rv s_, rv u_, rv u_] [(.int qc)]
    refine os (fun _ z => XS.ifNo X3.here hx rfl (hb hby d12_22) rfl (XT.i0_eq_f hq) z) ?_
    show OG p e below Φ T3 m 25 #[rv s_, rv u_, rv u_] []
    refine os (fun _ z => XS.aloadN X3.here hx rfl (hb hby d12_25) rfl rfl z) ?_
    show OG p e below Φ T3 m 26 #[rv s_, rv u_, rv u_] [(.ref s_)]
    obtain ⟨T4, X4, e4, st4⟩ := getF X3 hx hZ hown (host := "") (Or.inl (ow34 hw)) Via.refl e3 G_s (g := (mkF m 26 #[rv s_, rv u_, rv u_] [(.ref s_)])) rfl rfl (hb hby d12_26)
    refine os st4 ?_
    show OG p e below Φ T4 m 29 #[rv s_, rv u_, rv u_] [(.int 0)]
    refine os (fun _ z => XS.aloadN X4.here hx rfl (hb hby d12_29) rfl rfl z) ?_
    show OG p e below Φ T4 m 30 #[rv s_, rv u_, rv u_] [(.ref u_), (.int 0)]
    obtain ⟨T5, X5, e5, st5⟩ := getF X4 hx hZ hown (host := "") (Or.inl (ow34 hw)) Via.refl e4 G_u (g := (mkF m 30 #[rv s_, rv u_, rv u_] [(.ref u_), (.int 0)])) rfl rfl (hb hby d12_30)
    refine os st5 ?_
    show OG p e below Φ T5 m 33 #[rv s_, rv u_, rv u_] [(.int 0), (.int 0)]
    refine os (fun _ z => XS.icmpNo X5.here hx rfl (hb hby d12_33) rfl (XT.ii_ne_f (by decide)) z) ?_
    show OG p e below Φ T5 m 36 #[rv s_, rv u_, rv u_] []
    refine os (fun _ z => XS.aloadN X5.here hx rfl (hb hby d12_36) rfl rfl z) ?_
    show OG p e below Φ T5 m 37 #[rv s_, rv u_, rv u_] [(.ref s_)]
    obtain ⟨T6, X6, e6, st6⟩ := getF X5 hx hZ hown (host := "") (Or.inl (ow32 hw)) Via.refl e5 F_s (g := (mkF m 37 #[rv s_, rv u_, rv u_] [(.ref s_)])) rfl rfl (hb hby d12_37)
    refine os st6 ?_
    show OG p e below Φ T6 m 40 #[rv s_, rv u_, rv u_] [(.ref bs)]
    refine os (fun _ z => XS.aloadN X6.here hx rfl (hb hby d12_40) rfl rfl z) ?_
    show OG p e below Φ T6 m 41 #[rv s_, rv u_, rv u_] [(.ref u_), (.ref bs)]
    obtain ⟨T7, X7, e7, st7⟩ := getF X6 hx hZ hown (host := "") (Or.inl (ow32 hw)) Via.refl e6 F_u (g := (mkF m 41 #[rv s_, rv u_, rv u_] [(.ref u_), (.ref bs)])) rfl rfl (hb hby d12_41)
    refine os st7 ?_
    show OG p e below Φ T7 m 44 #[rv s_, rv u_, rv u_] [(.ref bu), (.ref bs)]
    obtain ⟨_, T8, L8, X8, hQ8, st8⟩ := own_callSt X7 hx hZ hown (ow66 hw) (ow67 hw) (ow17 hw) (ow68 hw) (by decide) (rel1 l Z a0 hw [] bs cs bu cu xa yb h0 n0 Z0 V_s V_u) e7 (W := 0) (by decide) (by decide) (by decide) (by decide) (pc := 44) (ls := #[rv s_, rv u_, rv u_]) (stk := [(.ref bu), (.ref bs)]) (by rw [hml]; rfl) (argsL := [(.ref bs), (.ref bu)]) (rest := []) (lenOf pd10 rfl) rfl rfl (Nat.le_of_eq rfl) (hb hby d12_44)
    obtain ⟨rfl, Nq8, e8⟩ := hQ8
    have N8 := Fr.app N0 Nq8
    refine os st8 ?_
    show OG p e below Φ T8 m 47 #[rv s_, rv u_, rv u_] [(.int (own_e xa yb))]
    by_cases hc9 : (own_e xa yb) = 0
    · refine os (fun _ z => XS.ifYes X8.here hx rfl (pc0 := 47) (pc' := 54) rfl (hb hby d12_47) rfl (XT.i0_eq_t hc9) (by decide) (by decide) z) ?_
      show OG p e below Φ T8 m 54 #[rv s_, rv u_, rv u_] []
      refine os (fun _ z => XS.iconst X8.here hx rfl (hb hby d12_54) z) ?_
      show OG p e below Φ T8 m 55 #[rv s_, rv u_, rv u_] [(.int 0)]
      refine OGo.fin X8 hlk (v := (some (.int 0))) (fun h => by rw [hret] at h; cases h) (by decide) (by decide) (fun fs hr => X8.ireturnOut hx hret rfl (by simp) (hb hby d12_55) hr) fun U eU hF => hΦ _ _ _ ?_ hF
      rw [eU, e8]
      show Q_rqe Z s_ u_ xa ty yb qc h0 n0 _ _ _
      exact ⟨by rw [own_eq0 ht hc9], N8, rfl⟩
    · refine os (fun _ z => XS.ifNo X8.here hx rfl (hb hby d12_47) rfl (XT.i0_eq_f hc9) z) ?_
      show OG p e below Φ T8 m 50 #[rv s_, rv u_, rv u_] []
      refine os (fun _ z => XS.iconst X8.here hx rfl (hb hby d12_50) z) ?_
      show OG p e below Φ T8 m 51 #[rv s_, rv u_, rv u_] [(.int 1)]
      refine os (fun _ z => XS.goto X8.here hx rfl (pc0 := 51) (pc' := 55) rfl (hb hby d12_51) (by decide) (by decide) z) ?_
      show OG p e below Φ T8 m 55 #[rv s_, rv u_, rv u_] [(.int 1)]
      refine OGo.fin X8 hlk (v := (some (.int 1))) (fun h => by rw [hret] at h; cases h) (by decide) (by decide) (fun fs hr => X8.ireturnOut hx hret rfl (by simp) (hb hby d12_55) hr) fun U eU hF => hΦ _ _ _ ?_ hF
      rw [eU, e8]
      show Q_rqe Z s_ u_ xa ty yb qc h0 n0 _ _ _
      exact ⟨by rw [own_eq1 ht hc9], N8, rfl⟩
  · show OG p e below Φ s₁ m 0 #[rv s_, rv u_, .unset] []
    refine os (fun _ z => XS.aloadN X0.here hx rfl (hb hby d12_0) rfl rfl z) ?_
    show OG p e below Φ s₁ m 1 #[rv s_, rv u_, .unset] [(.ref s_)]
    refine os (fun _ z => XS.aloadN X0.here hx rfl (hb hby d12_1) rfl rfl z) ?_
    show OG p e below Φ s₁ m 2 #[rv s_, rv u_, .unset] [(.ref u_), (.ref s_)]
    refine os (fun _ z => XT.acmpYes X0.here hx rfl (pc0 := 2) (pc' := 7) rfl (hb hby d12_2) rfl rfl rfl (XT.aa_ne_t (fun q => nsu (Value.ref.inj q))) (by decide) (by decide) z) ?_
    show OG p e below Φ s₁ m 7 #[rv s_, rv u_, .unset] []
    refine os (fun _ z => XS.aloadN X0.here hx rfl (hb hby d12_7) rfl rfl z) ?_
    show OG p e below Φ s₁ m 8 #[rv s_, rv u_, .unset] [(.ref u_)]
    obtain ⟨T10, X10, e10, st10⟩ := instY X0 hx hZ hown (ow19 hw) e0 (Ins.self E_u) (g := (mkF m 8 #[rv s_, rv u_, .unset] [(.ref u_)])) rfl rfl (hb hby d12_8)
    refine os st10 ?_
    show OG p e below Φ T10 m 11 #[rv s_, rv u_, .unset] [(.int 1)]
    refine os (fun _ z => XS.ifNo X10.here hx rfl (hb hby d12_11) rfl (XT.i0_eq_f (by decide)) z) ?_
    show OG p e below Φ T10 m 14 #[rv s_, rv u_, .unset] []
    refine os (fun _ z => XS.aloadN X10.here hx rfl (hb hby d12_14) rfl rfl z) ?_
    show OG p e below Φ T10 m 15 #[rv s_, rv u_, .unset] [(.ref u_)]
    obtain ⟨T11, X11, e11, st11⟩ := castY X10 hx hZ hown (ow19 hw) e10 (Ins.self E_u) (g := (mkF m 15 #[rv s_, rv u_, .unset] [(.ref u_)])) rfl rfl (hb hby d12_15)
    refine os st11 ?_
    show OG p e below Φ T11 m 18 #[rv s_, rv u_, .unset] [(.ref u_)]
    refine os (fun _ z => XS.astoreN X11.here hx rfl (hb hby d12_18) rfl rfl (l' := #[rv s_, rv u_, rv u_]) rfl z) ?_
    show OG p e below Φ T11 m 19 #[rv s_, rv u_, rv u_] []
    obtain ⟨T12, X12, e12, st12⟩ := getS2 X11 hx hZ hown (host := "") (Or.inl (ow14 hw)) Via.refl e11 S_q (g := (mkF m 19 #[rv s_, rv u_, rv u_] [])) rfl (hb hby d12_19)
    refine os st12 ?_
    show OG p e below Φ T12 m 22 #[rv s_, rv u_, rv u_] [(.int qc)]
    refine os (fun _ z => XS.ifNo X12.here hx rfl (hb hby d12_22) rfl (XT.i0_eq_f hq) z) ?_
    show OG p e below Φ T12 m 25 #[rv s_, rv u_, rv u_] []
    refine os (fun _ z => XS.aloadN X12.here hx rfl (hb hby d12_25) rfl rfl z) ?_
    show OG p e below Φ T12 m 26 #[rv s_, rv u_, rv u_] [(.ref s_)]
    obtain ⟨T13, X13, e13, st13⟩ := getF X12 hx hZ hown (host := "") (Or.inl (ow34 hw)) Via.refl e12 G_s (g := (mkF m 26 #[rv s_, rv u_, rv u_] [(.ref s_)])) rfl rfl (hb hby d12_26)
    refine os st13 ?_
    show OG p e below Φ T13 m 29 #[rv s_, rv u_, rv u_] [(.int 0)]
    refine os (fun _ z => XS.aloadN X13.here hx rfl (hb hby d12_29) rfl rfl z) ?_
    show OG p e below Φ T13 m 30 #[rv s_, rv u_, rv u_] [(.ref u_), (.int 0)]
    obtain ⟨T14, X14, e14, st14⟩ := getF X13 hx hZ hown (host := "") (Or.inl (ow34 hw)) Via.refl e13 G_u (g := (mkF m 30 #[rv s_, rv u_, rv u_] [(.ref u_), (.int 0)])) rfl rfl (hb hby d12_30)
    refine os st14 ?_
    show OG p e below Φ T14 m 33 #[rv s_, rv u_, rv u_] [(.int 0), (.int 0)]
    refine os (fun _ z => XS.icmpNo X14.here hx rfl (hb hby d12_33) rfl (XT.ii_ne_f (by decide)) z) ?_
    show OG p e below Φ T14 m 36 #[rv s_, rv u_, rv u_] []
    refine os (fun _ z => XS.aloadN X14.here hx rfl (hb hby d12_36) rfl rfl z) ?_
    show OG p e below Φ T14 m 37 #[rv s_, rv u_, rv u_] [(.ref s_)]
    obtain ⟨T15, X15, e15, st15⟩ := getF X14 hx hZ hown (host := "") (Or.inl (ow32 hw)) Via.refl e14 F_s (g := (mkF m 37 #[rv s_, rv u_, rv u_] [(.ref s_)])) rfl rfl (hb hby d12_37)
    refine os st15 ?_
    show OG p e below Φ T15 m 40 #[rv s_, rv u_, rv u_] [(.ref bs)]
    refine os (fun _ z => XS.aloadN X15.here hx rfl (hb hby d12_40) rfl rfl z) ?_
    show OG p e below Φ T15 m 41 #[rv s_, rv u_, rv u_] [(.ref u_), (.ref bs)]
    obtain ⟨T16, X16, e16, st16⟩ := getF X15 hx hZ hown (host := "") (Or.inl (ow32 hw)) Via.refl e15 F_u (g := (mkF m 41 #[rv s_, rv u_, rv u_] [(.ref u_), (.ref bs)])) rfl rfl (hb hby d12_41)
    refine os st16 ?_
    show OG p e below Φ T16 m 44 #[rv s_, rv u_, rv u_] [(.ref bu), (.ref bs)]
    obtain ⟨_, T17, L17, X17, hQ17, st17⟩ := own_callSt X16 hx hZ hown (ow66 hw) (ow67 hw) (ow17 hw) (ow68 hw) (by decide) (rel0 l Z a0 hw [] bs cs bu cu xa h0 n0 Z0 V_s V_u) e16 (W := 0) (by decide) (by decide) (by decide) (by decide) (pc := 44) (ls := #[rv s_, rv u_, rv u_]) (stk := [(.ref bu), (.ref bs)]) (by rw [hml]; rfl) (argsL := [(.ref bs), (.ref bu)]) (rest := []) (lenOf pd10 rfl) rfl rfl (Nat.le_of_eq rfl) (hb hby d12_44)
    obtain ⟨rfl, Nq17, e17⟩ := hQ17
    have N17 := Fr.app N0 Nq17
    refine os st17 ?_
    show OG p e below Φ T17 m 47 #[rv s_, rv u_, rv u_] [(.int 0)]
    refine os (fun _ z => XS.ifYes X17.here hx rfl (pc0 := 47) (pc' := 54) rfl (hb hby d12_47) rfl (XT.i0_eq_t (by decide)) (by decide) (by decide) z) ?_
    show OG p e below Φ T17 m 54 #[rv s_, rv u_, rv u_] []
    refine os (fun _ z => XS.iconst X17.here hx rfl (hb hby d12_54) z) ?_
    show OG p e below Φ T17 m 55 #[rv s_, rv u_, rv u_] [(.int 0)]
    refine OGo.fin X17 hlk (v := (some (.int 0))) (fun h => by rw [hret] at h; cases h) (by decide) (by decide) (fun fs hr => X17.ireturnOut hx hret rfl (by simp) (hb hby d12_55) hr) fun U eU hF => hΦ _ _ _ ?_ hF
    rw [eU, e17]
    show Q_rqe Z s_ u_ xa ty yb qc h0 n0 _ _ _
    exact ⟨by rw [own_eqz ht], N17, rfl⟩
  · show OG p e below Φ s₁ m 0 #[rv s_, rv u_, .unset] []
    refine os (fun _ z => XS.aloadN X0.here hx rfl (hb hby d12_0) rfl rfl z) ?_
    show OG p e below Φ s₁ m 1 #[rv s_, rv u_, .unset] [(.ref s_)]
    refine os (fun _ z => XS.aloadN X0.here hx rfl (hb hby d12_1) rfl rfl z) ?_
    show OG p e below Φ s₁ m 2 #[rv s_, rv u_, .unset] [(.ref u_), (.ref s_)]
    refine os (fun _ z => XT.acmpYes X0.here hx rfl (pc0 := 2) (pc' := 7) rfl (hb hby d12_2) rfl rfl rfl (XT.aa_ne_t (fun q => nsu (Value.ref.inj q))) (by decide) (by decide) z) ?_
    show OG p e below Φ s₁ m 7 #[rv s_, rv u_, .unset] []
    refine os (fun _ z => XS.aloadN X0.here hx rfl (hb hby d12_7) rfl rfl z) ?_
    show OG p e below Φ s₁ m 8 #[rv s_, rv u_, .unset] [(.ref u_)]
    obtain ⟨T18, X18, e18, st18⟩ := instY X0 hx hZ hown (ow19 hw) e0 (Ins.self E_u) (g := (mkF m 8 #[rv s_, rv u_, .unset] [(.ref u_)])) rfl rfl (hb hby d12_8)
    refine os st18 ?_
    show OG p e below Φ T18 m 11 #[rv s_, rv u_, .unset] [(.int 1)]
    refine os (fun _ z => XS.ifNo X18.here hx rfl (hb hby d12_11) rfl (XT.i0_eq_f (by decide)) z) ?_
    show OG p e below Φ T18 m 14 #[rv s_, rv u_, .unset] []
    refine os (fun _ z => XS.aloadN X18.here hx rfl (hb hby d12_14) rfl rfl z) ?_
    show OG p e below Φ T18 m 15 #[rv s_, rv u_, .unset] [(.ref u_)]
    obtain ⟨T19, X19, e19, st19⟩ := castY X18 hx hZ hown (ow19 hw) e18 (Ins.self E_u) (g := (mkF m 15 #[rv s_, rv u_, .unset] [(.ref u_)])) rfl rfl (hb hby d12_15)
    refine os st19 ?_
    show OG p e below Φ T19 m 18 #[rv s_, rv u_, .unset] [(.ref u_)]
    refine os (fun _ z => XS.astoreN X19.here hx rfl (hb hby d12_18) rfl rfl (l' := #[rv s_, rv u_, rv u_]) rfl z) ?_
    show OG p e below Φ T19 m 19 #[rv s_, rv u_, rv u_] []
    obtain ⟨T20, X20, e20, st20⟩ := getS2 X19 hx hZ hown (host := "") (Or.inl (ow14 hw)) Via.refl e19 S_q (g := (mkF m 19 #[rv s_, rv u_, rv u_] [])) rfl (hb hby d12_19)
    refine os st20 ?_
    show OG p e below Φ T20 m 22 #[rv s_, rv u_, rv u_] [(.int qc)]
    refine os (fun _ z => XS.ifNo X20.here hx rfl (hb hby d12_22) rfl (XT.i0_eq_f hq) z) ?_
    show OG p e below Φ T20 m 25 #[rv s_, rv u_, rv u_] []
    refine os (fun _ z => XS.aloadN X20.here hx rfl (hb hby d12_25) rfl rfl z) ?_
    show OG p e below Φ T20 m 26 #[rv s_, rv u_, rv u_] [(.ref s_)]
    obtain ⟨T21, X21, e21, st21⟩ := getF X20 hx hZ hown (host := "") (Or.inl (ow34 hw)) Via.refl e20 G_s (g := (mkF m 26 #[rv s_, rv u_, rv u_] [(.ref s_)])) rfl rfl (hb hby d12_26)
    refine os st21 ?_
    show OG p e below Φ T21 m 29 #[rv s_, rv u_, rv u_] [(.int 0)]
    refine os (fun _ z => XS.aloadN X21.here hx rfl (hb hby d12_29) rfl rfl z) ?_
    show OG p e below Φ T21 m 30 #[rv s_, rv u_, rv u_] [(.ref u_), (.int 0)]
    obtain ⟨T22, X22, e22, st22⟩ := getF X21 hx hZ hown (host := "") (Or.inl (ow34 hw)) Via.refl e21 G_u (g := (mkF m 30 #[rv s_, rv u_, rv u_] [(.ref u_), (.int 0)])) rfl rfl (hb hby d12_30)
    refine os st22 ?_
    show OG p e below Φ T22 m 33 #[rv s_, rv u_, rv u_] [(.int 0), (.int 0)]
    refine os (fun _ z => XS.icmpNo X22.here hx rfl (hb hby d12_33) rfl (XT.ii_ne_f (by decide)) z) ?_
    show OG p e below Φ T22 m 36 #[rv s_, rv u_, rv u_] []
    refine os (fun _ z => XS.aloadN X22.here hx rfl (hb hby d12_36) rfl rfl z) ?_
    show OG p e below Φ T22 m 37 #[rv s_, rv u_, rv u_] [(.ref s_)]
    obtain ⟨T23, X23, e23, st23⟩ := getF X22 hx hZ hown (host := "") (Or.inl (ow32 hw)) Via.refl e22 F_s (g := (mkF m 37 #[rv s_, rv u_, rv u_] [(.ref s_)])) rfl rfl (hb hby d12_37)
    refine os st23 ?_
    show OG p e below Φ T23 m 40 #[rv s_, rv u_, rv u_] [(.ref bs)]
    refine os (fun _ z => XS.aloadN X23.here hx rfl (hb hby d12_40) rfl rfl z) ?_
    show OG p e below Φ T23 m 41 #[rv s_, rv u_, rv u_] [(.ref u_), (.ref bs)]
    obtain ⟨T24, X24, e24, st24⟩ := getF X23 hx hZ hown (host := "") (Or.inl (ow32 hw)) Via.refl e23 F_u (g := (mkF m 41 #[rv s_, rv u_, rv u_] [(.ref u_), (.ref bs)])) rfl rfl (hb hby d12_41)
    refine os st24 ?_
    show OG p e below Φ T24 m 44 #[rv s_, rv u_, rv u_] [(.ref bu), (.ref bs)]
    obtain ⟨_, T25, L25, X25, hQ25, st25⟩ := own_callSt X24 hx hZ hown (ow66 hw) (ow67 hw) (ow17 hw) (ow68 hw) (by decide) (rel2 l Z a0 hw [] bs cs bu cu xa yc yd h0 n0 Z0 V_s V_u) e24 (W := 0) (by decide) (by decide) (by decide) (by decide) (pc := 44) (ls := #[rv s_, rv u_, rv u_]) (stk := [(.ref bu), (.ref bs)]) (by rw [hml]; rfl) (argsL := [(.ref bs), (.ref bu)]) (rest := []) (lenOf pd10 rfl) rfl rfl (Nat.le_of_eq rfl) (hb hby d12_44)
    obtain ⟨rfl, Nq25, e25⟩ := hQ25
    have N25 := Fr.app N0 Nq25
    refine os st25 ?_
    show OG p e below Φ T25 m 47 #[rv s_, rv u_, rv u_] [(.int 0)]
    refine os (fun _ z => XS.ifYes X25.here hx rfl (pc0 := 47) (pc' := 54) rfl (hb hby d12_47) rfl (XT.i0_eq_t (by decide)) (by decide) (by decide) z) ?_
    show OG p e below Φ T25 m 54 #[rv s_, rv u_, rv u_] []
    refine os (fun _ z => XS.iconst X25.here hx rfl (hb hby d12_54) z) ?_
    show OG p e below Φ T25 m 55 #[rv s_, rv u_, rv u_] [(.int 0)]
    refine OGo.fin X25 hlk (v := (some (.int 0))) (fun h => by rw [hret] at h; cases h) (by decide) (by decide) (fun fs hr => X25.ireturnOut hx hret rfl (by simp) (hb hby d12_55) hr) fun U eU hF => hΦ _ _ _ ?_ hF
    rw [eU, e25]
    show Q_rqe Z s_ u_ xa ty yb qc h0 n0 _ _ _
    exact ⟨by rw [own_eqz ht], N25, rfl⟩

theorem d12_5 : decode jdk_42_method_66_code 5 = .ok (.iconst 1, 1) := by decide +kernel
theorem d12_6 : decode jdk_42_method_66_code 6 = .ok (.ireturn, 1) := by decide +kernel
theorem ef_rqS (m : MethodId) (x0 : Addr) (x1 : Addr) : entryFrame m #[(.ref x0), (.ref x1)] 3 = mkF m 0 #[.val (.ref x0), .val (.ref x1), .unset] [] := by first | (simp [entryFrame, mkF, argsToLocals, Value.category]; done) | rfl
def Q_rqS (Z : State) (s_ : Addr) (h0 : Heap) (n0 : Nat) (v : Option Value) (h : Heap) (L : List Loc) : Prop := v = some (.int (1 : Int32)) ∧ Fr n0 L ∧ h = h0
set_option maxRecDepth 65536 in
set_option maxHeartbeats 40000000 in
theorem rqS (l : Launch) (Z : State) (a0 : Array Value) (hw : ∀ d ∈ tables_1, d.before a0 Z = true) (ws : List Jvm.Cond) (s_ : Addr) (h0 : Heap) (n0 : Nat) (Z0 : n0 ≤ h0.size)  :
    OCon l Z (⟨"java/lang/String", "equals", "(Ljava/lang/Object;)Z"⟩ : MethodName) jdk_42_method_66_code 3 (some .boolean) ws ({ frames := 0, cells := 0, slots := 0, locals := 0 } : Room) #[(.ref s_), (.ref s_)] h0 (Q_rqS Z s_ h0 n0) := by
  refine OCon.of (plainFor_of_name pn1) ?_
  intro p e s m below meth c s₁ Φ X0 hx hby hml hown hnm hret hlk hZ e0 hΦ
  have N0 := Fr.nil n0
  refine os (fun _ z => castTop (ef_rqS m s_ s_) z) ?_
  show OG p e below Φ s₁ m 0 #[rv s_, rv s_, .unset] []
  refine os (fun _ z => XS.aloadN X0.here hx rfl (hb hby d12_0) rfl rfl z) ?_
  show OG p e below Φ s₁ m 1 #[rv s_, rv s_, .unset] [(.ref s_)]
  refine os (fun _ z => XS.aloadN X0.here hx rfl (hb hby d12_1) rfl rfl z) ?_
  show OG p e below Φ s₁ m 2 #[rv s_, rv s_, .unset] [(.ref s_), (.ref s_)]
  refine os (fun _ z => XT.acmpNo X0.here hx rfl (hb hby d12_2) rfl rfl rfl (XT.aa_ne_f rfl) z) ?_
  show OG p e below Φ s₁ m 5 #[rv s_, rv s_, .unset] []
  refine os (fun _ z => XS.iconst X0.here hx rfl (hb hby d12_5) z) ?_
  show OG p e below Φ s₁ m 6 #[rv s_, rv s_, .unset] [(.int 1)]
  refine OGo.fin X0 hlk (v := (some (.int 1))) (fun h => by rw [hret] at h; cases h) (by decide) (by decide) (fun fs hr => X0.ireturnOut hx hret rfl (by simp) (hb hby d12_6) hr) fun U eU hF => hΦ _ _ _ ?_ hF
  rw [eU, e0]
  show Q_rqS Z s_ h0 n0 _ _ _
  exact ⟨rfl, N0, rfl⟩

theorem pn4 : plainName "com/example/zonewright/zonewright/storage/ServiceInstance" = true := by first | (simp [plainName, overriddenIn]; done) | decide +kernel
theorem d8_0 : decode prog_29_method_1_code 0 = .ok (.aload_n 0, 1) := by decide +kernel
theorem d8_1 : decode prog_29_method_1_code 1 = .ok (.invokespecial 1, 3) := by decide +kernel
theorem d8_4 : decode prog_29_method_1_code 4 = .ok (.aload_n 0, 1) := by decide +kernel
theorem d8_5 : decode prog_29_method_1_code 5 = .ok (.aload_n 1, 1) := by decide +kernel
theorem d8_6 : decode prog_29_method_1_code 6 = .ok (.putfield 7, 3) := by decide +kernel
theorem d8_9 : decode prog_29_method_1_code 9 = .ok (.aload_n 0, 1) := by decide +kernel
theorem d8_10 : decode prog_29_method_1_code 10 = .ok (.aload_n 2, 1) := by decide +kernel
theorem d8_11 : decode prog_29_method_1_code 11 = .ok (.putfield 13, 3) := by decide +kernel
theorem d8_14 : decode prog_29_method_1_code 14 = .ok (.aload_n 0, 1) := by decide +kernel
theorem d8_15 : decode prog_29_method_1_code 15 = .ok (.aload_n 3, 1) := by decide +kernel
theorem d8_16 : decode prog_29_method_1_code 16 = .ok (.putfield 16, 3) := by decide +kernel
theorem d8_19 : decode prog_29_method_1_code 19 = .ok (.aload_n 0, 1) := by decide +kernel
theorem d8_20 : decode prog_29_method_1_code 20 = .ok (.aload 4, 2) := by decide +kernel
theorem d8_22 : decode prog_29_method_1_code 22 = .ok (.putfield 19, 3) := by decide +kernel
theorem d8_25 : decode prog_29_method_1_code 25 = .ok (.return_, 1) := by decide +kernel
theorem ef_rini (m : MethodId) (x0 : Addr) (x1 : Addr) (x2 : Addr) (x3 : Addr) (x4 : Addr) : entryFrame m #[(.ref x0), (.ref x1), (.ref x2), (.ref x3), (.ref x4)] 5 = mkF m 0 #[.val (.ref x0), .val (.ref x1), .val (.ref x2), .val (.ref x3), .val (.ref x4)] [] := by first | (simp [entryFrame, mkF, argsToLocals, Value.category]; done) | rfl
def Q_rini (Z : State) (a : Addr) (x1 : Addr) (x2 : Addr) (x3 : Addr) (x4 : Addr) (u0 : Value) (u1 : Value) (u2 : Value) (u3 : Value) (h0 : Heap) (n0 : Nat) (v : Option Value) (h : Heap) (L : List Loc) : Prop := v = none ∧ Fr n0 L ∧ Keep h0 h [a] ∧ Exa Z h a "com/example/zonewright/zonewright/storage/ServiceInstance" ∧ Fld Z h a "com/example/zonewright/zonewright/storage/ServiceInstance" "id" "Ljava/lang/String;" (.ref x1) ∧ Fld Z h a "com/example/zonewright/zonewright/storage/ServiceInstance" "planId" "Ljava/lang/String;" (.ref x2) ∧ Fld Z h a "com/example/zonewright/zonewright/storage/ServiceInstance" "organizationGuid" "Ljava/lang/String;" (.ref x3) ∧ Fld Z h a "com/example/zonewright/zonewright/storage/ServiceInstance" "spaceGuid" "Ljava/lang/String;" (.ref x4)
set_option maxRecDepth 65536 in
set_option maxHeartbeats 40000000 in
theorem rini (l : Launch) (Z : State) (a0 : Array Value) (hw : ∀ d ∈ tables_1, d.before a0 Z = true) (ws : List Jvm.Cond) (a : Addr) (x1 : Addr) (x2 : Addr) (x3 : Addr) (x4 : Addr) (u0 : Value) (u1 : Value) (u2 : Value) (u3 : Value) (h0 : Heap) (n0 : Nat) (Z0 : n0 ≤ h0.size) (E_a : Exa Z h0 a "com/example/zonewright/zonewright/storage/ServiceInstance") (g_a : n0 ≤ a) (F_0 : Fld Z h0 a "com/example/zonewright/zonewright/storage/ServiceInstance" "id" "Ljava/lang/String;" u0) (F_1 : Fld Z h0 a "com/example/zonewright/zonewright/storage/ServiceInstance" "planId" "Ljava/lang/String;" u1) (F_2 : Fld Z h0 a "com/example/zonewright/zonewright/storage/ServiceInstance" "organizationGuid" "Ljava/lang/String;" u2) (F_3 : Fld Z h0 a "com/example/zonewright/zonewright/storage/ServiceInstance" "spaceGuid" "Ljava/lang/String;" u3) :
    OCon l Z (⟨"com/example/zonewright/zonewright/storage/ServiceInstance", "<init>", "(Ljava/lang/String;Ljava/lang/String;Ljava/lang/String;Ljava/lang/String;)V"⟩ : MethodName) prog_29_method_1_code 5 none ws ({ frames := 1, cells := 0, slots := 0, locals := 12 } : Room) #[(.ref a), (.ref x1), (.ref x2), (.ref x3), (.ref x4)] h0 (Q_rini Z a x1 x2 x3 x4 u0 u1 u2 u3 h0 n0) := by
  refine OCon.of (plainFor_of_name pn4) ?_
  intro p e s m below meth c s₁ Φ X0 hx hby hml hown hnm hret hlk hZ e0 hΦ
  have N0 := Fr.nil n0
  refine os (fun _ z => castTop (ef_rini m a x1 x2 x3 x4) z) ?_
  have K0 := Keep.refl h0 [a]
  show OG p e below Φ s₁ m 0 #[rv a, rv x1, rv x2, rv x3, rv x4] []
  refine os (fun _ z => XS.aloadN X0.here hx rfl (hb hby d8_0) rfl rfl z) ?_
  show OG p e below Φ s₁ m 1 #[rv a, rv x1, rv x2, rv x3, rv x4] [(.ref a)]
  obtain ⟨T1, X1, e1, st1⟩ := initO X0 hx hZ hown (ow39 hw) (ow30 hw) (ow31 hw) e0 (g := (mkF m 1 #[rv a, rv x1, rv x2, rv x3, rv x4] [(.ref a)])) rfl (by rw [hml]; rfl) rfl (hb hby d8_1) (by decide) (W := 0) (Nat.le_of_eq rfl) (by decide)
  refine os st1 ?_
  show OG p e below Φ T1 m 4 #[rv a, rv x1, rv x2, rv x3, rv x4] []
  refine os (fun _ z => XS.aloadN X1.here hx rfl (hb hby d8_4) rfl rfl z) ?_
  show OG p e below Φ T1 m 5 #[rv a, rv x1, rv x2, rv x3, rv x4] [(.ref a)]
  refine os (fun _ z => XS.aloadN X1.here hx rfl (hb hby d8_5) rfl rfl z) ?_
  show OG p e below Φ T1 m 6 #[rv a, rv x1, rv x2, rv x3, rv x4] [(.ref x1), (.ref a)]
  obtain ⟨T2, h2, X2, e2, W2, st2⟩ := putF X1 hx hZ hown (host := "") (Or.inl (ow40 hw)) Via.refl e1 F_0 E_a (Or.inr ⟨(ow41 hw), rfl, hnm⟩) (ow1 hw) (ty := (.object "java/lang/String")) (by decide) rfl rfl (g := (mkF m 6 #[rv a, rv x1, rv x2, rv x3, rv x4] [(.ref x1), (.ref a)])) rfl rfl (hb hby d8_6)
  have F3 := E_a.wr W2
  have F4 := F_0.same W2
  have F5 := F_1.other W2 (Or.inr (slot_ne (Or.inr (ow43 hw)) (Or.inr (ow41 hw)) (by decide) (t := (.object "java/lang/String")) (t' := (.object "java/lang/String")) (by decide) (by decide)))
  have F6 := F_2.other W2 (Or.inr (slot_ne (Or.inr (ow45 hw)) (Or.inr (ow41 hw)) (by decide) (t := (.object "java/lang/String")) (t' := (.object "java/lang/String")) (by decide) (by decide)))
  have F7 := F_3.other W2 (Or.inr (slot_ne (Or.inr (ow47 hw)) (Or.inr (ow41 hw)) (by decide) (t := (.object "java/lang/String")) (t' := (.object "java/lang/String")) (by decide) (by decide)))
  have K2 := K0.wr W2 (Or.inl (List.mem_of_getElem? (i := 0) rfl))
  have N2 := Fr.snoc X2 N0 g_a
  have Zs2 : n0 ≤ h2.size := by rw [W2.size]; exact Z0
  refine os st2 ?_
  show OG p e below Φ T2 m 9 #[rv a, rv x1, rv x2, rv x3, rv x4] []
  refine os (fun _ z => XS.aloadN X2.here hx rfl (hb hby d8_9) rfl rfl z) ?_
  show OG p e below Φ T2 m 10 #[rv a, rv x1, rv x2, rv x3, rv x4] [(.ref a)]
  refine os (fun _ z => XS.aloadN X2.here hx rfl (hb hby d8_10) rfl rfl z) ?_
  show OG p e below Φ T2 m 11 #[rv a, rv x1, rv x2, rv x3, rv x4] [(.ref x2), (.ref a)]
  obtain ⟨T8, h8, X8, e8, W8, st8⟩ := putF X2 hx hZ hown (host := "") (Or.inl (ow42 hw)) Via.refl e2 F5 F3 (Or.inr ⟨(ow43 hw), rfl, hnm⟩) (ow1 hw) (ty := (.object "java/lang/String")) (by decide) rfl rfl (g := (mkF m 11 #[rv a, rv x1, rv x2, rv x3, rv x4] [(.ref x2), (.ref a)])) rfl rfl (hb hby d8_11)
  have F9 := F3.wr W8
  have F10 := F4.other W8 (Or.inr (slot_ne (Or.inr (ow41 hw)) (Or.inr (ow43 hw)) (by decide) (t := (.object "java/lang/String")) (t' := (.object "java/lang/String")) (by decide) (by decide)))
  have F11 := F5.same W8
  have F12 := F6.other W8 (Or.inr (slot_ne (Or.inr (ow45 hw)) (Or.inr (ow43 hw)) (by decide) (t := (.object "java/lang/String")) (t' := (.object "java/lang/String")) (by decide) (by decide)))
  have F13 := F7.other W8 (Or.inr (slot_ne (Or.inr (ow47 hw)) (Or.inr (ow43 hw)) (by decide) (t := (.object "java/lang/String")) (t' := (.object "java/lang/String")) (by decide) (by decide)))
  have K8 := K2.wr W8 (Or.inl (List.mem_of_getElem? (i := 0) rfl))
  have N8 := Fr.snoc X8 N2 g_a
  have Zs8 : n0 ≤ h8.size := by rw [W8.size]; exact Zs2
  refine os st8 ?_
  show OG p e below Φ T8 m 14 #[rv a, rv x1, rv x2, rv x3, rv x4] []
  refine os (fun _ z => XS.aloadN X8.here hx rfl (hb hby d8_14) rfl rfl z) ?_
  show OG p e below Φ T8 m 15 #[rv a, rv x1, rv x2, rv x3, rv x4] [(.ref a)]
  refine os (fun _ z => XS.aloadN X8.here hx rfl (hb hby d8_15) rfl rfl z) ?_
  show OG p e below Φ T8 m 16 #[rv a, rv x1, rv x2, rv x3, rv x4] [(.ref x3), (.ref a)]
  obtain ⟨T14, h14, X14, e14, W14, st14⟩ := putF X8 hx hZ hown (host := "") (Or.inl (ow44 hw)) Via.refl e8 F12 F9 (Or.inr ⟨(ow45 hw), rfl, hnm⟩) (ow1 hw) (ty := (.object "java/lang/String")) (by decide) rfl rfl (g := (mkF m 16 #[rv a, rv x1, rv x2, rv x3, rv x4] [(.ref x3), (.ref a)])) rfl rfl (hb hby d8_16)
  have F15 := F9.wr W14
  have F16 := F10.other W14 (Or.inr (slot_ne (Or.inr (ow41 hw)) (Or.inr (ow45 hw)) (by decide) (t := (.object "java/lang/String")) (t' := (.object "java/lang/String")) (by decide) (by decide)))
  have F17 := F11.other W14 (Or.inr (slot_ne (Or.inr (ow43 hw)) (Or.inr (ow45 hw)) (by decide) (t := (.object "java/lang/String")) (t' := (.object "java/lang/String")) (by decide) (by decide)))
  have F18 := F12.same W14
  have F19 := F13.other W14 (Or.inr (slot_ne (Or.inr (ow47 hw)) (Or.inr (ow45 hw)) (by decide) (t := (.object "java/lang/String")) (t' := (.object "java/lang/String")) (by decide) (by decide)))
  have K14 := K8.wr W14 (Or.inl (List.mem_of_getElem? (i := 0) rfl))
  have N14 := Fr.snoc X14 N8 g_a
  have Zs14 : n0 ≤ h14.size := by rw [W14.size]; exact Zs8
  refine os st14 ?_
  show OG p e below Φ T14 m 19 #[rv a, rv x1, rv x2, rv x3, rv x4] []
  refine os (fun _ z => XS.aloadN X14.here hx rfl (hb hby d8_19) rfl rfl z) ?_
  show OG p e below Φ T14 m 20 #[rv a, rv x1, rv x2, rv x3, rv x4] [(.ref a)]
  refine os (fun _ z => XS.aload X14.here hx rfl (hb hby d8_20) rfl rfl z) ?_
  show OG p e below Φ T14 m 22 #[rv a, rv x1, rv x2, rv x3, rv x4] [(.ref x4), (.ref a)]
  obtain ⟨T20, h20, X20, e20, W20, st20⟩ := putF X14 hx hZ hown (host := "") (Or.inl (ow46 hw)) Via.refl e14 F19 F15 (Or.inr ⟨(ow47 hw), rfl, hnm⟩) (ow1 hw) (ty := (.object "java/lang/String")) (by decide) rfl rfl (g := (mkF m 22 #[rv a, rv x1, rv x2, rv x3, rv x4] [(.ref x4), (.ref a)])) rfl rfl (hb hby d8_22)
  have F21 := F15.wr W20
  have F22 := F16.other W20 (Or.inr (slot_ne (Or.inr (ow41 hw)) (Or.inr (ow47 hw)) (by decide) (t := (.object "java/lang/String")) (t' := (.object "java/lang/String")) (by decide) (by decide)))
  have F23 := F17.other W20 (Or.inr (slot_ne (Or.inr (ow43 hw)) (Or.inr (ow47 hw)) (by decide) (t := (.object "java/lang/String")) (t' := (.object "java/lang/String")) (by decide) (by decide)))
  have F24 := F18.other W20 (Or.inr (slot_ne (Or.inr (ow45 hw)) (Or.inr (ow47 hw)) (by decide) (t := (.object "java/lang/String")) (t' := (.object "java/lang/String")) (by decide) (by decide)))
  have F25 := F19.same W20
  have K20 := K14.wr W20 (Or.inl (List.mem_of_getElem? (i := 0) rfl))
  have N20 := Fr.snoc X20 N14 g_a
  have Zs20 : n0 ≤ h20.size := by rw [W20.size]; exact Zs14
  refine os st20 ?_
  show OG p e below Φ T20 m 25 #[rv a, rv x1, rv x2, rv x3, rv x4] []
  refine OGo.fin X20 hlk (v := none) (fun _ => rfl) (by decide) (by decide) (fun fs hr => X20.returnOut hx hret (hb hby d8_25) hr) fun U eU hF => hΦ _ _ _ ?_ hF
  rw [eU, e20]
  show Q_rini Z a x1 x2 x3 x4 u0 u1 u2 u3 h0 n0 _ _ _
  exact ⟨rfl, N20, K20, F21, F22, F23, F24, F25⟩

theorem d11_0 : decode prog_29_method_6_code 0 = .ok (.aload_n 1, 1) := by decide +kernel
theorem d11_1 : decode prog_29_method_6_code 1 = .ok (.instanceof 8, 3) := by decide +kernel
theorem d11_4 : decode prog_29_method_6_code 4 = .ok (.ifCond .eq 68, 3) := by decide +kernel
theorem d11_72 : decode prog_29_method_6_code 72 = .ok (.iconst 0, 1) := by decide +kernel
theorem d11_73 : decode prog_29_method_6_code 73 = .ok (.ireturn, 1) := by decide +kernel
theorem ef_rin (m : MethodId) (x0 : Addr) : entryFrame m #[(.ref x0), .null] 3 = mkF m 0 #[.val (.ref x0), .val .null, .unset] [] := by first | (simp [entryFrame, mkF, argsToLocals, Value.category]; done) | rfl
def Q_rin (Z : State) (a : Addr) (h0 : Heap) (n0 : Nat) (v : Option Value) (h : Heap) (L : List Loc) : Prop := v = some (.int (0 : Int32)) ∧ Fr n0 L ∧ h = h0
set_option maxRecDepth 65536 in
set_option maxHeartbeats 40000000 in
theorem rin (l : Launch) (Z : State) (a0 : Array Value) (hw : ∀ d ∈ tables_1, d.before a0 Z = true) (ws : List Jvm.Cond) (a : Addr) (h0 : Heap) (n0 : Nat) (Z0 : n0 ≤ h0.size)  :
    OCon l Z (⟨"com/example/zonewright/zonewright/storage/ServiceInstance", "equals", "(Ljava/lang/Object;)Z"⟩ : MethodName) prog_29_method_6_code 3 (some .boolean) ws ({ frames := 0, cells := 0, slots := 0, locals := 0 } : Room) #[(.ref a), .null] h0 (Q_rin Z a h0 n0) := by
  refine OCon.of (plainFor_of_name pn4) ?_
  intro p e s m below meth c s₁ Φ X0 hx hby hml hown hnm hret hlk hZ e0 hΦ
  have N0 := Fr.nil n0
  refine os (fun _ z => castTop (ef_rin m a) z) ?_
  show OG p e below Φ s₁ m 0 #[rv a, .val .null, .unset] []
  refine os (fun _ z => XS.aloadN X0.here hx rfl (hb hby d11_0) rfl rfl z) ?_
  show OG p e below Φ s₁ m 1 #[rv a, .val .null, .unset] [.null]
  refine os (X0.instanceofNull hx (g := (mkF m 1 #[rv a, .val .null, .unset] [.null])) rfl rfl (hb hby d11_1)) ?_
  show OG p e below Φ s₁ m 4 #[rv a, .val .null, .unset] [(.int 0)]
  refine os (fun _ z => XS.ifYes X0.here hx rfl (pc0 := 4) (pc' := 72) rfl (hb hby d11_4) rfl (XT.i0_eq_t (by decide)) (by decide) (by decide) z) ?_
  show OG p e below Φ s₁ m 72 #[rv a, .val .null, .unset] []
  refine os (fun _ z => XS.iconst X0.here hx rfl (hb hby d11_72) z) ?_
  show OG p e below Φ s₁ m 73 #[rv a, .val .null, .unset] [(.int 0)]
  refine OGo.fin X0 hlk (v := (some (.int 0))) (fun h => by rw [hret] at h; cases h) (by decide) (by decide) (fun fs hr => X0.ireturnOut hx hret rfl (by simp) (hb hby d11_73) hr) fun U eU hF => hΦ _ _ _ ?_ hF
  rw [eU, e0]
  show Q_rin Z a h0 n0 _ _ _
  exact ⟨rfl, N0, rfl⟩

theorem ef_ris (m : MethodId) (x0 : Addr) (x1 : Addr) : entryFrame m #[(.ref x0), (.ref x1)] 3 = mkF m 0 #[.val (.ref x0), .val (.ref x1), .unset] [] := by first | (simp [entryFrame, mkF, argsToLocals, Value.category]; done) | rfl
def Q_ris (Z : State) (a : Addr) (s_ : Addr) (h0 : Heap) (n0 : Nat) (v : Option Value) (h : Heap) (L : List Loc) : Prop := v = some (.int (0 : Int32)) ∧ Fr n0 L ∧ h = h0
set_option maxRecDepth 65536 in
set_option maxHeartbeats 40000000 in
theorem ris (l : Launch) (Z : State) (a0 : Array Value) (hw : ∀ d ∈ tables_1, d.before a0 Z = true) (ws : List Jvm.Cond) (a : Addr) (s_ : Addr) (h0 : Heap) (n0 : Nat) (Z0 : n0 ≤ h0.size) (E_s : Exa Z h0 s_ "java/lang/String") :
    OCon l Z (⟨"com/example/zonewright/zonewright/storage/ServiceInstance", "equals", "(Ljava/lang/Object;)Z"⟩ : MethodName) prog_29_method_6_code 3 (some .boolean) ws ({ frames := 0, cells := 0, slots := 0, locals := 0 } : Room) #[(.ref a), (.ref s_)] h0 (Q_ris Z a s_ h0 n0) := by
  refine OCon.of (plainFor_of_name pn4) ?_
  intro p e s m below meth c s₁ Φ X0 hx hby hml hown hnm hret hlk hZ e0 hΦ
  have N0 := Fr.nil n0
  refine os (fun _ z => castTop (ef_ris m a s_) z) ?_
  show OG p e below Φ s₁ m 0 #[rv a, rv s_, .unset] []
  refine os (fun _ z => XS.aloadN X0.here hx rfl (hb hby d11_0) rfl rfl z) ?_
  show OG p e below Φ s₁ m 1 #[rv a, rv s_, .unset] [(.ref s_)]
  obtain ⟨T1, X1, e1, st1⟩ := instNo X0 hx hZ hown (ow59 hw) e0 E_s (own_nsNo (ow90 hw) (ow1 hw) (NS.step (ow90 hw) (own_nsRoot (ow91 hw) (ow1 hw) (by decide)) (by decide)) (by decide)) (g := (mkF m 1 #[rv a, rv s_, .unset] [(.ref s_)])) rfl rfl (hb hby d11_1)
  refine os st1 ?_
  show OG p e below Φ T1 m 4 #[rv a, rv s_, .unset] [(.int 0)]
  refine os (fun _ z => XS.ifYes X1.here hx rfl (pc0 := 4) (pc' := 72) rfl (hb hby d11_4) rfl (XT.i0_eq_t (by decide)) (by decide) (by decide) z) ?_
  show OG p e below Φ T1 m 72 #[rv a, rv s_, .unset] []
  refine os (fun _ z => XS.iconst X1.here hx rfl (hb hby d11_72) z) ?_
  show OG p e below Φ T1 m 73 #[rv a, rv s_, .unset] [(.int 0)]
  refine OGo.fin X1 hlk (v := (some (.int 0))) (fun h => by rw [hret] at h; cases h) (by decide) (by decide) (fun fs hr => X1.ireturnOut hx hret rfl (by simp) (hb hby d11_73) hr) fun U eU hF => hΦ _ _ _ ?_ hF
  rw [eU, e1]
  show Q_ris Z a s_ h0 n0 _ _ _
  exact ⟨rfl, N0, rfl⟩

theorem d11_7 : decode prog_29_method_6_code 7 = .ok (.aload_n 1, 1) := by decide +kernel
theorem d11_8 : decode prog_29_method_6_code 8 = .ok (.checkcast 8, 3) := by decide +kernel
theorem d11_11 : decode prog_29_method_6_code 11 = .ok (.astore_n 2, 1) := by decide +kernel
theorem d11_12 : decode prog_29_method_6_code 12 = .ok (.aload_n 0, 1) := by decide +kernel
theorem d11_13 : decode prog_29_method_6_code 13 = .ok (.getfield 7, 3) := by decide +kernel
theorem d11_16 : decode prog_29_method_6_code 16 = .ok (.aload_n 2, 1) := by decide +kernel
theorem d11_17 : decode prog_29_method_6_code 17 = .ok (.getfield 7, 3) := by decide +kernel
theorem d11_20 : decode prog_29_method_6_code 20 = .ok (.invokevirtual 22, 3) := by decide +kernel
theorem pd11 : parseMethodDescriptor "(Ljava/lang/Object;)Z" = some ⟨[(.object "java/lang/Object")], some .boolean⟩ := by decide +kernel
theorem d11_23 : decode prog_29_method_6_code 23 = .ok (.ifCond .eq 49, 3) := by decide +kernel
theorem d11_26 : decode prog_29_method_6_code 26 = .ok (.aload_n 0, 1) := by decide +kernel
theorem d11_27 : decode prog_29_method_6_code 27 = .ok (.getfield 13, 3) := by decide +kernel
theorem d11_30 : decode prog_29_method_6_code 30 = .ok (.aload_n 2, 1) := by decide +kernel
theorem d11_31 : decode prog_29_method_6_code 31 = .ok (.getfield 13, 3) := by decide +kernel
theorem d11_34 : decode prog_29_method_6_code 34 = .ok (.invokevirtual 22, 3) := by decide +kernel
theorem d11_37 : decode prog_29_method_6_code 37 = .ok (.ifCond .eq 35, 3) := by decide +kernel
theorem d11_40 : decode prog_29_method_6_code 40 = .ok (.aload_n 0, 1) := by decide +kernel
theorem d11_41 : decode prog_29_method_6_code 41 = .ok (.getfield 16, 3) := by decide +kernel
theorem d11_44 : decode prog_29_method_6_code 44 = .ok (.aload_n 2, 1) := by decide +kernel
theorem d11_45 : decode prog_29_method_6_code 45 = .ok (.getfield 16, 3) := by decide +kernel
theorem d11_48 : decode prog_29_method_6_code 48 = .ok (.invokevirtual 22, 3) := by decide +kernel
theorem d11_51 : decode prog_29_method_6_code 51 = .ok (.ifCond .eq 21, 3) := by decide +kernel
theorem d11_54 : decode prog_29_method_6_code 54 = .ok (.aload_n 0, 1) := by decide +kernel
theorem d11_55 : decode prog_29_method_6_code 55 = .ok (.getfield 19, 3) := by decide +kernel
theorem d11_58 : decode prog_29_method_6_code 58 = .ok (.aload_n 2, 1) := by decide +kernel
theorem d11_59 : decode prog_29_method_6_code 59 = .ok (.getfield 19, 3) := by decide +kernel
theorem d11_62 : decode prog_29_method_6_code 62 = .ok (.invokevirtual 22, 3) := by decide +kernel
theorem d11_65 : decode prog_29_method_6_code 65 = .ok (.ifCond .eq 7, 3) := by decide +kernel
theorem d11_68 : decode prog_29_method_6_code 68 = .ok (.iconst 1, 1) := by decide +kernel
theorem d11_69 : decode prog_29_method_6_code 69 = .ok (.goto 4, 3) := by decide +kernel
theorem ef_rii (m : MethodId) (x0 : Addr) (x1 : Addr) : entryFrame m #[(.ref x0), (.ref x1)] 3 = mkF m 0 #[.val (.ref x0), .val (.ref x1), .unset] [] := by first | (simp [entryFrame, mkF, argsToLocals, Value.category]; done) | rfl
def Q_rii (Z : State) (a : Addr) (q0 : Addr) (q1 : Addr) (q2 : Addr) (q3 : Addr) (h0 : Heap) (n0 : Nat) (v : Option Value) (h : Heap) (L : List Loc) : Prop := v = some (.int (1 : Int32)) ∧ Fr n0 L ∧ h = h0
set_option maxRecDepth 65536 in
set_option maxHeartbeats 40000000 in
theorem rii (l : Launch) (Z : State) (a0 : Array Value) (hw : ∀ d ∈ tables_1, d.before a0 Z = true) (ws : List Jvm.Cond) (a : Addr) (q0 : Addr) (q1 : Addr) (q2 : Addr) (q3 : Addr) (h0 : Heap) (n0 : Nat) (Z0 : n0 ≤ h0.size) (E_a : Exa Z h0 a "com/example/zonewright/zonewright/storage/ServiceInstance") (F_a0 : Fld Z h0 a "com/example/zonewright/zonewright/storage/ServiceInstance" "id" "Ljava/lang/String;" (.ref q0)) (F_a1 : Fld Z h0 a "com/example/zonewright/zonewright/storage/ServiceInstance" "planId" "Ljava/lang/String;" (.ref q1)) (F_a2 : Fld Z h0 a "com/example/zonewright/zonewright/storage/ServiceInstance" "organizationGuid" "Ljava/lang/String;" (.ref q2)) (F_a3 : Fld Z h0 a "com/example/zonewright/zonewright/storage/ServiceInstance" "spaceGuid" "Ljava/lang/String;" (.ref q3)) (X_0 : Exa Z h0 q0 "java/lang/String") (X_1 : Exa Z h0 q1 "java/lang/String") (X_2 : Exa Z h0 q2 "java/lang/String") (X_3 : Exa Z h0 q3 "java/lang/String") :
    OCon l Z (⟨"com/example/zonewright/zonewright/storage/ServiceInstance", "equals", "(Ljava/lang/Object;)Z"⟩ : MethodName) prog_29_method_6_code 3 (some .boolean) ws ({ frames := 1, cells := 0, slots := 0, locals := 14 } : Room) #[(.ref a), (.ref a)] h0 (Q_rii Z a q0 q1 q2 q3 h0 n0) := by
  refine OCon.of (plainFor_of_name pn4) ?_
  intro p e s m below meth c s₁ Φ X0 hx hby hml hown hnm hret hlk hZ e0 hΦ
  have N0 := Fr.nil n0
  refine os (fun _ z => castTop (ef_rii m a a) z) ?_
  show OG p e below Φ s₁ m 0 #[rv a, rv a, .unset] []
  refine os (fun _ z => XS.aloadN X0.here hx rfl (hb hby d11_0) rfl rfl z) ?_
  show OG p e below Φ s₁ m 1 #[rv a, rv a, .unset] [(.ref a)]
  obtain ⟨T1, X1, e1, st1⟩ := instY X0 hx hZ hown (ow59 hw) e0 (Ins.self E_a) (g := (mkF m 1 #[rv a, rv a, .unset] [(.ref a)])) rfl rfl (hb hby d11_1)
  refine os st1 ?_
  show OG p e below Φ T1 m 4 #[rv a, rv a, .unset] [(.int 1)]
  refine os (fun _ z => XS.ifNo X1.here hx rfl (hb hby d11_4) rfl (XT.i0_eq_f (by decide)) z) ?_
  show OG p e below Φ T1 m 7 #[rv a, rv a, .unset] []
  refine os (fun _ z => XS.aloadN X1.here hx rfl (hb hby d11_7) rfl rfl z) ?_
  show OG p e below Φ T1 m 8 #[rv a, rv a, .unset] [(.ref a)]
  obtain ⟨T2, X2, e2, st2⟩ := castY X1 hx hZ hown (ow59 hw) e1 (Ins.self E_a) (g := (mkF m 8 #[rv a, rv a, .unset] [(.ref a)])) rfl rfl (hb hby d11_8)
  refine os st2 ?_
  show OG p e below Φ T2 m 11 #[rv a, rv a, .unset] [(.ref a)]
  refine os (fun _ z => XS.astoreN X2.here hx rfl (hb hby d11_11) rfl rfl (l' := #[rv a, rv a, rv a]) rfl z) ?_
  show OG p e below Φ T2 m 12 #[rv a, rv a, rv a] []
  refine os (fun _ z => XS.aloadN X2.here hx rfl (hb hby d11_12) rfl rfl z) ?_
  show OG p e below Φ T2 m 13 #[rv a, rv a, rv a] [(.ref a)]
  obtain ⟨T3, X3, e3, st3⟩ := getF X2 hx hZ hown (host := "") (Or.inl (ow40 hw)) Via.refl e2 F_a0 (g := (mkF m 13 #[rv a, rv a, rv a] [(.ref a)])) rfl rfl (hb hby d11_13)
  refine os st3 ?_
  show OG p e below Φ T3 m 16 #[rv a, rv a, rv a] [(.ref q0)]
  refine os (fun _ z => XS.aloadN X3.here hx rfl (hb hby d11_16) rfl rfl z) ?_
  show OG p e below Φ T3 m 17 #[rv a, rv a, rv a] [(.ref a), (.ref q0)]
  obtain ⟨T4, X4, e4, st4⟩ := getF X3 hx hZ hown (host := "") (Or.inl (ow40 hw)) Via.refl e3 F_a0 (g := (mkF m 17 #[rv a, rv a, rv a] [(.ref a), (.ref q0)])) rfl rfl (hb hby d11_17)
  refine os st4 ?_
  show OG p e below Φ T4 m 20 #[rv a, rv a, rv a] [(.ref q0), (.ref q0)]
  obtain ⟨_, T5, L5, X5, hQ5, st5⟩ := own_callVi X4 hx hZ hown (ow61 hw) (ow62 hw) (notFace_of_selects (args := #[]) (mvT hZ (ow64 hw))) (ow64 hw) (ow63 hw) (ow12 hw) (ow65 hw) (by decide) (rqS l Z a0 hw [] q0 h0 n0 Z0 ) e4 (W := 0) (by decide) (by decide) (by decide) (by decide) X_0 (pc := 20) (ls := #[rv a, rv a, rv a]) (stk := [(.ref q0), (.ref q0)]) (by rw [hml]; rfl) (argsL := [(.ref q0)]) (rest := []) (lenOf pd11 rfl) rfl rfl (Nat.le_of_eq rfl) (hb hby d11_20)
  obtain ⟨rfl, Nq5, e5⟩ := hQ5
  have N5 := Fr.app N0 Nq5
  refine os st5 ?_
  show OG p e below Φ T5 m 23 #[rv a, rv a, rv a] [(.int 1)]
  refine os (fun _ z => XS.ifNo X5.here hx rfl (hb hby d11_23) rfl (XT.i0_eq_f (by decide)) z) ?_
  show OG p e below Φ T5 m 26 #[rv a, rv a, rv a] []
  refine os (fun _ z => XS.aloadN X5.here hx rfl (hb hby d11_26) rfl rfl z) ?_
  show OG p e below Φ T5 m 27 #[rv a, rv a, rv a] [(.ref a)]
  obtain ⟨T6, X6, e6, st6⟩ := getF X5 hx hZ hown (host := "") (Or.inl (ow42 hw)) Via.refl e5 F_a1 (g := (mkF m 27 #[rv a, rv a, rv a] [(.ref a)])) rfl rfl (hb hby d11_27)
  refine os st6 ?_
  show OG p e below Φ T6 m 30 #[rv a, rv a, rv a] [(.ref q1)]
  refine os (fun _ z => XS.aloadN X6.here hx rfl (hb hby d11_30) rfl rfl z) ?_
  show OG p e below Φ T6 m 31 #[rv a, rv a, rv a] [(.ref a), (.ref q1)]
  obtain ⟨T7, X7, e7, st7⟩ := getF X6 hx hZ hown (host := "") (Or.inl (ow42 hw)) Via.refl e6 F_a1 (g := (mkF m 31 #[rv a, rv a, rv a] [(.ref a), (.ref q1)])) rfl rfl (hb hby d11_31)
  refine os st7 ?_
  show OG p e below Φ T7 m 34 #[rv a, rv a, rv a] [(.ref q1), (.ref q1)]
  obtain ⟨_, T8, L8, X8, hQ8, st8⟩ := own_callVi X7 hx hZ hown (ow61 hw) (ow62 hw) (notFace_of_selects (args := #[]) (mvT hZ (ow64 hw))) (ow64 hw) (ow63 hw) (ow12 hw) (ow65 hw) (by decide) (rqS l Z a0 hw [] q1 h0 n0 Z0 ) e7 (W := 0) (by decide) (by decide) (by decide) (by decide) X_1 (pc := 34) (ls := #[rv a, rv a, rv a]) (stk := [(.ref q1), (.ref q1)]) (by rw [hml]; rfl) (argsL := [(.ref q1)]) (rest := []) (lenOf pd11 rfl) rfl rfl (Nat.le_of_eq rfl) (hb hby d11_34)
  obtain ⟨rfl, Nq8, e8⟩ := hQ8
  have N8 := Fr.app N5 Nq8
  refine os st8 ?_
  show OG p e below Φ T8 m 37 #[rv a, rv a, rv a] [(.int 1)]
  refine os (fun _ z => XS.ifNo X8.here hx rfl (hb hby d11_37) rfl (XT.i0_eq_f (by decide)) z) ?_
  show OG p e below Φ T8 m 40 #[rv a, rv a, rv a] []
  refine os (fun _ z => XS.aloadN X8.here hx rfl (hb hby d11_40) rfl rfl z) ?_
  show OG p e below Φ T8 m 41 #[rv a, rv a, rv a] [(.ref a)]
  obtain ⟨T9, X9, e9, st9⟩ := getF X8 hx hZ hown (host := "") (Or.inl (ow44 hw)) Via.refl e8 F_a2 (g := (mkF m 41 #[rv a, rv a, rv a] [(.ref a)])) rfl rfl (hb hby d11_41)
  refine os st9 ?_
  show OG p e below Φ T9 m 44 #[rv a, rv a, rv a] [(.ref q2)]
  refine os (fun _ z => XS.aloadN X9.here hx rfl (hb hby d11_44) rfl rfl z) ?_
  show OG p e below Φ T9 m 45 #[rv a, rv a, rv a] [(.ref a), (.ref q2)]
  obtain ⟨T10, X10, e10, st10⟩ := getF X9 hx hZ hown (host := "") (Or.inl (ow44 hw)) Via.refl e9 F_a2 (g := (mkF m 45 #[rv a, rv a, rv a] [(.ref a), (.ref q2)])) rfl rfl (hb hby d11_45)
  refine os st10 ?_
  show OG p e below Φ T10 m 48 #[rv a, rv a, rv a] [(.ref q2), (.ref q2)]
  obtain ⟨_, T11, L11, X11, hQ11, st11⟩ := own_callVi X10 hx hZ hown (ow61 hw) (ow62 hw) (notFace_of_selects (args := #[]) (mvT hZ (ow64 hw))) (ow64 hw) (ow63 hw) (ow12 hw) (ow65 hw) (by decide) (rqS l Z a0 hw [] q2 h0 n0 Z0 ) e10 (W := 0) (by decide) (by decide) (by decide) (by decide) X_2 (pc := 48) (ls := #[rv a, rv a, rv a]) (stk := [(.ref q2), (.ref q2)]) (by rw [hml]; rfl) (argsL := [(.ref q2)]) (rest := []) (lenOf pd11 rfl) rfl rfl (Nat.le_of_eq rfl) (hb hby d11_48)
  obtain ⟨rfl, Nq11, e11⟩ := hQ11
  have N11 := Fr.app N8 Nq11
  refine os st11 ?_
  show OG p e below Φ T11 m 51 #[rv a, rv a, rv a] [(.int 1)]
  refine os (fun _ z => XS.ifNo X11.here hx rfl (hb hby d11_51) rfl (XT.i0_eq_f (by decide)) z) ?_
  show OG p e below Φ T11 m 54 #[rv a, rv a, rv a] []
  refine os (fun _ z => XS.aloadN X11.here hx rfl (hb hby d11_54) rfl rfl z) ?_
  show OG p e below Φ T11 m 55 #[rv a, rv a, rv a] [(.ref a)]
  obtain ⟨T12, X12, e12, st12⟩ := getF X11 hx hZ hown (host := "") (Or.inl (ow46 hw)) Via.refl e11 F_a3 (g := (mkF m 55 #[rv a, rv a, rv a] [(.ref a)])) rfl rfl (hb hby d11_55)
  refine os st12 ?_
  show OG p e below Φ T12 m 58 #[rv a, rv a, rv a] [(.ref q3)]
  refine os (fun _ z => XS.aloadN X12.here hx rfl (hb hby d11_58) rfl rfl z) ?_
  show OG p e below Φ T12 m 59 #[rv a, rv a, rv a] [(.ref a), (.ref q3)]
  obtain ⟨T13, X13, e13, st13⟩ := getF X12 hx hZ hown (host := "") (Or.inl (ow46 hw)) Via.refl e12 F_a3 (g := (mkF m 59 #[rv a, rv a, rv a] [(.ref a), (.ref q3)])) rfl rfl (hb hby d11_59)
  refine os st13 ?_
  show OG p e below Φ T13 m 62 #[rv a, rv a, rv a] [(.ref q3), (.ref q3)]
  obtain ⟨_, T14, L14, X14, hQ14, st14⟩ := own_callVi X13 hx hZ hown (ow61 hw) (ow62 hw) (notFace_of_selects (args := #[]) (mvT hZ (ow64 hw))) (ow64 hw) (ow63 hw) (ow12 hw) (ow65 hw) (by decide) (rqS l Z a0 hw [] q3 h0 n0 Z0 ) e13 (W := 0) (by decide) (by decide) (by decide) (by decide) X_3 (pc := 62) (ls := #[rv a, rv a, rv a]) (stk := [(.ref q3), (.ref q3)]) (by rw [hml]; rfl) (argsL := [(.ref q3)]) (rest := []) (lenOf pd11 rfl) rfl rfl (Nat.le_of_eq rfl) (hb hby d11_62)
  obtain ⟨rfl, Nq14, e14⟩ := hQ14
  have N14 := Fr.app N11 Nq14
  refine os st14 ?_
  show OG p e below Φ T14 m 65 #[rv a, rv a, rv a] [(.int 1)]
  refine os (fun _ z => XS.ifNo X14.here hx rfl (hb hby d11_65) rfl (XT.i0_eq_f (by decide)) z) ?_
  show OG p e below Φ T14 m 68 #[rv a, rv a, rv a] []
  refine os (fun _ z => XS.iconst X14.here hx rfl (hb hby d11_68) z) ?_
  show OG p e below Φ T14 m 69 #[rv a, rv a, rv a] [(.int 1)]
  refine os (fun _ z => XS.goto X14.here hx rfl (pc0 := 69) (pc' := 73) rfl (hb hby d11_69) (by decide) (by decide) z) ?_
  show OG p e below Φ T14 m 73 #[rv a, rv a, rv a] [(.int 1)]
  refine OGo.fin X14 hlk (v := (some (.int 1))) (fun h => by rw [hret] at h; cases h) (by decide) (by decide) (fun fs hr => X14.ireturnOut hx hret rfl (by simp) (hb hby d11_73) hr) fun U eU hF => hΦ _ _ _ ?_ hF
  rw [eU, e14]
  show Q_rii Z a q0 q1 q2 q3 h0 n0 _ _ _
  exact ⟨rfl, N14, rfl⟩

theorem ef_rio (m : MethodId) (x0 : Addr) (x1 : Addr) : entryFrame m #[(.ref x0), (.ref x1)] 3 = mkF m 0 #[.val (.ref x0), .val (.ref x1), .unset] [] := by first | (simp [entryFrame, mkF, argsToLocals, Value.category]; done) | rfl
def Q_rio (Z : State) (a : Addr) (b : Addr) (q0 : Addr) (q1 : Addr) (q2 : Addr) (q3 : Addr) (r0 : Addr) (r1 : Addr) (r2 : Addr) (r3 : Addr) (x0 : Int32) (x1 : Int32) (x2 : Int32) (x3 : Int32) (t0 : Int32) (t1 : Int32) (t2 : Int32) (t3 : Int32) (y0 : Int32) (y1 : Int32) (y2 : Int32) (y3 : Int32) (qc : Int32) (h0 : Heap) (n0 : Nat) (v : Option Value) (h : Heap) (L : List Loc) : Prop := v = some (.int (own_4 (own_eq t0 x0 y0) (own_eq t1 x1 y1) (own_eq t2 x2 y2) (own_eq t3 x3 y3))) ∧ Fr n0 L ∧ h = h0
set_option maxRecDepth 65536 in
set_option maxHeartbeats 40000000 in
theorem rio (l : Launch) (Z : State) (a0 : Array Value) (hw : ∀ d ∈ tables_1, d.before a0 Z = true) (ws : List Jvm.Cond) (a : Addr) (b : Addr) (q0 : Addr) (q1 : Addr) (q2 : Addr) (q3 : Addr) (r0 : Addr) (r1 : Addr) (r2 : Addr) (r3 : Addr) (x0 : Int32) (x1 : Int32) (x2 : Int32) (x3 : Int32) (t0 : Int32) (t1 : Int32) (t2 : Int32) (t3 : Int32) (y0 : Int32) (y1 : Int32) (y2 : Int32) (y3 : Int32) (qc : Int32) (h0 : Heap) (n0 : Nat) (Z0 : n0 ≤ h0.size) (E_a : Exa Z h0 a "com/example/zonewright/zonewright/storage/ServiceInstance") (E_b : Exa Z h0 b "com/example/zonewright/zonewright/storage/ServiceInstance") (S_q : Sta Z h0 "java/lang/String" "COMPACT_STRINGS" "Z" (.int qc)) (hq : ¬ qc = 0) (F_a0 : Fld Z h0 a "com/example/zonewright/zonewright/storage/ServiceInstance" "id" "Ljava/lang/String;" (.ref q0)) (F_a1 : Fld Z h0 a "com/example/zonewright/zonewright/storage/ServiceInstance" "planId" "Ljava/lang/String;" (.ref q1)) (F_a2 : Fld Z h0 a "com/example/zonewright/zonewright/storage/ServiceInstance" "organizationGuid" "Ljava/lang/String;" (.ref q2)) (F_a3 : Fld Z h0 a "com/example/zonewright/zonewright/storage/ServiceInstance" "spaceGuid" "Ljava/lang/String;" (.ref q3)) (F_b0 : Fld Z h0 b "com/example/zonewright/zonewright/storage/ServiceInstance" "id" "Ljava/lang/String;" (.ref r0)) (F_b1 : Fld Z h0 b "com/example/zonewright/zonewright/storage/ServiceInstance" "planId" "Ljava/lang/String;" (.ref r1)) (F_b2 : Fld Z h0 b "com/example/zonewright/zonewright/storage/ServiceInstance" "organizationGuid" "Ljava/lang/String;" (.ref r2)) (F_b3 : Fld Z h0 b "com/example/zonewright/zonewright/storage/ServiceInstance" "spaceGuid" "Ljava/lang/String;" (.ref r3)) (T_a0 : TStr Z h0 q0 1 x0) (T_b0 : TStr Z h0 r0 t0 y0) (nn0 : q0 ≠ r0) (T_a1 : TStr Z h0 q1 1 x1) (T_b1 : TStr Z h0 r1 t1 y1) (nn1 : q1 ≠ r1) (T_a2 : TStr Z h0 q2 1 x2) (T_b2 : TStr Z h0 r2 t2 y2) (nn2 : q2 ≠ r2) (T_a3 : TStr Z h0 q3 1 x3) (T_b3 : TStr Z h0 r3 t3 y3) (nn3 : q3 ≠ r3) :
    OCon l Z (⟨"com/example/zonewright/zonewright/storage/ServiceInstance", "equals", "(Ljava/lang/Object;)Z"⟩ : MethodName) prog_29_method_6_code 3 (some .boolean) ws ({ frames := 2, cells := 0, slots := 0, locals := 28 } : Room) #[(.ref a), (.ref b)] h0 (Q_rio Z a b q0 q1 q2 q3 r0 r1 r2 r3 x0 x1 x2 x3 t0 t1 t2 t3 y0 y1 y2 y3 qc h0 n0) := by
  refine OCon.of (plainFor_of_name pn4) ?_
  intro p e s m below meth c s₁ Φ X0 hx hby hml hown hnm hret hlk hZ e0 hΦ
  have N0 := Fr.nil n0
  refine os (fun _ z => castTop (ef_rio m a b) z) ?_
  show OG p e below Φ s₁ m 0 #[rv a, rv b, .unset] []
  refine os (fun _ z => XS.aloadN X0.here hx rfl (hb hby d11_0) rfl rfl z) ?_
  show OG p e below Φ s₁ m 1 #[rv a, rv b, .unset] [(.ref b)]
  obtain ⟨T1, X1, e1, st1⟩ := instY X0 hx hZ hown (ow59 hw) e0 (Ins.self E_b) (g := (mkF m 1 #[rv a, rv b, .unset] [(.ref b)])) rfl rfl (hb hby d11_1)
  refine os st1 ?_
  show OG p e below Φ T1 m 4 #[rv a, rv b, .unset] [(.int 1)]
  refine os (fun _ z => XS.ifNo X1.here hx rfl (hb hby d11_4) rfl (XT.i0_eq_f (by decide)) z) ?_
  show OG p e below Φ T1 m 7 #[rv a, rv b, .unset] []
  refine os (fun _ z => XS.aloadN X1.here hx rfl (hb hby d11_7) rfl rfl z) ?_
  show OG p e below Φ T1 m 8 #[rv a, rv b, .unset] [(.ref b)]
  obtain ⟨T2, X2, e2, st2⟩ := castY X1 hx hZ hown (ow59 hw) e1 (Ins.self E_b) (g := (mkF m 8 #[rv a, rv b, .unset] [(.ref b)])) rfl rfl (hb hby d11_8)
  refine os st2 ?_
  show OG p e below Φ T2 m 11 #[rv a, rv b, .unset] [(.ref b)]
  refine os (fun _ z => XS.astoreN X2.here hx rfl (hb hby d11_11) rfl rfl (l' := #[rv a, rv b, rv b]) rfl z) ?_
  show OG p e below Φ T2 m 12 #[rv a, rv b, rv b] []
  refine os (fun _ z => XS.aloadN X2.here hx rfl (hb hby d11_12) rfl rfl z) ?_
  show OG p e below Φ T2 m 13 #[rv a, rv b, rv b] [(.ref a)]
  obtain ⟨T3, X3, e3, st3⟩ := getF X2 hx hZ hown (host := "") (Or.inl (ow40 hw)) Via.refl e2 F_a0 (g := (mkF m 13 #[rv a, rv b, rv b] [(.ref a)])) rfl rfl (hb hby d11_13)
  refine os st3 ?_
  show OG p e below Φ T3 m 16 #[rv a, rv b, rv b] [(.ref q0)]
  refine os (fun _ z => XS.aloadN X3.here hx rfl (hb hby d11_16) rfl rfl z) ?_
  show OG p e below Φ T3 m 17 #[rv a, rv b, rv b] [(.ref b), (.ref q0)]
  obtain ⟨T4, X4, e4, st4⟩ := getF X3 hx hZ hown (host := "") (Or.inl (ow40 hw)) Via.refl e3 F_b0 (g := (mkF m 17 #[rv a, rv b, rv b] [(.ref b), (.ref q0)])) rfl rfl (hb hby d11_17)
  refine os st4 ?_
  show OG p e below Φ T4 m 20 #[rv a, rv b, rv b] [(.ref r0), (.ref q0)]
  obtain ⟨_, T5, L5, X5, hQ5, st5⟩ := own_callVi X4 hx hZ hown (ow61 hw) (ow62 hw) (notFace_of_selects (args := #[]) (mvT hZ (ow64 hw))) (ow64 hw) (ow63 hw) (ow12 hw) (ow65 hw) (by decide) (rqe l Z a0 hw [] q0 r0 x0 t0 y0 qc h0 n0 Z0 T_a0 T_b0 nn0 S_q hq) e4 (W := 0) (by decide) (by decide) (by decide) (by decide) T_a0.1 (pc := 20) (ls := #[rv a, rv b, rv b]) (stk := [(.ref r0), (.ref q0)]) (by rw [hml]; rfl) (argsL := [(.ref r0)]) (rest := []) (lenOf pd11 rfl) rfl rfl (Nat.le_of_eq rfl) (hb hby d11_20)
  obtain ⟨rfl, Nq5, e5⟩ := hQ5
  have N5 := Fr.app N0 Nq5
  refine os st5 ?_
  show OG p e below Φ T5 m 23 #[rv a, rv b, rv b] [(.int (own_eq t0 x0 y0))]
  by_cases hc6 : (own_eq t0 x0 y0) = 0
  · refine os (fun _ z => XS.ifYes X5.here hx rfl (pc0 := 23) (pc' := 72) rfl (hb hby d11_23) rfl (XT.i0_eq_t hc6) (by decide) (by decide) z) ?_
    show OG p e below Φ T5 m 72 #[rv a, rv b, rv b] []
    refine os (fun _ z => XS.iconst X5.here hx rfl (hb hby d11_72) z) ?_
    show OG p e below Φ T5 m 73 #[rv a, rv b, rv b] [(.int 0)]
    refine OGo.fin X5 hlk (v := (some (.int 0))) (fun h => by rw [hret] at h; cases h) (by decide) (by decide) (fun fs hr => X5.ireturnOut hx hret rfl (by simp) (hb hby d11_73) hr) fun U eU hF => hΦ _ _ _ ?_ hF
    rw [eU, e5]
    show Q_rio Z a b q0 q1 q2 q3 r0 r1 r2 r3 x0 x1 x2 x3 t0 t1 t2 t3 y0 y1 y2 y3 qc h0 n0 _ _ _
    exact ⟨by simp [own_4, hc6], N5, rfl⟩
  · refine os (fun _ z => XS.ifNo X5.here hx rfl (hb hby d11_23) rfl (XT.i0_eq_f hc6) z) ?_
    show OG p e below Φ T5 m 26 #[rv a, rv b, rv b] []
    refine os (fun _ z => XS.aloadN X5.here hx rfl (hb hby d11_26) rfl rfl z) ?_
    show OG p e below Φ T5 m 27 #[rv a, rv b, rv b] [(.ref a)]
    obtain ⟨T7, X7, e7, st7⟩ := getF X5 hx hZ hown (host := "") (Or.inl (ow42 hw)) Via.refl e5 F_a1 (g := (mkF m 27 #[rv a, rv b, rv b] [(.ref a)])) rfl rfl (hb hby d11_27)
    refine os st7 ?_
    show OG p e below Φ T7 m 30 #[rv a, rv b, rv b] [(.ref q1)]
    refine os (fun _ z => XS.aloadN X7.here hx rfl (hb hby d11_30) rfl rfl z) ?_
    show OG p e below Φ T7 m 31 #[rv a, rv b, rv b] [(.ref b), (.ref q1)]
    obtain ⟨T8, X8, e8, st8⟩ := getF X7 hx hZ hown (host := "") (Or.inl (ow42 hw)) Via.refl e7 F_b1 (g := (mkF m 31 #[rv a, rv b, rv b] [(.ref b), (.ref q1)])) rfl rfl (hb hby d11_31)
    refine os st8 ?_
    show OG p e below Φ T8 m 34 #[rv a, rv b, rv b] [(.ref r1), (.ref q1)]
    obtain ⟨_, T9, L9, X9, hQ9, st9⟩ := own_callVi X8 hx hZ hown (ow61 hw) (ow62 hw) (notFace_of_selects (args := #[]) (mvT hZ (ow64 hw))) (ow64 hw) (ow63 hw) (ow12 hw) (ow65 hw) (by decide) (rqe l Z a0 hw [] q1 r1 x1 t1 y1 qc h0 n0 Z0 T_a1 T_b1 nn1 S_q hq) e8 (W := 0) (by decide) (by decide) (by decide) (by decide) T_a1.1 (pc := 34) (ls := #[rv a, rv b, rv b]) (stk := [(.ref r1), (.ref q1)]) (by rw [hml]; rfl) (argsL := [(.ref r1)]) (rest := []) (lenOf pd11 rfl) rfl rfl (Nat.le_of_eq rfl) (hb hby d11_34)
    obtain ⟨rfl, Nq9, e9⟩ := hQ9
    have N9 := Fr.app N5 Nq9
    refine os st9 ?_
    show OG p e below Φ T9 m 37 #[rv a, rv b, rv b] [(.int (own_eq t1 x1 y1))]
    by_cases hc10 : (own_eq t1 x1 y1) = 0
    · refine os (fun _ z => XS.ifYes X9.here hx rfl (pc0 := 37) (pc' := 72) rfl (hb hby d11_37) rfl (XT.i0_eq_t hc10) (by decide) (by decide) z) ?_
      show OG p e below Φ T9 m 72 #[rv a, rv b, rv b] []
      refine os (fun _ z => XS.iconst X9.here hx rfl (hb hby d11_72) z) ?_
      show OG p e below Φ T9 m 73 #[rv a, rv b, rv b] [(.int 0)]
      refine OGo.fin X9 hlk (v := (some (.int 0))) (fun h => by rw [hret] at h; cases h) (by decide) (by decide) (fun fs hr => X9.ireturnOut hx hret rfl (by simp) (hb hby d11_73) hr) fun U eU hF => hΦ _ _ _ ?_ hF
      rw [eU, e9]
      show Q_rio Z a b q0 q1 q2 q3 r0 r1 r2 r3 x0 x1 x2 x3 t0 t1 t2 t3 y0 y1 y2 y3 qc h0 n0 _ _ _
      exact ⟨by simp [own_4, hc6, hc10], N9, rfl⟩
    · refine os (fun _ z => XS.ifNo X9.here hx rfl (hb hby d11_37) rfl (XT.i0_eq_f hc10) z) ?_
      show OG p e below Φ T9 m 40 #[rv a, rv b, rv b] []
      refine os (fun _ z => XS.aloadN X9.here hx rfl (hb hby d11_40) rfl rfl z) ?_
      show OG p e below Φ T9 m 41 #[rv a, rv b, rv b] [(.ref a)]
      obtain ⟨T11, X11, e11, st11⟩ := getF X9 hx hZ hown (host := "") (Or.inl (ow44 hw)) Via.refl e9 F_a2 (g := (mkF m 41 #[rv a, rv b, rv b] [(.ref a)])) rfl rfl (hb hby d11_41)
      refine os st11 ?_
      show OG p e below Φ T11 m 44 #[rv a, rv b, rv b] [(.ref q2)]
      refine os (fun _ z => XS.aloadN X11.here hx rfl (hb hby d11_44) rfl rfl z) ?_
      show OG p e below Φ T11 m 45 #[rv a, rv b, rv b] [(.ref b), (.ref q2)]
      obtain ⟨T12, X12, e12, st12⟩ := getF X11 hx hZ hown (host := "") (Or.inl (ow44 hw)) Via.refl e11 F_b2 (g := (mkF m 45 #[rv a, rv b, rv b] [(.ref b), (.ref q2)])) rfl rfl (hb hby d11_45)
      refine os st12 ?_
      show OG p e below Φ T12 m 48 #[rv a, rv b, rv b] [(.ref r2), (.ref q2)]
      obtain ⟨_, T13, L13, X13, hQ13, st13⟩ := own_callVi X12 hx hZ hown (ow61 hw) (ow62 hw) (notFace_of_selects (args := #[]) (mvT hZ (ow64 hw))) (ow64 hw) (ow63 hw) (ow12 hw) (ow65 hw) (by decide) (rqe l Z a0 hw [] q2 r2 x2 t2 y2 qc h0 n0 Z0 T_a2 T_b2 nn2 S_q hq) e12 (W := 0) (by decide) (by decide) (by decide) (by decide) T_a2.1 (pc := 48) (ls := #[rv a, rv b, rv b]) (stk := [(.ref r2), (.ref q2)]) (by rw [hml]; rfl) (argsL := [(.ref r2)]) (rest := []) (lenOf pd11 rfl) rfl rfl (Nat.le_of_eq rfl) (hb hby d11_48)
      obtain ⟨rfl, Nq13, e13⟩ := hQ13
      have N13 := Fr.app N9 Nq13
      refine os st13 ?_
      show OG p e below Φ T13 m 51 #[rv a, rv b, rv b] [(.int (own_eq t2 x2 y2))]
      by_cases hc14 : (own_eq t2 x2 y2) = 0
      · refine os (fun _ z => XS.ifYes X13.here hx rfl (pc0 := 51) (pc' := 72) rfl (hb hby d11_51) rfl (XT.i0_eq_t hc14) (by decide) (by decide) z) ?_
        show OG p e below Φ T13 m 72 #[rv a, rv b, rv b] []
        refine os (fun _ z => XS.iconst X13.here hx rfl (hb hby d11_72) z) ?_
        show OG p e below Φ T13 m 73 #[rv a, rv b, rv b] [(.int 0)]
        refine OGo.fin X13 hlk (v := (some (.int 0))) (fun h => by rw [hret] at h; cases h) (by decide) (by decide) (fun fs hr => X13.ireturnOut hx hret rfl (by simp) (hb hby d11_73) hr) fun U eU hF => hΦ _ _ _ ?_ hF
        rw [eU, e13]
        show Q_rio Z a b q0 q1 q2 q3 r0 r1 r2 r3 x0 x1 x2 x3 t0 t1 t2 t3 y0 y1 y2 y3 qc h0 n0 _ _ _
        exact ⟨by simp [own_4, hc6, hc10, hc14], N13, rfl⟩
      · refine os (fun _ z => XS.ifNo X13.here hx rfl (hb hby d11_51) rfl (XT.i0_eq_f hc14) z) ?_
        show OG p e below Φ T13 m 54 #[rv a, rv b, rv b] []
        refine os (fun _ z => XS.aloadN X13.here hx rfl (hb hby d11_54) rfl rfl z) ?_
        show OG p e below Φ T13 m 55 #[rv a, rv b, rv b] [(.ref a)]
        obtain ⟨T15, X15, e15, st15⟩ := getF X13 hx hZ hown (host := "") (Or.inl (ow46 hw)) Via.refl e13 F_a3 (g := (mkF m 55 #[rv a, rv b, rv b] [(.ref a)])) rfl rfl (hb hby d11_55)
        refine os st15 ?_
        show OG p e below Φ T15 m 58 #[rv a, rv b, rv b] [(.ref q3)]
        refine os (fun _ z => XS.aloadN X15.here hx rfl (hb hby d11_58) rfl rfl z) ?_
        show OG p e below Φ T15 m 59 #[rv a, rv b, rv b] [(.ref b), (.ref q3)]
        obtain ⟨T16, X16, e16, st16⟩ := getF X15 hx hZ hown (host := "") (Or.inl (ow46 hw)) Via.refl e15 F_b3 (g := (mkF m 59 #[rv a, rv b, rv b] [(.ref b), (.ref q3)])) rfl rfl (hb hby d11_59)
        refine os st16 ?_
        show OG p e below Φ T16 m 62 #[rv a, rv b, rv b] [(.ref r3), (.ref q3)]
        obtain ⟨_, T17, L17, X17, hQ17, st17⟩ := own_callVi X16 hx hZ hown (ow61 hw) (ow62 hw) (notFace_of_selects (args := #[]) (mvT hZ (ow64 hw))) (ow64 hw) (ow63 hw) (ow12 hw) (ow65 hw) (by decide) (rqe l Z a0 hw [] q3 r3 x3 t3 y3 qc h0 n0 Z0 T_a3 T_b3 nn3 S_q hq) e16 (W := 0) (by decide) (by decide) (by decide) (by decide) T_a3.1 (pc := 62) (ls := #[rv a, rv b, rv b]) (stk := [(.ref r3), (.ref q3)]) (by rw [hml]; rfl) (argsL := [(.ref r3)]) (rest := []) (lenOf pd11 rfl) rfl rfl (Nat.le_of_eq rfl) (hb hby d11_62)
        obtain ⟨rfl, Nq17, e17⟩ := hQ17
        have N17 := Fr.app N13 Nq17
        refine os st17 ?_
        show OG p e below Φ T17 m 65 #[rv a, rv b, rv b] [(.int (own_eq t3 x3 y3))]
        by_cases hc18 : (own_eq t3 x3 y3) = 0
        · refine os (fun _ z => XS.ifYes X17.here hx rfl (pc0 := 65) (pc' := 72) rfl (hb hby d11_65) rfl (XT.i0_eq_t hc18) (by decide) (by decide) z) ?_
          show OG p e below Φ T17 m 72 #[rv a, rv b, rv b] []
          refine os (fun _ z => XS.iconst X17.here hx rfl (hb hby d11_72) z) ?_
          show OG p e below Φ T17 m 73 #[rv a, rv b, rv b] [(.int 0)]
          refine OGo.fin X17 hlk (v := (some (.int 0))) (fun h => by rw [hret] at h; cases h) (by decide) (by decide) (fun fs hr => X17.ireturnOut hx hret rfl (by simp) (hb hby d11_73) hr) fun U eU hF => hΦ _ _ _ ?_ hF
          rw [eU, e17]
          show Q_rio Z a b q0 q1 q2 q3 r0 r1 r2 r3 x0 x1 x2 x3 t0 t1 t2 t3 y0 y1 y2 y3 qc h0 n0 _ _ _
          exact ⟨by simp [own_4, hc6, hc10, hc14, hc18], N17, rfl⟩
        · refine os (fun _ z => XS.ifNo X17.here hx rfl (hb hby d11_65) rfl (XT.i0_eq_f hc18) z) ?_
          show OG p e below Φ T17 m 68 #[rv a, rv b, rv b] []
          refine os (fun _ z => XS.iconst X17.here hx rfl (hb hby d11_68) z) ?_
          show OG p e below Φ T17 m 69 #[rv a, rv b, rv b] [(.int 1)]
          refine os (fun _ z => XS.goto X17.here hx rfl (pc0 := 69) (pc' := 73) rfl (hb hby d11_69) (by decide) (by decide) z) ?_
          show OG p e below Φ T17 m 73 #[rv a, rv b, rv b] [(.int 1)]
          refine OGo.fin X17 hlk (v := (some (.int 1))) (fun h => by rw [hret] at h; cases h) (by decide) (by decide) (fun fs hr => X17.ireturnOut hx hret rfl (by simp) (hb hby d11_73) hr) fun U eU hF => hΦ _ _ _ ?_ hF
          rw [eU, e17]
          show Q_rio Z a b q0 q1 q2 q3 r0 r1 r2 r3 x0 x1 x2 x3 t0 t1 t2 t3 y0 y1 y2 y3 qc h0 n0 _ _ _
          exact ⟨by simp [own_4, hc6, hc10, hc14, hc18], N17, rfl⟩

theorem pd12 : parseMethodDescriptor "(I)Ljava/lang/String;" = some ⟨[.int], some (.object "java/lang/String")⟩ := by decide +kernel
theorem pd13 : parseMethodDescriptor "(Ljava/lang/String;Ljava/lang/String;Ljava/lang/String;Ljava/lang/String;)V" = some ⟨[(.object "java/lang/String"), (.object "java/lang/String"), (.object "java/lang/String"), (.object "java/lang/String")], none⟩ := by decide +kernel
theorem pd14 : parseMethodDescriptor "(II)Ljava/lang/String;" = some ⟨[.int, .int], some (.object "java/lang/String")⟩ := by decide +kernel
theorem pd15 : parseMethodDescriptor "(II)Z" = some ⟨[.int, .int], some .boolean⟩ := by decide +kernel
theorem ef_rm0 (m : MethodId) (x0 : Int32) (x1 : Int32) (x2 : Int32) (x3 : Int32) (x4 : Int32) : entryFrame m #[(.int x0), (.int x1), (.int x2), (.int x3), (.int x4)] maxLocals = mkF m 0 #[.val (.int x0), .val (.int x1), .val (.int x2), .val (.int x3), .val (.int x4), .unset, .unset, .unset, .unset, .unset, .unset, .unset, .unset] [] := by first | (simp [entryFrame, mkF, argsToLocals, Value.category, maxLocals]; done) | rfl
def Q_rm0 (Z : State) (x0_ : Int32) (x1_ : Int32) (x2_ : Int32) (x3_ : Int32) (x4_ : Int32) (qc : Int32) (h0 : Heap) (n0 : Nat) (v : Option Value) (h : Heap) (L : List Loc) : Prop := v = some (.int (1 : Int32)) ∧ Fr n0 L
set_option maxRecDepth 65536 in
set_option maxHeartbeats 40000000 in
theorem rm0 (l : Launch) (Z : State) (a0 : Array Value) (hw : ∀ d ∈ tables_1, d.before a0 Z = true) (ws : List Jvm.Cond) (x0_ : Int32) (x1_ : Int32) (x2_ : Int32) (x3_ : Int32) (x4_ : Int32) (qc : Int32) (h0 : Heap) (n0 : Nat) (Z0 : n0 ≤ h0.size) (O_0 : Old Z n0 h0) (S_cs : Sta Z Z.heap "java/lang/String" "COMPACT_STRINGS" "Z" (.int qc)) (hq : ¬ qc = 0) :
    OConW l Z own_EL x code maxLocals ret ws room_1 #[(.int x0_), (.int x1_), (.int x2_), (.int x3_), (.int x4_)] h0 [] (Q_rm0 Z x0_ x1_ x2_ x3_ x4_ qc h0 n0) := by
  refine OConW.of (plainFor_of_name pn0) ?_
  intro p e s m below meth c s₁ Φ X0 hx hby hml hown hnm hret hlk hZ e0 hS hkk hC hsf hΦ
  have N0 := Fr.nil n0
  refine os (fun _ z => castTop (ef_rm0 m x0_ x1_ x2_ x3_ x4_) z) ?_
  show OG p e below Φ s₁ m 0 #[iv x0_, iv x1_, iv x2_, iv x3_, iv x4_, .unset, .unset, .unset, .unset, .unset, .unset, .unset, .unset] []
  obtain ⟨T1, h1, X1, e1, E1, A1, D1, U1, st1⟩ := newO X0 hx hZ hown (ow0 hw) (ow1 hw) (ow2 hw) e0 (g := (mkF m 0 #[iv x0_, iv x1_, iv x2_, iv x3_, iv x4_, .unset, .unset, .unset, .unset, .unset, .unset, .unset, .unset] [])) rfl (hb hby at_0) (by decide) (by decide)
  obtain ⟨b1, g1⟩ : ∃ z, z = h0.size := ⟨_, rfl⟩
  rw [← g1] at A1 D1 st1 U1
  have F2 := O_0.ext E1
  have gb1 : n0 ≤ b1 := Nat.le_trans Z0 (Nat.le_of_eq g1.symm)
  have Zs1 : n0 ≤ h1.size := Nat.le_trans Z0 E1.1
  have F1_41 : Fld Z h1 b1 "com/example/zonewright/zonewright/storage/ServiceInstance" "id" "Ljava/lang/String;" .null := D1 (Or.inr (ow41 hw)) (ty := (.object "java/lang/String")) (by decide)
  have F1_43 : Fld Z h1 b1 "com/example/zonewright/zonewright/storage/ServiceInstance" "planId" "Ljava/lang/String;" .null := D1 (Or.inr (ow43 hw)) (ty := (.object "java/lang/String")) (by decide)
  have F1_45 : Fld Z h1 b1 "com/example/zonewright/zonewright/storage/ServiceInstance" "organizationGuid" "Ljava/lang/String;" .null := D1 (Or.inr (ow45 hw)) (ty := (.object "java/lang/String")) (by decide)
  have F1_47 : Fld Z h1 b1 "com/example/zonewright/zonewright/storage/ServiceInstance" "spaceGuid" "Ljava/lang/String;" .null := D1 (Or.inr (ow47 hw)) (ty := (.object "java/lang/String")) (by decide)
  have hA3 := CHr.ext E1 hC.1
  have sf_b1 := Safe.ext E1 hC.1 (Safe.new (Nat.le_of_eq g1.symm))
  have hkk := Nat.le_trans hkk hA3.2.1
  have hC := hC.trans hA3
  refine os (st1) ?_
  show OG p e below Φ T1 m 3 #[iv x0_, iv x1_, iv x2_, iv x3_, iv x4_, .unset, .unset, .unset, .unset, .unset, .unset, .unset, .unset] [(.ref b1)]
  refine os (fun _ z => XS.dup X1.here hx rfl (hb hby at_3) rfl rfl z) ?_
  show OG p e below Φ T1 m 4 #[iv x0_, iv x1_, iv x2_, iv x3_, iv x4_, .unset, .unset, .unset, .unset, .unset, .unset, .unset, .unset] [(.ref b1), (.ref b1)]
  refine os (fun _ z => XS.iloadN X1.here hx rfl (hb hby at_4) rfl z) ?_
  show OG p e below Φ T1 m 5 #[iv x0_, iv x1_, iv x2_, iv x3_, iv x4_, .unset, .unset, .unset, .unset, .unset, .unset, .unset, .unset] [(.int x0_), (.ref b1), (.ref b1)]
  obtain ⟨_, T4, L4, X4, hQ4, st4⟩ := own_callSt X1 hx hZ hown (ow3 hw) (ow4 hw) (ow5 hw) (ow6 hw) (by decide) (rba l Z a0 hw [] x0_ qc h1 n0 Zs1 F2 S_cs hq) e1 (W := 2) (by decide) (by decide) (by decide) (by decide) (pc := 5) (ls := #[iv x0_, iv x1_, iv x2_, iv x3_, iv x4_, .unset, .unset, .unset, .unset, .unset, .unset, .unset, .unset]) (stk := [(.int x0_), (.ref b1), (.ref b1)]) (by rw [hml]; rfl) (argsL := [(.int x0_)]) (rest := [(.ref b1), (.ref b1)]) (lenOf pd12 rfl) rfl rfl (Nat.le_of_eq rfl) (hb hby at_5)
  obtain ⟨sx4, rfl, Nq4, Kq4, Oq4, hz4⟩ := hQ4
  have nq4_b1 : b1 ≠ sx4 := Nat.ne_of_lt (Nat.lt_of_lt_of_le A1.lt hz4)
  have gq4 : n0 ≤ sx4 := Nat.le_trans Zs1 hz4
  have N4 := Fr.app N0 Nq4
  have Zs4 : n0 ≤ T4.heap.size := Nat.le_trans Zs1 Kq4.1
  have F5 := F2.keep Kq4 all0
  have F6 := A1.keep Kq4
  have F7 := F1_41.keep Kq4 nin0
  have F8 := F1_43.keep Kq4 nin0
  have F9 := F1_45.keep Kq4 nin0
  have F10 := F1_47.keep Kq4 nin0
  have hA11 := CHr.keep Kq4 sf0 hC.1
  have sf_b1 := hA11.safe A1.lt sf_b1
  have hkk := Nat.le_trans hkk hA11.2.1
  have hC := hC.trans hA11
  refine os st4 ?_
  show OG p e below Φ T4 m 8 #[iv x0_, iv x1_, iv x2_, iv x3_, iv x4_, .unset, .unset, .unset, .unset, .unset, .unset, .unset, .unset] [(.ref sx4), (.ref b1), (.ref b1)]
  refine os (fun _ z => XS.iloadN X4.here hx rfl (hb hby at_8) rfl z) ?_
  show OG p e below Φ T4 m 9 #[iv x0_, iv x1_, iv x2_, iv x3_, iv x4_, .unset, .unset, .unset, .unset, .unset, .unset, .unset, .unset] [(.int x1_), (.ref sx4), (.ref b1), (.ref b1)]
  obtain ⟨_, T12, L12, X12, hQ12, st12⟩ := own_callSt X4 hx hZ hown (ow3 hw) (ow4 hw) (ow5 hw) (ow6 hw) (by decide) (rba l Z a0 hw [] x1_ qc T4.heap n0 Zs4 F5 S_cs hq) rfl (W := 3) (by decide) (by decide) (by decide) (by decide) (pc := 9) (ls := #[iv x0_, iv x1_, iv x2_, iv x3_, iv x4_, .unset, .unset, .unset, .unset, .unset, .unset, .unset, .unset]) (stk := [(.int x1_), (.ref sx4), (.ref b1), (.ref b1)]) (by rw [hml]; rfl) (argsL := [(.int x1_)]) (rest := [(.ref sx4), (.ref b1), (.ref b1)]) (lenOf pd12 rfl) rfl rfl (Nat.le_of_eq rfl) (hb hby at_9)
  obtain ⟨sx12, rfl, Nq12, Kq12, Oq12, hz12⟩ := hQ12
  have nq12_b1 : b1 ≠ sx12 := Nat.ne_of_lt (Nat.lt_of_lt_of_le F6.lt hz12)
  have nq12_sx4 : sx4 ≠ sx12 := Nat.ne_of_lt (Nat.lt_of_lt_of_le Oq4.lt hz12)
  have gq12 : n0 ≤ sx12 := Nat.le_trans Zs4 hz12
  have N12 := Fr.app N4 Nq12
  have Zs12 : n0 ≤ T12.heap.size := Nat.le_trans Zs4 Kq12.1
  have F13 := F5.keep Kq12 all0
  have F14 := F6.keep Kq12
  have F15 := F7.keep Kq12 nin0
  have F16 := F8.keep Kq12 nin0
  have F17 := F9.keep Kq12 nin0
  have F18 := F10.keep Kq12 nin0
  have F19 := Oq4.keep0 Kq12
  have hA20 := CHr.keep Kq12 sf0 hC.1
  have sf_b1 := hA20.safe F6.lt sf_b1
  have hkk := Nat.le_trans hkk hA20.2.1
  have hC := hC.trans hA20
  refine os st12 ?_
  show OG p e below Φ T12 m 12 #[iv x0_, iv x1_, iv x2_, iv x3_, iv x4_, .unset, .unset, .unset, .unset, .unset, .unset, .unset, .unset] [(.ref sx12), (.ref sx4), (.ref b1), (.ref b1)]
  refine os (fun _ z => XS.iloadN X12.here hx rfl (hb hby at_12) rfl z) ?_
  show OG p e below Φ T12 m 13 #[iv x0_, iv x1_, iv x2_, iv x3_, iv x4_, .unset, .unset, .unset, .unset, .unset, .unset, .unset, .unset] [(.int x2_), (.ref sx12), (.ref sx4), (.ref b1), (.ref b1)]
  obtain ⟨_, T21, L21, X21, hQ21, st21⟩ := own_callSt X12 hx hZ hown (ow3 hw) (ow4 hw) (ow5 hw) (ow6 hw) (by decide) (rba l Z a0 hw [] x2_ qc T12.heap n0 Zs12 F13 S_cs hq) rfl (W := 4) (by decide) (by decide) (by decide) (by decide) (pc := 13) (ls := #[iv x0_, iv x1_, iv x2_, iv x3_, iv x4_, .unset, .unset, .unset, .unset, .unset, .unset, .unset, .unset]) (stk := [(.int x2_), (.ref sx12), (.ref sx4), (.ref b1), (.ref b1)]) (by rw [hml]; rfl) (argsL := [(.int x2_)]) (rest := [(.ref sx12), (.ref sx4), (.ref b1), (.ref b1)]) (lenOf pd12 rfl) rfl rfl (Nat.le_of_eq rfl) (hb hby at_13)
  obtain ⟨sx21, rfl, Nq21, Kq21, Oq21, hz21⟩ := hQ21
  have nq21_b1 : b1 ≠ sx21 := Nat.ne_of_lt (Nat.lt_of_lt_of_le F14.lt hz21)
  have nq21_sx12 : sx12 ≠ sx21 := Nat.ne_of_lt (Nat.lt_of_lt_of_le Oq12.lt hz21)
  have nq21_sx4 : sx4 ≠ sx21 := Nat.ne_of_lt (Nat.lt_of_lt_of_le F19.lt hz21)
  have gq21 : n0 ≤ sx21 := Nat.le_trans Zs12 hz21
  have N21 := Fr.app N12 Nq21
  have Zs21 : n0 ≤ T21.heap.size := Nat.le_trans Zs12 Kq21.1
  have F22 := F13.keep Kq21 all0
  have F23 := F14.keep Kq21
  have F24 := F15.keep Kq21 nin0
  have F25 := F16.keep Kq21 nin0
  have F26 := F17.keep Kq21 nin0
  have F27 := F18.keep Kq21 nin0
  have F28 := F19.keep0 Kq21
  have F29 := Oq12.keep0 Kq21
  have hA30 := CHr.keep Kq21 sf0 hC.1
  have sf_b1 := hA30.safe F14.lt sf_b1
  have hkk := Nat.le_trans hkk hA30.2.1
  have hC := hC.trans hA30
  refine os st21 ?_
  show OG p e below Φ T21 m 16 #[iv x0_, iv x1_, iv x2_, iv x3_, iv x4_, .unset, .unset, .unset, .unset, .unset, .unset, .unset, .unset] [(.ref sx21), (.ref sx12), (.ref sx4), (.ref b1), (.ref b1)]
  refine os (fun _ z => XS.iloadN X21.here hx rfl (hb hby at_16) rfl z) ?_
  show OG p e below Φ T21 m 17 #[iv x0_, iv x1_, iv x2_, iv x3_, iv x4_, .unset, .unset, .unset, .unset, .unset, .unset, .unset, .unset] [(.int x3_), (.ref sx21), (.ref sx12), (.ref sx4), (.ref b1), (.ref b1)]
  obtain ⟨_, T31, L31, X31, hQ31, st31⟩ := own_callSt X21 hx hZ hown (ow3 hw) (ow4 hw) (ow5 hw) (ow6 hw) (by decide) (rba l Z a0 hw [] x3_ qc T21.heap n0 Zs21 F22 S_cs hq) rfl (W := 5) (by decide) (by decide) (by decide) (by decide) (pc := 17) (ls := #[iv x0_, iv x1_, iv x2_, iv x3_, iv x4_, .unset, .unset, .unset, .unset, .unset, .unset, .unset, .unset]) (stk := [(.int x3_), (.ref sx21), (.ref sx12), (.ref sx4), (.ref b1), (.ref b1)]) (by rw [hml]; rfl) (argsL := [(.int x3_)]) (rest := [(.ref sx21), (.ref sx12), (.ref sx4), (.ref b1), (.ref b1)]) (lenOf pd12 rfl) rfl rfl (Nat.le_of_eq rfl) (hb hby at_17)
  obtain ⟨sx31, rfl, Nq31, Kq31, Oq31, hz31⟩ := hQ31
  have nq31_b1 : b1 ≠ sx31 := Nat.ne_of_lt (Nat.lt_of_lt_of_le F23.lt hz31)
  have nq31_sx12 : sx12 ≠ sx31 := Nat.ne_of_lt (Nat.lt_of_lt_of_le F29.lt hz31)
  have nq31_sx21 : sx21 ≠ sx31 := Nat.ne_of_lt (Nat.lt_of_lt_of_le Oq21.lt hz31)
  have nq31_sx4 : sx4 ≠ sx31 := Nat.ne_of_lt (Nat.lt_of_lt_of_le F28.lt hz31)
  have gq31 : n0 ≤ sx31 := Nat.le_trans Zs21 hz31
  have N31 := Fr.app N21 Nq31
  have Zs31 : n0 ≤ T31.heap.size := Nat.le_trans Zs21 Kq31.1
  have F32 := F22.keep Kq31 all0
  have F33 := F23.keep Kq31
  have F34 := F24.keep Kq31 nin0
  have F35 := F25.keep Kq31 nin0
  have F36 := F26.keep Kq31 nin0
  have F37 := F27.keep Kq31 nin0
  have F38 := F28.keep0 Kq31
  have F39 := F29.keep0 Kq31
  have F40 := Oq21.keep0 Kq31
  have hA41 := CHr.keep Kq31 sf0 hC.1
  have sf_b1 := hA41.safe F23.lt sf_b1
  have hkk := Nat.le_trans hkk hA41.2.1
  have hC := hC.trans hA41
  refine os st31 ?_
  show OG p e below Φ T31 m 20 #[iv x0_, iv x1_, iv x2_, iv x3_, iv x4_, .unset, .unset, .unset, .unset, .unset, .unset, .unset, .unset] [(.ref sx31), (.ref sx21), (.ref sx12), (.ref sx4), (.ref b1), (.ref b1)]
  obtain ⟨_, T42, L42, X42, hQ42, st42⟩ := own_callSp X31 hx hZ rfl hown (ow36 hw) (ow37 hw) (ow2 hw) (ow38 hw) (by decide) (rini l Z a0 hw [] b1 sx4 sx12 sx21 sx31 .null .null .null .null T31.heap n0 Zs31 F33 gb1 F34 F35 F36 F37) rfl (W := 1) (by decide) (by decide) (by decide) (by decide) (pc := 20) (ls := #[iv x0_, iv x1_, iv x2_, iv x3_, iv x4_, .unset, .unset, .unset, .unset, .unset, .unset, .unset, .unset]) (stk := [(.ref sx31), (.ref sx21), (.ref sx12), (.ref sx4), (.ref b1), (.ref b1)]) (by rw [hml]; rfl) (a := b1) (argsL := [(.ref sx4), (.ref sx12), (.ref sx21), (.ref sx31)]) (rest := [(.ref b1)]) (lenOf pd13 rfl) rfl rfl (Nat.le_of_eq rfl) (hb hby at_20)
  obtain ⟨rfl, Nq42, Kq42, Eq42, Fq42_0, Fq42_1, Fq42_2, Fq42_3⟩ := hQ42
  have N42 := Fr.app N31 Nq42
  have Zs42 : n0 ≤ T42.heap.size := Nat.le_trans Zs31 Kq42.1
  have F43 := F32.keep Kq42 (allS gb1 all0)
  have F44 := F38.keep1 Kq42 F33 (ow1 hw) (by decide)
  have F45 := F39.keep1 Kq42 F33 (ow1 hw) (by decide)
  have F46 := F40.keep1 Kq42 F33 (ow1 hw) (by decide)
  have F47 := Oq31.keep1 Kq42 F33 (ow1 hw) (by decide)
  have hA48 := CHr.keep Kq42 (sfS sf_b1 sf0) hC.1
  have sf_b1 := hA48.safe F33.lt sf_b1
  have hkk := Nat.le_trans hkk hA48.2.1
  have hC := hC.trans hA48
  refine os st42 ?_
  show OG p e below Φ T42 m 23 #[iv x0_, iv x1_, iv x2_, iv x3_, iv x4_, .unset, .unset, .unset, .unset, .unset, .unset, .unset, .unset] [(.ref b1)]
  refine os (fun _ z => XS.astore X42.here hx rfl (hb hby at_23) rfl rfl (l' := #[iv x0_, iv x1_, iv x2_, iv x3_, iv x4_, rv b1, .unset, .unset, .unset, .unset, .unset, .unset, .unset]) rfl z) ?_
  show OG p e below Φ T42 m 25 #[iv x0_, iv x1_, iv x2_, iv x3_, iv x4_, rv b1, .unset, .unset, .unset, .unset, .unset, .unset, .unset] []
  refine os (fun _ z => XS.iload X42.here hx rfl (hb hby at_25) rfl z) ?_
  show OG p e below Φ T42 m 27 #[iv x0_, iv x1_, iv x2_, iv x3_, iv x4_, rv b1, .unset, .unset, .unset, .unset, .unset, .unset, .unset] [(.int x4_)]
  refine os (fun _ z => XS.iconst X42.here hx rfl (hb hby at_27) z) ?_
  show OG p e below Φ T42 m 28 #[iv x0_, iv x1_, iv x2_, iv x3_, iv x4_, rv b1, .unset, .unset, .unset, .unset, .unset, .unset, .unset] [(.int 3), (.int x4_)]
  refine os (fun _ z => XS.iand X42.here hx rfl (hb hby at_28) rfl z) ?_
  show OG p e below Φ T42 m 29 #[iv x0_, iv x1_, iv x2_, iv x3_, iv x4_, rv b1, .unset, .unset, .unset, .unset, .unset, .unset, .unset] [(.int (x4_ &&& (3 : Int32)))]
  refine os (fun _ z => XS.istore X42.here hx rfl (hb hby at_29) rfl (l' := #[iv x0_, iv x1_, iv x2_, iv x3_, iv x4_, rv b1, iv (x4_ &&& (3 : Int32)), .unset, .unset, .unset, .unset, .unset, .unset]) rfl z) ?_
  show OG p e below Φ T42 m 31 #[iv x0_, iv x1_, iv x2_, iv x3_, iv x4_, rv b1, iv (x4_ &&& (3 : Int32)), .unset, .unset, .unset, .unset, .unset, .unset] []
  refine os (fun _ z => XS.iload X42.here hx rfl (hb hby at_31) rfl z) ?_
  show OG p e below Φ T42 m 33 #[iv x0_, iv x1_, iv x2_, iv x3_, iv x4_, rv b1, iv (x4_ &&& (3 : Int32)), .unset, .unset, .unset, .unset, .unset, .unset] [(.int x4_)]
  refine os (fun _ z => XS.iconst X42.here hx rfl (hb hby at_33) z) ?_
  show OG p e below Φ T42 m 34 #[iv x0_, iv x1_, iv x2_, iv x3_, iv x4_, rv b1, iv (x4_ &&& (3 : Int32)), .unset, .unset, .unset, .unset, .unset, .unset] [(.int 2), (.int x4_)]
  refine os (fun _ z => XT.iushr X42.here hx rfl (hb hby at_34) rfl z) ?_
  show OG p e below Φ T42 m 35 #[iv x0_, iv x1_, iv x2_, iv x3_, iv x4_, rv b1, iv (x4_ &&& (3 : Int32)), .unset, .unset, .unset, .unset, .unset, .unset] [(.int (XT.ushr x4_ (2 : Int32)))]
  refine os (fun _ z => XS.iconst X42.here hx rfl (hb hby at_35) z) ?_
  show OG p e below Φ T42 m 36 #[iv x0_, iv x1_, iv x2_, iv x3_, iv x4_, rv b1, iv (x4_ &&& (3 : Int32)), .unset, .unset, .unset, .unset, .unset, .unset] [(.int 3), (.int (XT.ushr x4_ (2 : Int32)))]
  refine os (fun _ z => XS.iand X42.here hx rfl (hb hby at_36) rfl z) ?_
  show OG p e below Φ T42 m 37 #[iv x0_, iv x1_, iv x2_, iv x3_, iv x4_, rv b1, iv (x4_ &&& (3 : Int32)), .unset, .unset, .unset, .unset, .unset, .unset] [(.int ((XT.ushr x4_ (2 : Int32)) &&& (3 : Int32)))]
  refine os (fun _ z => XS.istore X42.here hx rfl (hb hby at_37) rfl (l' := #[iv x0_, iv x1_, iv x2_, iv x3_, iv x4_, rv b1, iv (x4_ &&& (3 : Int32)), iv ((XT.ushr x4_ (2 : Int32)) &&& (3 : Int32)), .unset, .unset, .unset, .unset, .unset]) rfl z) ?_
  show OG p e below Φ T42 m 39 #[iv x0_, iv x1_, iv x2_, iv x3_, iv x4_, rv b1, iv (x4_ &&& (3 : Int32)), iv ((XT.ushr x4_ (2 : Int32)) &&& (3 : Int32)), .unset, .unset, .unset, .unset, .unset] []
  refine os (fun _ z => XS.iload X42.here hx rfl (hb hby at_39) rfl z) ?_
  show OG p e below Φ T42 m 41 #[iv x0_, iv x1_, iv x2_, iv x3_, iv x4_, rv b1, iv (x4_ &&& (3 : Int32)), iv ((XT.ushr x4_ (2 : Int32)) &&& (3 : Int32)), .unset, .unset, .unset, .unset, .unset] [(.int x4_)]
  refine os (fun _ z => XS.iconst X42.here hx rfl (hb hby at_41) z) ?_
  show OG p e below Φ T42 m 42 #[iv x0_, iv x1_, iv x2_, iv x3_, iv x4_, rv b1, iv (x4_ &&& (3 : Int32)), iv ((XT.ushr x4_ (2 : Int32)) &&& (3 : Int32)), .unset, .unset, .unset, .unset, .unset] [(.int 4), (.int x4_)]
  refine os (fun _ z => XT.iushr X42.here hx rfl (hb hby at_42) rfl z) ?_
  show OG p e below Φ T42 m 43 #[iv x0_, iv x1_, iv x2_, iv x3_, iv x4_, rv b1, iv (x4_ &&& (3 : Int32)), iv ((XT.ushr x4_ (2 : Int32)) &&& (3 : Int32)), .unset, .unset, .unset, .unset, .unset] [(.int (XT.ushr x4_ (4 : Int32)))]
  refine os (fun _ z => XS.iconst X42.here hx rfl (hb hby at_43) z) ?_
  show OG p e below Φ T42 m 44 #[iv x0_, iv x1_, iv x2_, iv x3_, iv x4_, rv b1, iv (x4_ &&& (3 : Int32)), iv ((XT.ushr x4_ (2 : Int32)) &&& (3 : Int32)), .unset, .unset, .unset, .unset, .unset] [(.int 3), (.int (XT.ushr x4_ (4 : Int32)))]
  refine os (fun _ z => XS.iand X42.here hx rfl (hb hby at_44) rfl z) ?_
  show OG p e below Φ T42 m 45 #[iv x0_, iv x1_, iv x2_, iv x3_, iv x4_, rv b1, iv (x4_ &&& (3 : Int32)), iv ((XT.ushr x4_ (2 : Int32)) &&& (3 : Int32)), .unset, .unset, .unset, .unset, .unset] [(.int ((XT.ushr x4_ (4 : Int32)) &&& (3 : Int32)))]
  refine os (fun _ z => XS.istore X42.here hx rfl (hb hby at_45) rfl (l' := #[iv x0_, iv x1_, iv x2_, iv x3_, iv x4_, rv b1, iv (x4_ &&& (3 : Int32)), iv ((XT.ushr x4_ (2 : Int32)) &&& (3 : Int32)), iv ((XT.ushr x4_ (4 : Int32)) &&& (3 : Int32)), .unset, .unset, .unset, .unset]) rfl z) ?_
  show OG p e below Φ T42 m 47 #[iv x0_, iv x1_, iv x2_, iv x3_, iv x4_, rv b1, iv (x4_ &&& (3 : Int32)), iv ((XT.ushr x4_ (2 : Int32)) &&& (3 : Int32)), iv ((XT.ushr x4_ (4 : Int32)) &&& (3 : Int32)), .unset, .unset, .unset, .unset] []
  refine os (fun _ z => XS.iload X42.here hx rfl (hb hby at_47) rfl z) ?_
  show OG p e below Φ T42 m 49 #[iv x0_, iv x1_, iv x2_, iv x3_, iv x4_, rv b1, iv (x4_ &&& (3 : Int32)), iv ((XT.ushr x4_ (2 : Int32)) &&& (3 : Int32)), iv ((XT.ushr x4_ (4 : Int32)) &&& (3 : Int32)), .unset, .unset, .unset, .unset] [(.int x4_)]
  refine os (fun _ z => XS.bipush X42.here hx rfl (hb hby at_49) z) ?_
  show OG p e below Φ T42 m 51 #[iv x0_, iv x1_, iv x2_, iv x3_, iv x4_, rv b1, iv (x4_ &&& (3 : Int32)), iv ((XT.ushr x4_ (2 : Int32)) &&& (3 : Int32)), iv ((XT.ushr x4_ (4 : Int32)) &&& (3 : Int32)), .unset, .unset, .unset, .unset] [(.int 6), (.int x4_)]
  refine os (fun _ z => XT.iushr X42.here hx rfl (hb hby at_51) rfl z) ?_
  show OG p e below Φ T42 m 52 #[iv x0_, iv x1_, iv x2_, iv x3_, iv x4_, rv b1, iv (x4_ &&& (3 : Int32)), iv ((XT.ushr x4_ (2 : Int32)) &&& (3 : Int32)), iv ((XT.ushr x4_ (4 : Int32)) &&& (3 : Int32)), .unset, .unset, .unset, .unset] [(.int (XT.ushr x4_ (6 : Int32)))]
  refine os (fun _ z => XS.iconst X42.here hx rfl (hb hby at_52) z) ?_
  show OG p e below Φ T42 m 53 #[iv x0_, iv x1_, iv x2_, iv x3_, iv x4_, rv b1, iv (x4_ &&& (3 : Int32)), iv ((XT.ushr x4_ (2 : Int32)) &&& (3 : Int32)), iv ((XT.ushr x4_ (4 : Int32)) &&& (3 : Int32)), .unset, .unset, .unset, .unset] [(.int 3), (.int (XT.ushr x4_ (6 : Int32)))]
  refine os (fun _ z => XS.iand X42.here hx rfl (hb hby at_53) rfl z) ?_
  show OG p e below Φ T42 m 54 #[iv x0_, iv x1_, iv x2_, iv x3_, iv x4_, rv b1, iv (x4_ &&& (3 : Int32)), iv ((XT.ushr x4_ (2 : Int32)) &&& (3 : Int32)), iv ((XT.ushr x4_ (4 : Int32)) &&& (3 : Int32)), .unset, .unset, .unset, .unset] [(.int ((XT.ushr x4_ (6 : Int32)) &&& (3 : Int32)))]
  refine os (fun _ z => XS.istore X42.here hx rfl (hb hby at_54) rfl (l' := #[iv x0_, iv x1_, iv x2_, iv x3_, iv x4_, rv b1, iv (x4_ &&& (3 : Int32)), iv ((XT.ushr x4_ (2 : Int32)) &&& (3 : Int32)), iv ((XT.ushr x4_ (4 : Int32)) &&& (3 : Int32)), iv ((XT.ushr x4_ (6 : Int32)) &&& (3 : Int32)), .unset, .unset, .unset]) rfl z) ?_
  show OG p e below Φ T42 m 56 #[iv x0_, iv x1_, iv x2_, iv x3_, iv x4_, rv b1, iv (x4_ &&& (3 : Int32)), iv ((XT.ushr x4_ (2 : Int32)) &&& (3 : Int32)), iv ((XT.ushr x4_ (4 : Int32)) &&& (3 : Int32)), iv ((XT.ushr x4_ (6 : Int32)) &&& (3 : Int32)), .unset, .unset, .unset] []
  refine os (fun _ z => XS.iload X42.here hx rfl (hb hby at_56) rfl z) ?_
  show OG p e below Φ T42 m 58 #[iv x0_, iv x1_, iv x2_, iv x3_, iv x4_, rv b1, iv (x4_ &&& (3 : Int32)), iv ((XT.ushr x4_ (2 : Int32)) &&& (3 : Int32)), iv ((XT.ushr x4_ (4 : Int32)) &&& (3 : Int32)), iv ((XT.ushr x4_ (6 : Int32)) &&& (3 : Int32)), .unset, .unset, .unset] [(.int x4_)]
  refine os (fun _ z => XS.bipush X42.here hx rfl (hb hby at_58) z) ?_
  show OG p e below Φ T42 m 60 #[iv x0_, iv x1_, iv x2_, iv x3_, iv x4_, rv b1, iv (x4_ &&& (3 : Int32)), iv ((XT.ushr x4_ (2 : Int32)) &&& (3 : Int32)), iv ((XT.ushr x4_ (4 : Int32)) &&& (3 : Int32)), iv ((XT.ushr x4_ (6 : Int32)) &&& (3 : Int32)), .unset, .unset, .unset] [(.int 8), (.int x4_)]
  refine os (fun _ z => XT.iushr X42.here hx rfl (hb hby at_60) rfl z) ?_
  show OG p e below Φ T42 m 61 #[iv x0_, iv x1_, iv x2_, iv x3_, iv x4_, rv b1, iv (x4_ &&& (3 : Int32)), iv ((XT.ushr x4_ (2 : Int32)) &&& (3 : Int32)), iv ((XT.ushr x4_ (4 : Int32)) &&& (3 : Int32)), iv ((XT.ushr x4_ (6 : Int32)) &&& (3 : Int32)), .unset, .unset, .unset] [(.int (XT.ushr x4_ (8 : Int32)))]
  refine os (fun _ z => XS.iconst X42.here hx rfl (hb hby at_61) z) ?_
  show OG p e below Φ T42 m 62 #[iv x0_, iv x1_, iv x2_, iv x3_, iv x4_, rv b1, iv (x4_ &&& (3 : Int32)), iv ((XT.ushr x4_ (2 : Int32)) &&& (3 : Int32)), iv ((XT.ushr x4_ (4 : Int32)) &&& (3 : Int32)), iv ((XT.ushr x4_ (6 : Int32)) &&& (3 : Int32)), .unset, .unset, .unset] [(.int 3), (.int (XT.ushr x4_ (8 : Int32)))]
  refine os (fun _ z => XS.iand X42.here hx rfl (hb hby at_62) rfl z) ?_
  show OG p e below Φ T42 m 63 #[iv x0_, iv x1_, iv x2_, iv x3_, iv x4_, rv b1, iv (x4_ &&& (3 : Int32)), iv ((XT.ushr x4_ (2 : Int32)) &&& (3 : Int32)), iv ((XT.ushr x4_ (4 : Int32)) &&& (3 : Int32)), iv ((XT.ushr x4_ (6 : Int32)) &&& (3 : Int32)), .unset, .unset, .unset] [(.int ((XT.ushr x4_ (8 : Int32)) &&& (3 : Int32)))]
  refine os (fun _ z => XS.istore X42.here hx rfl (hb hby at_63) rfl (l' := #[iv x0_, iv x1_, iv x2_, iv x3_, iv x4_, rv b1, iv (x4_ &&& (3 : Int32)), iv ((XT.ushr x4_ (2 : Int32)) &&& (3 : Int32)), iv ((XT.ushr x4_ (4 : Int32)) &&& (3 : Int32)), iv ((XT.ushr x4_ (6 : Int32)) &&& (3 : Int32)), iv ((XT.ushr x4_ (8 : Int32)) &&& (3 : Int32)), .unset, .unset]) rfl z) ?_
  show OG p e below Φ T42 m 65 #[iv x0_, iv x1_, iv x2_, iv x3_, iv x4_, rv b1, iv (x4_ &&& (3 : Int32)), iv ((XT.ushr x4_ (2 : Int32)) &&& (3 : Int32)), iv ((XT.ushr x4_ (4 : Int32)) &&& (3 : Int32)), iv ((XT.ushr x4_ (6 : Int32)) &&& (3 : Int32)), iv ((XT.ushr x4_ (8 : Int32)) &&& (3 : Int32)), .unset, .unset] []
  refine os (fun _ z => XS.iload X42.here hx rfl (hb hby at_65) rfl z) ?_
  show OG p e below Φ T42 m 67 #[iv x0_, iv x1_, iv x2_, iv x3_, iv x4_, rv b1, iv (x4_ &&& (3 : Int32)), iv ((XT.ushr x4_ (2 : Int32)) &&& (3 : Int32)), iv ((XT.ushr x4_ (4 : Int32)) &&& (3 : Int32)), iv ((XT.ushr x4_ (6 : Int32)) &&& (3 : Int32)), iv ((XT.ushr x4_ (8 : Int32)) &&& (3 : Int32)), .unset, .unset] [(.int (x4_ &&& (3 : Int32)))]
  by_cases hc49 : (x4_ &&& (3 : Int32)) = 0
  · refine os (fun _ z => XS.ifNo X42.here hx rfl (hb hby at_67) rfl (XT.i0_ne_f hc49) z) ?_
    show OG p e below Φ T42 m 70 #[iv x0_, iv x1_, iv x2_, iv x3_, iv x4_, rv b1, iv (x4_ &&& (3 : Int32)), iv ((XT.ushr x4_ (2 : Int32)) &&& (3 : Int32)), iv ((XT.ushr x4_ (4 : Int32)) &&& (3 : Int32)), iv ((XT.ushr x4_ (6 : Int32)) &&& (3 : Int32)), iv ((XT.ushr x4_ (8 : Int32)) &&& (3 : Int32)), .unset, .unset] []
    obtain ⟨T50, h50, X50, e50, E50, A50, D50, U50, st50⟩ := newO X42 hx hZ hown (ow0 hw) (ow1 hw) (ow2 hw) rfl (g := (mkF m 70 #[iv x0_, iv x1_, iv x2_, iv x3_, iv x4_, rv b1, iv (x4_ &&& (3 : Int32)), iv ((XT.ushr x4_ (2 : Int32)) &&& (3 : Int32)), iv ((XT.ushr x4_ (4 : Int32)) &&& (3 : Int32)), iv ((XT.ushr x4_ (6 : Int32)) &&& (3 : Int32)), iv ((XT.ushr x4_ (8 : Int32)) &&& (3 : Int32)), .unset, .unset] [])) rfl (hb hby at_70) (by decide) (by decide)
    obtain ⟨b50, g50⟩ : ∃ z, z = T42.heap.size := ⟨_, rfl⟩
    rw [← g50] at A50 D50 st50 U50
    have ne50_b1 : b1 ≠ b50 := by rw [g50]; exact Nat.ne_of_lt Eq42.lt
    have ne50_sx12 : sx12 ≠ b50 := by rw [g50]; exact Nat.ne_of_lt F45.lt
    have ne50_sx21 : sx21 ≠ b50 := by rw [g50]; exact Nat.ne_of_lt F46.lt
    have ne50_sx31 : sx31 ≠ b50 := by rw [g50]; exact Nat.ne_of_lt F47.lt
    have ne50_sx4 : sx4 ≠ b50 := by rw [g50]; exact Nat.ne_of_lt F44.lt
    have F51 := F43.ext E50
    have F52 := F44.ext E50
    have F53 := F45.ext E50
    have F54 := F46.ext E50
    have F55 := F47.ext E50
    have F56 := Eq42.ext E50
    have F57 := Fq42_0.ext E50
    have F58 := Fq42_1.ext E50
    have F59 := Fq42_2.ext E50
    have F60 := Fq42_3.ext E50
    have gb50 : n0 ≤ b50 := Nat.le_trans Zs42 (Nat.le_of_eq g50.symm)
    have Zs50 : n0 ≤ h50.size := Nat.le_trans Zs42 E50.1
    have F50_41 : Fld Z h50 b50 "com/example/zonewright/zonewright/storage/ServiceInstance" "id" "Ljava/lang/String;" .null := D50 (Or.inr (ow41 hw)) (ty := (.object "java/lang/String")) (by decide)
    have F50_43 : Fld Z h50 b50 "com/example/zonewright/zonewright/storage/ServiceInstance" "planId" "Ljava/lang/String;" .null := D50 (Or.inr (ow43 hw)) (ty := (.object "java/lang/String")) (by decide)
    have F50_45 : Fld Z h50 b50 "com/example/zonewright/zonewright/storage/ServiceInstance" "organizationGuid" "Ljava/lang/String;" .null := D50 (Or.inr (ow45 hw)) (ty := (.object "java/lang/String")) (by decide)
    have F50_47 : Fld Z h50 b50 "com/example/zonewright/zonewright/storage/ServiceInstance" "spaceGuid" "Ljava/lang/String;" .null := D50 (Or.inr (ow47 hw)) (ty := (.object "java/lang/String")) (by decide)
    have hA61 := CHr.ext E50 hC.1
    have sf_b50 := Safe.ext E50 hC.1 (Safe.new (Nat.le_of_eq g50.symm))
    have sf_b1 := hA61.safe Eq42.lt sf_b1
    have hkk := Nat.le_trans hkk hA61.2.1
    have hC := hC.trans hA61
    refine os (st50) ?_
    show OG p e below Φ T50 m 73 #[iv x0_, iv x1_, iv x2_, iv x3_, iv x4_, rv b1, iv (x4_ &&& (3 : Int32)), iv ((XT.ushr x4_ (2 : Int32)) &&& (3 : Int32)), iv ((XT.ushr x4_ (4 : Int32)) &&& (3 : Int32)), iv ((XT.ushr x4_ (6 : Int32)) &&& (3 : Int32)), iv ((XT.ushr x4_ (8 : Int32)) &&& (3 : Int32)), .unset, .unset] [(.ref b50)]
    refine os (fun _ z => XS.dup X50.here hx rfl (hb hby at_73) rfl rfl z) ?_
    show OG p e below Φ T50 m 74 #[iv x0_, iv x1_, iv x2_, iv x3_, iv x4_, rv b1, iv (x4_ &&& (3 : Int32)), iv ((XT.ushr x4_ (2 : Int32)) &&& (3 : Int32)), iv ((XT.ushr x4_ (4 : Int32)) &&& (3 : Int32)), iv ((XT.ushr x4_ (6 : Int32)) &&& (3 : Int32)), iv ((XT.ushr x4_ (8 : Int32)) &&& (3 : Int32)), .unset, .unset] [(.ref b50), (.ref b50)]
    refine os (fun _ z => XS.iload X50.here hx rfl (hb hby at_74) rfl z) ?_
    show OG p e below Φ T50 m 76 #[iv x0_, iv x1_, iv x2_, iv x3_, iv x4_, rv b1, iv (x4_ &&& (3 : Int32)), iv ((XT.ushr x4_ (2 : Int32)) &&& (3 : Int32)), iv ((XT.ushr x4_ (4 : Int32)) &&& (3 : Int32)), iv ((XT.ushr x4_ (6 : Int32)) &&& (3 : Int32)), iv ((XT.ushr x4_ (8 : Int32)) &&& (3 : Int32)), .unset, .unset] [(.int ((XT.ushr x4_ (2 : Int32)) &&& (3 : Int32))), (.ref b50), (.ref b50)]
    refine os (fun _ z => XS.iloadN X50.here hx rfl (hb hby at_76) rfl z) ?_
    show OG p e below Φ T50 m 77 #[iv x0_, iv x1_, iv x2_, iv x3_, iv x4_, rv b1, iv (x4_ &&& (3 : Int32)), iv ((XT.ushr x4_ (2 : Int32)) &&& (3 : Int32)), iv ((XT.ushr x4_ (4 : Int32)) &&& (3 : Int32)), iv ((XT.ushr x4_ (6 : Int32)) &&& (3 : Int32)), iv ((XT.ushr x4_ (8 : Int32)) &&& (3 : Int32)), .unset, .unset] [(.int x0_), (.int ((XT.ushr x4_ (2 : Int32)) &&& (3 : Int32))), (.ref b50), (.ref b50)]
    obtain ⟨_, T62, L62, X62, hQ62, st62, hS, hZ, hown, hB62⟩ := own_callStW X50 hx hZ hown (ow48 hw) (ow49 hw) (ow5 hw) (ow50 hw) (by decide) (rmk l Z a0 hw [] ((XT.ushr x4_ (2 : Int32)) &&& (3 : Int32)) x0_ qc h50 n0 Zs50 F51 S_cs hq) e50 (W := 2) (by decide) (by decide) (by decide) (by decide) (pc := 77) (ls := #[iv x0_, iv x1_, iv x2_, iv x3_, iv x4_, rv b1, iv (x4_ &&& (3 : Int32)), iv ((XT.ushr x4_ (2 : Int32)) &&& (3 : Int32)), iv ((XT.ushr x4_ (4 : Int32)) &&& (3 : Int32)), iv ((XT.ushr x4_ (6 : Int32)) &&& (3 : Int32)), iv ((XT.ushr x4_ (8 : Int32)) &&& (3 : Int32)), .unset, .unset]) (stk := [(.int x0_), (.int ((XT.ushr x4_ (2 : Int32)) &&& (3 : Int32))), (.ref b50), (.ref b50)]) (by rw [hml]; rfl) (argsL := [(.int ((XT.ushr x4_ (2 : Int32)) &&& (3 : Int32))), (.int x0_)]) (rest := [(.ref b50), (.ref b50)]) (lenOf pd14 rfl) rfl rfl (Nat.le_of_eq rfl) (hb hby at_77) hS hkk (own_EW hw) hC all0
    obtain ⟨sx62, rfl, Nq62, Kq62, Oq62, hz62⟩ := hQ62
    have nq62_b1 : b1 ≠ sx62 := Nat.ne_of_lt (Nat.lt_of_lt_of_le F56.lt hz62)
    have nq62_b50 : b50 ≠ sx62 := Nat.ne_of_lt (Nat.lt_of_lt_of_le A50.lt hz62)
    have nq62_sx12 : sx12 ≠ sx62 := Nat.ne_of_lt (Nat.lt_of_lt_of_le F53.lt hz62)
    have nq62_sx21 : sx21 ≠ sx62 := Nat.ne_of_lt (Nat.lt_of_lt_of_le F54.lt hz62)
    have nq62_sx31 : sx31 ≠ sx62 := Nat.ne_of_lt (Nat.lt_of_lt_of_le F55.lt hz62)
    have nq62_sx4 : sx4 ≠ sx62 := Nat.ne_of_lt (Nat.lt_of_lt_of_le F52.lt hz62)
    have gq62 : n0 ≤ sx62 := Nat.le_trans Zs50 hz62
    have N62 := Fr.app N42 Nq62
    have Zs62 : n0 ≤ T62.heap.size := Nat.le_trans Zs50 Kq62.1
    have F63 := F51.keep Kq62 all0
    have F64 := F52.keep0 Kq62
    have F65 := F53.keep0 Kq62
    have F66 := F54.keep0 Kq62
    have F67 := F55.keep0 Kq62
    have F68 := F56.keep Kq62
    have F69 := F57.keep Kq62 nin0
    have F70 := F58.keep Kq62 nin0
    have F71 := F59.keep Kq62 nin0
    have F72 := F60.keep Kq62 nin0
    have F73 := A50.keep Kq62
    have F74 := F50_41.keep Kq62 nin0
    have F75 := F50_43.keep Kq62 nin0
    have F76 := F50_45.keep Kq62 nin0
    have F77 := F50_47.keep Kq62 nin0
    have hA78 := hB62
    have sf_b1 := hA78.safe F56.lt sf_b1
    have sf_b50 := hA78.safe A50.lt sf_b50
    have hkk := Nat.le_refl T62.heap.size
    have hC := hC.trans hA78
    refine os st62 ?_
    show OG p e below Φ T62 m 80 #[iv x0_, iv x1_, iv x2_, iv x3_, iv x4_, rv b1, iv (x4_ &&& (3 : Int32)), iv ((XT.ushr x4_ (2 : Int32)) &&& (3 : Int32)), iv ((XT.ushr x4_ (4 : Int32)) &&& (3 : Int32)), iv ((XT.ushr x4_ (6 : Int32)) &&& (3 : Int32)), iv ((XT.ushr x4_ (8 : Int32)) &&& (3 : Int32)), .unset, .unset] [(.ref sx62), (.ref b50), (.ref b50)]
    refine os (fun _ z => XS.iload X62.here hx rfl (hb hby at_80) rfl z) ?_
    show OG p e below Φ T62 m 82 #[iv x0_, iv x1_, iv x2_, iv x3_, iv x4_, rv b1, iv (x4_ &&& (3 : Int32)), iv ((XT.ushr x4_ (2 : Int32)) &&& (3 : Int32)), iv ((XT.ushr x4_ (4 : Int32)) &&& (3 : Int32)), iv ((XT.ushr x4_ (6 : Int32)) &&& (3 : Int32)), iv ((XT.ushr x4_ (8 : Int32)) &&& (3 : Int32)), .unset, .unset] [(.int ((XT.ushr x4_ (4 : Int32)) &&& (3 : Int32))), (.ref sx62), (.ref b50), (.ref b50)]
    refine os (fun _ z => XS.iloadN X62.here hx rfl (hb hby at_82) rfl z) ?_
    show OG p e below Φ T62 m 83 #[iv x0_, iv x1_, iv x2_, iv x3_, iv x4_, rv b1, iv (x4_ &&& (3 : Int32)), iv ((XT.ushr x4_ (2 : Int32)) &&& (3 : Int32)), iv ((XT.ushr x4_ (4 : Int32)) &&& (3 : Int32)), iv ((XT.ushr x4_ (6 : Int32)) &&& (3 : Int32)), iv ((XT.ushr x4_ (8 : Int32)) &&& (3 : Int32)), .unset, .unset] [(.int x1_), (.int ((XT.ushr x4_ (4 : Int32)) &&& (3 : Int32))), (.ref sx62), (.ref b50), (.ref b50)]
    obtain ⟨_, T79, L79, X79, hQ79, st79, hS, hZ, hown, hB79⟩ := own_callStW X62 hx hZ hown (ow48 hw) (ow49 hw) (ow5 hw) (ow50 hw) (by decide) (rmk l Z a0 hw [] ((XT.ushr x4_ (4 : Int32)) &&& (3 : Int32)) x1_ qc T62.heap n0 Zs62 F63 S_cs hq) rfl (W := 3) (by decide) (by decide) (by decide) (by decide) (pc := 83) (ls := #[iv x0_, iv x1_, iv x2_, iv x3_, iv x4_, rv b1, iv (x4_ &&& (3 : Int32)), iv ((XT.ushr x4_ (2 : Int32)) &&& (3 : Int32)), iv ((XT.ushr x4_ (4 : Int32)) &&& (3 : Int32)), iv ((XT.ushr x4_ (6 : Int32)) &&& (3 : Int32)), iv ((XT.ushr x4_ (8 : Int32)) &&& (3 : Int32)), .unset, .unset]) (stk := [(.int x1_), (.int ((XT.ushr x4_ (4 : Int32)) &&& (3 : Int32))), (.ref sx62), (.ref b50), (.ref b50)]) (by rw [hml]; rfl) (argsL := [(.int ((XT.ushr x4_ (4 : Int32)) &&& (3 : Int32))), (.int x1_)]) (rest := [(.ref sx62), (.ref b50), (.ref b50)]) (lenOf pd14 rfl) rfl rfl (Nat.le_of_eq rfl) (hb hby at_83) hS hkk (own_EW hw) hC all0
    obtain ⟨sx79, rfl, Nq79, Kq79, Oq79, hz79⟩ := hQ79
    have nq79_b1 : b1 ≠ sx79 := Nat.ne_of_lt (Nat.lt_of_lt_of_le F68.lt hz79)
    have nq79_b50 : b50 ≠ sx79 := Nat.ne_of_lt (Nat.lt_of_lt_of_le F73.lt hz79)
    have nq79_sx12 : sx12 ≠ sx79 := Nat.ne_of_lt (Nat.lt_of_lt_of_le F65.lt hz79)
    have nq79_sx21 : sx21 ≠ sx79 := Nat.ne_of_lt (Nat.lt_of_lt_of_le F66.lt hz79)
    have nq79_sx31 : sx31 ≠ sx79 := Nat.ne_of_lt (Nat.lt_of_lt_of_le F67.lt hz79)
    have nq79_sx4 : sx4 ≠ sx79 := Nat.ne_of_lt (Nat.lt_of_lt_of_le F64.lt hz79)
    have nq79_sx62 : sx62 ≠ sx79 := Nat.ne_of_lt (Nat.lt_of_lt_of_le Oq62.lt hz79)
    have gq79 : n0 ≤ sx79 := Nat.le_trans Zs62 hz79
    have N79 := Fr.app N62 Nq79
    have Zs79 : n0 ≤ T79.heap.size := Nat.le_trans Zs62 Kq79.1
    have F80 := F63.keep Kq79 all0
    have F81 := F64.keep0 Kq79
    have F82 := F65.keep0 Kq79
    have F83 := F66.keep0 Kq79
    have F84 := F67.keep0 Kq79
    have F85 := F68.keep Kq79
    have F86 := F69.keep Kq79 nin0
    have F87 := F70.keep Kq79 nin0
    have F88 := F71.keep Kq79 nin0
    have F89 := F72.keep Kq79 nin0
    have F90 := F73.keep Kq79
    have F91 := F74.keep Kq79 nin0
    have F92 := F75.keep Kq79 nin0
    have F93 := F76.keep Kq79 nin0
    have F94 := F77.keep Kq79 nin0
    have F95 := Oq62.keep0 Kq79
    have hA96 := hB79
    have sf_b1 := hA96.safe F68.lt sf_b1
    have sf_b50 := hA96.safe F73.lt sf_b50
    have hkk := Nat.le_refl T79.heap.size
    have hC := hC.trans hA96
    refine os st79 ?_
    show OG p e below Φ T79 m 86 #[iv x0_, iv x1_, iv x2_, iv x3_, iv x4_, rv b1, iv (x4_ &&& (3 : Int32)), iv ((XT.ushr x4_ (2 : Int32)) &&& (3 : Int32)), iv ((XT.ushr x4_ (4 : Int32)) &&& (3 : Int32)), iv ((XT.ushr x4_ (6 : Int32)) &&& (3 : Int32)), iv ((XT.ushr x4_ (8 : Int32)) &&& (3 : Int32)), .unset, .unset] [(.ref sx79), (.ref sx62), (.ref b50), (.ref b50)]
    refine os (fun _ z => XS.iload X79.here hx rfl (hb hby at_86) rfl z) ?_
    show OG p e below Φ T79 m 88 #[iv x0_, iv x1_, iv x2_, iv x3_, iv x4_, rv b1, iv (x4_ &&& (3 : Int32)), iv ((XT.ushr x4_ (2 : Int32)) &&& (3 : Int32)), iv ((XT.ushr x4_ (4 : Int32)) &&& (3 : Int32)), iv ((XT.ushr x4_ (6 : Int32)) &&& (3 : Int32)), iv ((XT.ushr x4_ (8 : Int32)) &&& (3 : Int32)), .unset, .unset] [(.int ((XT.ushr x4_ (6 : Int32)) &&& (3 : Int32))), (.ref sx79), (.ref sx62), (.ref b50), (.ref b50)]
    refine os (fun _ z => XS.iloadN X79.here hx rfl (hb hby at_88) rfl z) ?_
    show OG p e below Φ T79 m 89 #[iv x0_, iv x1_, iv x2_, iv x3_, iv x4_, rv b1, iv (x4_ &&& (3 : Int32)), iv ((XT.ushr x4_ (2 : Int32)) &&& (3 : Int32)), iv ((XT.ushr x4_ (4 : Int32)) &&& (3 : Int32)), iv ((XT.ushr x4_ (6 : Int32)) &&& (3 : Int32)), iv ((XT.ushr x4_ (8 : Int32)) &&& (3 : Int32)), .unset, .unset] [(.int x2_), (.int ((XT.ushr x4_ (6 : Int32)) &&& (3 : Int32))), (.ref sx79), (.ref sx62), (.ref b50), (.ref b50)]
    obtain ⟨_, T97, L97, X97, hQ97, st97, hS, hZ, hown, hB97⟩ := own_callStW X79 hx hZ hown (ow48 hw) (ow49 hw) (ow5 hw) (ow50 hw) (by decide) (rmk l Z a0 hw [] ((XT.ushr x4_ (6 : Int32)) &&& (3 : Int32)) x2_ qc T79.heap n0 Zs79 F80 S_cs hq) rfl (W := 4) (by decide) (by decide) (by decide) (by decide) (pc := 89) (ls := #[iv x0_, iv x1_, iv x2_, iv x3_, iv x4_, rv b1, iv (x4_ &&& (3 : Int32)), iv ((XT.ushr x4_ (2 : Int32)) &&& (3 : Int32)), iv ((XT.ushr x4_ (4 : Int32)) &&& (3 : Int32)), iv ((XT.ushr x4_ (6 : Int32)) &&& (3 : Int32)), iv ((XT.ushr x4_ (8 : Int32)) &&& (3 : Int32)), .unset, .unset]) (stk := [(.int x2_), (.int ((XT.ushr x4_ (6 : Int32)) &&& (3 : Int32))), (.ref sx79), (.ref sx62), (.ref b50), (.ref b50)]) (by rw [hml]; rfl) (argsL := [(.int ((XT.ushr x4_ (6 : Int32)) &&& (3 : Int32))), (.int x2_)]) (rest := [(.ref sx79), (.ref sx62), (.ref b50), (.ref b50)]) (lenOf pd14 rfl) rfl rfl (Nat.le_of_eq rfl) (hb hby at_89) hS hkk (own_EW hw) hC all0
    obtain ⟨sx97, rfl, Nq97, Kq97, Oq97, hz97⟩ := hQ97
    have nq97_b1 : b1 ≠ sx97 := Nat.ne_of_lt (Nat.lt_of_lt_of_le F85.lt hz97)
    have nq97_b50 : b50 ≠ sx97 := Nat.ne_of_lt (Nat.lt_of_lt_of_le F90.lt hz97)
    have nq97_sx12 : sx12 ≠ sx97 := Nat.ne_of_lt (Nat.lt_of_lt_of_le F82.lt hz97)
    have nq97_sx21 : sx21 ≠ sx97 := Nat.ne_of_lt (Nat.lt_of_lt_of_le F83.lt hz97)
    have nq97_sx31 : sx31 ≠ sx97 := Nat.ne_of_lt (Nat.lt_of_lt_of_le F84.lt hz97)
    have nq97_sx4 : sx4 ≠ sx97 := Nat.ne_of_lt (Nat.lt_of_lt_of_le F81.lt hz97)
    have nq97_sx62 : sx62 ≠ sx97 := Nat.ne_of_lt (Nat.lt_of_lt_of_le F95.lt hz97)
    have nq97_sx79 : sx79 ≠ sx97 := Nat.ne_of_lt (Nat.lt_of_lt_of_le Oq79.lt hz97)
    have gq97 : n0 ≤ sx97 := Nat.le_trans Zs79 hz97
    have N97 := Fr.app N79 Nq97
    have Zs97 : n0 ≤ T97.heap.size := Nat.le_trans Zs79 Kq97.1
    have F98 := F80.keep Kq97 all0
    have F99 := F81.keep0 Kq97
    have F100 := F82.keep0 Kq97
    have F101 := F83.keep0 Kq97
    have F102 := F84.keep0 Kq97
    have F103 := F85.keep Kq97
    have F104 := F86.keep Kq97 nin0
    have F105 := F87.keep Kq97 nin0
    have F106 := F88.keep Kq97 nin0
    have F107 := F89.keep Kq97 nin0
    have F108 := F90.keep Kq97
    have F109 := F91.keep Kq97 nin0
    have F110 := F92.keep Kq97 nin0
    have F111 := F93.keep Kq97 nin0
    have F112 := F94.keep Kq97 nin0
    have F113 := F95.keep0 Kq97
    have F114 := Oq79.keep0 Kq97
    have hA115 := hB97
    have sf_b1 := hA115.safe F85.lt sf_b1
    have sf_b50 := hA115.safe F90.lt sf_b50
    have hkk := Nat.le_refl T97.heap.size
    have hC := hC.trans hA115
    refine os st97 ?_
    show OG p e below Φ T97 m 92 #[iv x0_, iv x1_, iv x2_, iv x3_, iv x4_, rv b1, iv (x4_ &&& (3 : Int32)), iv ((XT.ushr x4_ (2 : Int32)) &&& (3 : Int32)), iv ((XT.ushr x4_ (4 : Int32)) &&& (3 : Int32)), iv ((XT.ushr x4_ (6 : Int32)) &&& (3 : Int32)), iv ((XT.ushr x4_ (8 : Int32)) &&& (3 : Int32)), .unset, .unset] [(.ref sx97), (.ref sx79), (.ref sx62), (.ref b50), (.ref b50)]
    refine os (fun _ z => XS.iload X97.here hx rfl (hb hby at_92) rfl z) ?_
    show OG p e below Φ T97 m 94 #[iv x0_, iv x1_, iv x2_, iv x3_, iv x4_, rv b1, iv (x4_ &&& (3 : Int32)), iv ((XT.ushr x4_ (2 : Int32)) &&& (3 : Int32)), iv ((XT.ushr x4_ (4 : Int32)) &&& (3 : Int32)), iv ((XT.ushr x4_ (6 : Int32)) &&& (3 : Int32)), iv ((XT.ushr x4_ (8 : Int32)) &&& (3 : Int32)), .unset, .unset] [(.int ((XT.ushr x4_ (8 : Int32)) &&& (3 : Int32))), (.ref sx97), (.ref sx79), (.ref sx62), (.ref b50), (.ref b50)]
    refine os (fun _ z => XS.iloadN X97.here hx rfl (hb hby at_94) rfl z) ?_
    show OG p e below Φ T97 m 95 #[iv x0_, iv x1_, iv x2_, iv x3_, iv x4_, rv b1, iv (x4_ &&& (3 : Int32)), iv ((XT.ushr x4_ (2 : Int32)) &&& (3 : Int32)), iv ((XT.ushr x4_ (4 : Int32)) &&& (3 : Int32)), iv ((XT.ushr x4_ (6 : Int32)) &&& (3 : Int32)), iv ((XT.ushr x4_ (8 : Int32)) &&& (3 : Int32)), .unset, .unset] [(.int x3_), (.int ((XT.ushr x4_ (8 : Int32)) &&& (3 : Int32))), (.ref sx97), (.ref sx79), (.ref sx62), (.ref b50), (.ref b50)]
    obtain ⟨_, T116, L116, X116, hQ116, st116, hS, hZ, hown, hB116⟩ := own_callStW X97 hx hZ hown (ow48 hw) (ow49 hw) (ow5 hw) (ow50 hw) (by decide) (rmk l Z a0 hw [] ((XT.ushr x4_ (8 : Int32)) &&& (3 : Int32)) x3_ qc T97.heap n0 Zs97 F98 S_cs hq) rfl (W := 5) (by decide) (by decide) (by decide) (by decide) (pc := 95) (ls := #[iv x0_, iv x1_, iv x2_, iv x3_, iv x4_, rv b1, iv (x4_ &&& (3 : Int32)), iv ((XT.ushr x4_ (2 : Int32)) &&& (3 : Int32)), iv ((XT.ushr x4_ (4 : Int32)) &&& (3 : Int32)), iv ((XT.ushr x4_ (6 : Int32)) &&& (3 : Int32)), iv ((XT.ushr x4_ (8 : Int32)) &&& (3 : Int32)), .unset, .unset]) (stk := [(.int x3_), (.int ((XT.ushr x4_ (8 : Int32)) &&& (3 : Int32))), (.ref sx97), (.ref sx79), (.ref sx62), (.ref b50), (.ref b50)]) (by rw [hml]; rfl) (argsL := [(.int ((XT.ushr x4_ (8 : Int32)) &&& (3 : Int32))), (.int x3_)]) (rest := [(.ref sx97), (.ref sx79), (.ref sx62), (.ref b50), (.ref b50)]) (lenOf pd14 rfl) rfl rfl (Nat.le_of_eq rfl) (hb hby at_95) hS hkk (own_EW hw) hC all0
    obtain ⟨sx116, rfl, Nq116, Kq116, Oq116, hz116⟩ := hQ116
    have nq116_b1 : b1 ≠ sx116 := Nat.ne_of_lt (Nat.lt_of_lt_of_le F103.lt hz116)
    have nq116_b50 : b50 ≠ sx116 := Nat.ne_of_lt (Nat.lt_of_lt_of_le F108.lt hz116)
    have nq116_sx12 : sx12 ≠ sx116 := Nat.ne_of_lt (Nat.lt_of_lt_of_le F100.lt hz116)
    have nq116_sx21 : sx21 ≠ sx116 := Nat.ne_of_lt (Nat.lt_of_lt_of_le F101.lt hz116)
    have nq116_sx31 : sx31 ≠ sx116 := Nat.ne_of_lt (Nat.lt_of_lt_of_le F102.lt hz116)
    have nq116_sx4 : sx4 ≠ sx116 := Nat.ne_of_lt (Nat.lt_of_lt_of_le F99.lt hz116)
    have nq116_sx62 : sx62 ≠ sx116 := Nat.ne_of_lt (Nat.lt_of_lt_of_le F113.lt hz116)
    have nq116_sx79 : sx79 ≠ sx116 := Nat.ne_of_lt (Nat.lt_of_lt_of_le F114.lt hz116)
    have nq116_sx97 : sx97 ≠ sx116 := Nat.ne_of_lt (Nat.lt_of_lt_of_le Oq97.lt hz116)
    have gq116 : n0 ≤ sx116 := Nat.le_trans Zs97 hz116
    have N116 := Fr.app N97 Nq116
    have Zs116 : n0 ≤ T116.heap.size := Nat.le_trans Zs97 Kq116.1
    have F117 := F98.keep Kq116 all0
    have F118 := F99.keep0 Kq116
    have F119 := F100.keep0 Kq116
    have F120 := F101.keep0 Kq116
    have F121 := F102.keep0 Kq116
    have F122 := F103.keep Kq116
    have F123 := F104.keep Kq116 nin0
    have F124 := F105.keep Kq116 nin0
    have F125 := F106.keep Kq116 nin0
    have F126 := F107.keep Kq116 nin0
    have F127 := F108.keep Kq116
    have F128 := F109.keep Kq116 nin0
    have F129 := F110.keep Kq116 nin0
    have F130 := F111.keep Kq116 nin0
    have F131 := F112.keep Kq116 nin0
    have F132 := F113.keep0 Kq116
    have F133 := F114.keep0 Kq116
    have F134 := Oq97.keep0 Kq116
    have hA135 := hB116
    have sf_b1 := hA135.safe F103.lt sf_b1
    have sf_b50 := hA135.safe F108.lt sf_b50
    have hkk := Nat.le_refl T116.heap.size
    have hC := hC.trans hA135
    refine os st116 ?_
    show OG p e below Φ T116 m 98 #[iv x0_, iv x1_, iv x2_, iv x3_, iv x4_, rv b1, iv (x4_ &&& (3 : Int32)), iv ((XT.ushr x4_ (2 : Int32)) &&& (3 : Int32)), iv ((XT.ushr x4_ (4 : Int32)) &&& (3 : Int32)), iv ((XT.ushr x4_ (6 : Int32)) &&& (3 : Int32)), iv ((XT.ushr x4_ (8 : Int32)) &&& (3 : Int32)), .unset, .unset] [(.ref sx116), (.ref sx97), (.ref sx79), (.ref sx62), (.ref b50), (.ref b50)]
    obtain ⟨_, T136, L136, X136, hQ136, st136⟩ := own_callSp X116 hx hZ rfl hown (ow36 hw) (ow37 hw) (ow2 hw) (ow38 hw) (by decide) (rini l Z a0 hw [] b50 sx62 sx79 sx97 sx116 .null .null .null .null T116.heap n0 Zs116 F127 gb50 F128 F129 F130 F131) rfl (W := 1) (by decide) (by decide) (by decide) (by decide) (pc := 98) (ls := #[iv x0_, iv x1_, iv x2_, iv x3_, iv x4_, rv b1, iv (x4_ &&& (3 : Int32)), iv ((XT.ushr x4_ (2 : Int32)) &&& (3 : Int32)), iv ((XT.ushr x4_ (4 : Int32)) &&& (3 : Int32)), iv ((XT.ushr x4_ (6 : Int32)) &&& (3 : Int32)), iv ((XT.ushr x4_ (8 : Int32)) &&& (3 : Int32)), .unset, .unset]) (stk := [(.ref sx116), (.ref sx97), (.ref sx79), (.ref sx62), (.ref b50), (.ref b50)]) (by rw [hml]; rfl) (a := b50) (argsL := [(.ref sx62), (.ref sx79), (.ref sx97), (.ref sx116)]) (rest := [(.ref b50)]) (lenOf pd13 rfl) rfl rfl (Nat.le_of_eq rfl) (hb hby at_98)
    obtain ⟨rfl, Nq136, Kq136, Eq136, Fq136_0, Fq136_1, Fq136_2, Fq136_3⟩ := hQ136
    have N136 := Fr.app N116 Nq136
    have Zs136 : n0 ≤ T136.heap.size := Nat.le_trans Zs116 Kq136.1
    have F137 := F117.keep Kq136 (allS gb50 all0)
    have F138 := F118.keep1 Kq136 F127 (ow1 hw) (by decide)
    have F139 := F119.keep1 Kq136 F127 (ow1 hw) (by decide)
    have F140 := F120.keep1 Kq136 F127 (ow1 hw) (by decide)
    have F141 := F121.keep1 Kq136 F127 (ow1 hw) (by decide)
    have F142 := F122.keep Kq136
    have F143 := F123.keep Kq136 (ninS ne50_b1 nin0)
    have F144 := F124.keep Kq136 (ninS ne50_b1 nin0)
    have F145 := F125.keep Kq136 (ninS ne50_b1 nin0)
    have F146 := F126.keep Kq136 (ninS ne50_b1 nin0)
    have F147 := F132.keep1 Kq136 F127 (ow1 hw) (by decide)
    have F148 := F133.keep1 Kq136 F127 (ow1 hw) (by decide)
    have F149 := F134.keep1 Kq136 F127 (ow1 hw) (by decide)
    have F150 := Oq116.keep1 Kq136 F127 (ow1 hw) (by decide)
    have hA151 := CHr.keep Kq136 (sfS sf_b50 sf0) hC.1
    have sf_b1 := hA151.safe F122.lt sf_b1
    have sf_b50 := hA151.safe F127.lt sf_b50
    have hkk := Nat.le_trans hkk hA151.2.1
    have hC := hC.trans hA151
    refine os st136 ?_
    show OG p e below Φ T136 m 101 #[iv x0_, iv x1_, iv x2_, iv x3_, iv x4_, rv b1, iv (x4_ &&& (3 : Int32)), iv ((XT.ushr x4_ (2 : Int32)) &&& (3 : Int32)), iv ((XT.ushr x4_ (4 : Int32)) &&& (3 : Int32)), iv ((XT.ushr x4_ (6 : Int32)) &&& (3 : Int32)), iv ((XT.ushr x4_ (8 : Int32)) &&& (3 : Int32)), .unset, .unset] [(.ref b50)]
    refine os (fun _ z => XS.astore X136.here hx rfl (hb hby at_101) rfl rfl (l' := #[iv x0_, iv x1_, iv x2_, iv x3_, iv x4_, rv b1, iv (x4_ &&& (3 : Int32)), iv ((XT.ushr x4_ (2 : Int32)) &&& (3 : Int32)), iv ((XT.ushr x4_ (4 : Int32)) &&& (3 : Int32)), iv ((XT.ushr x4_ (6 : Int32)) &&& (3 : Int32)), iv ((XT.ushr x4_ (8 : Int32)) &&& (3 : Int32)), rv b50, .unset]) rfl z) ?_
    show OG p e below Φ T136 m 103 #[iv x0_, iv x1_, iv x2_, iv x3_, iv x4_, rv b1, iv (x4_ &&& (3 : Int32)), iv ((XT.ushr x4_ (2 : Int32)) &&& (3 : Int32)), iv ((XT.ushr x4_ (4 : Int32)) &&& (3 : Int32)), iv ((XT.ushr x4_ (6 : Int32)) &&& (3 : Int32)), iv ((XT.ushr x4_ (8 : Int32)) &&& (3 : Int32)), rv b50, .unset] []
    refine os (fun _ z => XS.iload X136.here hx rfl (hb hby at_103) rfl z) ?_
    show OG p e below Φ T136 m 105 #[iv x0_, iv x1_, iv x2_, iv x3_, iv x4_, rv b1, iv (x4_ &&& (3 : Int32)), iv ((XT.ushr x4_ (2 : Int32)) &&& (3 : Int32)), iv ((XT.ushr x4_ (4 : Int32)) &&& (3 : Int32)), iv ((XT.ushr x4_ (6 : Int32)) &&& (3 : Int32)), iv ((XT.ushr x4_ (8 : Int32)) &&& (3 : Int32)), rv b50, .unset] [(.int ((XT.ushr x4_ (2 : Int32)) &&& (3 : Int32)))]
    refine os (fun _ z => XS.iloadN X136.here hx rfl (hb hby at_105) rfl z) ?_
    show OG p e below Φ T136 m 106 #[iv x0_, iv x1_, iv x2_, iv x3_, iv x4_, rv b1, iv (x4_ &&& (3 : Int32)), iv ((XT.ushr x4_ (2 : Int32)) &&& (3 : Int32)), iv ((XT.ushr x4_ (4 : Int32)) &&& (3 : Int32)), iv ((XT.ushr x4_ (6 : Int32)) &&& (3 : Int32)), iv ((XT.ushr x4_ (8 : Int32)) &&& (3 : Int32)), rv b50, .unset] [(.int x0_), (.int ((XT.ushr x4_ (2 : Int32)) &&& (3 : Int32)))]
    obtain ⟨_, T152, L152, X152, hQ152, st152⟩ := own_callSt X136 hx hZ hown (ow51 hw) (ow52 hw) (ow5 hw) (ow53 hw) (by decide) (rsm l Z a0 hw [] ((XT.ushr x4_ (2 : Int32)) &&& (3 : Int32)) x0_ T136.heap n0 Zs136 ) rfl (W := 0) (by decide) (by decide) (by decide) (by decide) (pc := 106) (ls := #[iv x0_, iv x1_, iv x2_, iv x3_, iv x4_, rv b1, iv (x4_ &&& (3 : Int32)), iv ((XT.ushr x4_ (2 : Int32)) &&& (3 : Int32)), iv ((XT.ushr x4_ (4 : Int32)) &&& (3 : Int32)), iv ((XT.ushr x4_ (6 : Int32)) &&& (3 : Int32)), iv ((XT.ushr x4_ (8 : Int32)) &&& (3 : Int32)), rv b50, .unset]) (stk := [(.int x0_), (.int ((XT.ushr x4_ (2 : Int32)) &&& (3 : Int32)))]) (by rw [hml]; rfl) (argsL := [(.int ((XT.ushr x4_ (2 : Int32)) &&& (3 : Int32))), (.int x0_)]) (rest := []) (lenOf pd15 rfl) rfl rfl (Nat.le_of_eq rfl) (hb hby at_106)
    obtain ⟨rfl, Nq152, e152⟩ := hQ152
    have N152 := Fr.app N136 Nq152
    refine os st152 ?_
    show OG p e below Φ T152 m 109 #[iv x0_, iv x1_, iv x2_, iv x3_, iv x4_, rv b1, iv (x4_ &&& (3 : Int32)), iv ((XT.ushr x4_ (2 : Int32)) &&& (3 : Int32)), iv ((XT.ushr x4_ (4 : Int32)) &&& (3 : Int32)), iv ((XT.ushr x4_ (6 : Int32)) &&& (3 : Int32)), iv ((XT.ushr x4_ (8 : Int32)) &&& (3 : Int32)), rv b50, .unset] [(.int (own_same ((XT.ushr x4_ (2 : Int32)) &&& (3 : Int32)) x0_))]
    by_cases hc153 : (own_same ((XT.ushr x4_ (2 : Int32)) &&& (3 : Int32)) x0_) = 0
    · refine os (fun _ z => XS.ifYes X152.here hx rfl (pc0 := 109) (pc' := 143) rfl (hb hby at_109) rfl (XT.i0_eq_t hc153) (by decide) (by decide) z) ?_
      show OG p e below Φ T152 m 143 #[iv x0_, iv x1_, iv x2_, iv x3_, iv x4_, rv b1, iv (x4_ &&& (3 : Int32)), iv ((XT.ushr x4_ (2 : Int32)) &&& (3 : Int32)), iv ((XT.ushr x4_ (4 : Int32)) &&& (3 : Int32)), iv ((XT.ushr x4_ (6 : Int32)) &&& (3 : Int32)), iv ((XT.ushr x4_ (8 : Int32)) &&& (3 : Int32)), rv b50, .unset] []
      refine os (fun _ z => XS.iconst X152.here hx rfl (hb hby at_143) z) ?_
      show OG p e below Φ T152 m 144 #[iv x0_, iv x1_, iv x2_, iv x3_, iv x4_, rv b1, iv (x4_ &&& (3 : Int32)), iv ((XT.ushr x4_ (2 : Int32)) &&& (3 : Int32)), iv ((XT.ushr x4_ (4 : Int32)) &&& (3 : Int32)), iv ((XT.ushr x4_ (6 : Int32)) &&& (3 : Int32)), iv ((XT.ushr x4_ (8 : Int32)) &&& (3 : Int32)), rv b50, .unset] [(.int 0)]
      refine os (fun _ z => XS.istore X152.here hx rfl (hb hby at_144) rfl (l' := #[iv x0_, iv x1_, iv x2_, iv x3_, iv x4_, rv b1, iv (x4_ &&& (3 : Int32)), iv ((XT.ushr x4_ (2 : Int32)) &&& (3 : Int32)), iv ((XT.ushr x4_ (4 : Int32)) &&& (3 : Int32)), iv ((XT.ushr x4_ (6 : Int32)) &&& (3 : Int32)), iv ((XT.ushr x4_ (8 : Int32)) &&& (3 : Int32)), rv b50, iv 0]) rfl z) ?_
      show OG p e below Φ T152 m 146 #[iv x0_, iv x1_, iv x2_, iv x3_, iv x4_, rv b1, iv (x4_ &&& (3 : Int32)), iv ((XT.ushr x4_ (2 : Int32)) &&& (3 : Int32)), iv ((XT.ushr x4_ (4 : Int32)) &&& (3 : Int32)), iv ((XT.ushr x4_ (6 : Int32)) &&& (3 : Int32)), iv ((XT.ushr x4_ (8 : Int32)) &&& (3 : Int32)), rv b50, iv 0] []
      refine os (fun _ z => XS.goto X152.here hx rfl (pc0 := 146) (pc' := 189) rfl (hb hby at_146) (by decide) (by decide) z) ?_
      show OG p e below Φ T152 m 189 #[iv x0_, iv x1_, iv x2_, iv x3_, iv x4_, rv b1, iv (x4_ &&& (3 : Int32)), iv ((XT.ushr x4_ (2 : Int32)) &&& (3 : Int32)), iv ((XT.ushr x4_ (4 : Int32)) &&& (3 : Int32)), iv ((XT.ushr x4_ (6 : Int32)) &&& (3 : Int32)), iv ((XT.ushr x4_ (8 : Int32)) &&& (3 : Int32)), rv b50, iv 0] []
      refine os (fun _ z => XS.aload X152.here hx rfl (hb hby at_189) rfl rfl z) ?_
      show OG p e below Φ T152 m 191 #[iv x0_, iv x1_, iv x2_, iv x3_, iv x4_, rv b1, iv (x4_ &&& (3 : Int32)), iv ((XT.ushr x4_ (2 : Int32)) &&& (3 : Int32)), iv ((XT.ushr x4_ (4 : Int32)) &&& (3 : Int32)), iv ((XT.ushr x4_ (6 : Int32)) &&& (3 : Int32)), iv ((XT.ushr x4_ (8 : Int32)) &&& (3 : Int32)), rv b50, iv 0] [(.ref b1)]
      refine os (fun _ z => XS.aload X152.here hx rfl (hb hby at_191) rfl rfl z) ?_
      show OG p e below Φ T152 m 193 #[iv x0_, iv x1_, iv x2_, iv x3_, iv x4_, rv b1, iv (x4_ &&& (3 : Int32)), iv ((XT.ushr x4_ (2 : Int32)) &&& (3 : Int32)), iv ((XT.ushr x4_ (4 : Int32)) &&& (3 : Int32)), iv ((XT.ushr x4_ (6 : Int32)) &&& (3 : Int32)), iv ((XT.ushr x4_ (8 : Int32)) &&& (3 : Int32)), rv b50, iv 0] [(.ref b50), (.ref b1)]
      obtain ⟨_, T154, L154, X154, hQ154, st154⟩ := own_callVi X152 hx hZ hown (ow54 hw) (ow55 hw) (notFace_of_selects (args := #[]) (mvT hZ (ow57 hw))) (ow57 hw) (ow56 hw) (ow2 hw) (ow58 hw) (by decide) (rio l Z a0 hw [] b1 b50 sx4 sx12 sx21 sx31 sx62 sx79 sx97 sx116 (own_b (own_c1 x0_)) (own_b (own_c1 x1_)) (own_b (own_c1 x2_)) (own_b (own_c1 x3_)) (own_t ((XT.ushr x4_ (2 : Int32)) &&& (3 : Int32))) (own_t ((XT.ushr x4_ (4 : Int32)) &&& (3 : Int32))) (own_t ((XT.ushr x4_ (6 : Int32)) &&& (3 : Int32))) (own_t ((XT.ushr x4_ (8 : Int32)) &&& (3 : Int32))) (own_bb ((XT.ushr x4_ (2 : Int32)) &&& (3 : Int32)) x0_) (own_bb ((XT.ushr x4_ (4 : Int32)) &&& (3 : Int32)) x1_) (own_bb ((XT.ushr x4_ (6 : Int32)) &&& (3 : Int32)) x2_) (own_bb ((XT.ushr x4_ (8 : Int32)) &&& (3 : Int32)) x3_) qc T136.heap n0 Zs136 F142 Eq136 (S_cs.ext F137.2) hq F143 F144 F145 F146 Fq136_0 Fq136_1 Fq136_2 Fq136_3 F138 F147 nq62_sx4 F139 F148 nq79_sx12 F140 F149 nq97_sx21 F141 F150 nq116_sx31) e152 (W := 0) (by decide) (by decide) (by decide) (by decide) F142 (pc := 193) (ls := #[iv x0_, iv x1_, iv x2_, iv x3_, iv x4_, rv b1, iv (x4_ &&& (3 : Int32)), iv ((XT.ushr x4_ (2 : Int32)) &&& (3 : Int32)), iv ((XT.ushr x4_ (4 : Int32)) &&& (3 : Int32)), iv ((XT.ushr x4_ (6 : Int32)) &&& (3 : Int32)), iv ((XT.ushr x4_ (8 : Int32)) &&& (3 : Int32)), rv b50, iv 0]) (stk := [(.ref b50), (.ref b1)]) (by rw [hml]; rfl) (argsL := [(.ref b50)]) (rest := []) (lenOf pd11 rfl) rfl rfl (Nat.le_of_eq rfl) (hb hby at_193)
      obtain ⟨rfl, Nq154, e154⟩ := hQ154
      have N154 := Fr.app N152 Nq154
      refine os st154 ?_
      show OG p e below Φ T154 m 196 #[iv x0_, iv x1_, iv x2_, iv x3_, iv x4_, rv b1, iv (x4_ &&& (3 : Int32)), iv ((XT.ushr x4_ (2 : Int32)) &&& (3 : Int32)), iv ((XT.ushr x4_ (4 : Int32)) &&& (3 : Int32)), iv ((XT.ushr x4_ (6 : Int32)) &&& (3 : Int32)), iv ((XT.ushr x4_ (8 : Int32)) &&& (3 : Int32)), rv b50, iv 0] [(.int (own_4 (own_eq (own_t ((XT.ushr x4_ (2 : Int32)) &&& (3 : Int32))) (own_b (own_c1 x0_)) (own_bb ((XT.ushr x4_ (2 : Int32)) &&& (3 : Int32)) x0_)) (own_eq (own_t ((XT.ushr x4_ (4 : Int32)) &&& (3 : Int32))) (own_b (own_c1 x1_)) (own_bb ((XT.ushr x4_ (4 : Int32)) &&& (3 : Int32)) x1_)) (own_eq (own_t ((XT.ushr x4_ (6 : Int32)) &&& (3 : Int32))) (own_b (own_c1 x2_)) (own_bb ((XT.ushr x4_ (6 : Int32)) &&& (3 : Int32)) x2_)) (own_eq (own_t ((XT.ushr x4_ (8 : Int32)) &&& (3 : Int32))) (own_b (own_c1 x3_)) (own_bb ((XT.ushr x4_ (8 : Int32)) &&& (3 : Int32)) x3_))))]
      refine os (fun _ z => XS.iload X154.here hx rfl (hb hby at_196) rfl z) ?_
      show OG p e below Φ T154 m 198 #[iv x0_, iv x1_, iv x2_, iv x3_, iv x4_, rv b1, iv (x4_ &&& (3 : Int32)), iv ((XT.ushr x4_ (2 : Int32)) &&& (3 : Int32)), iv ((XT.ushr x4_ (4 : Int32)) &&& (3 : Int32)), iv ((XT.ushr x4_ (6 : Int32)) &&& (3 : Int32)), iv ((XT.ushr x4_ (8 : Int32)) &&& (3 : Int32)), rv b50, iv 0] [(.int 0), (.int (own_4 (own_eq (own_t ((XT.ushr x4_ (2 : Int32)) &&& (3 : Int32))) (own_b (own_c1 x0_)) (own_bb ((XT.ushr x4_ (2 : Int32)) &&& (3 : Int32)) x0_)) (own_eq (own_t ((XT.ushr x4_ (4 : Int32)) &&& (3 : Int32))) (own_b (own_c1 x1_)) (own_bb ((XT.ushr x4_ (4 : Int32)) &&& (3 : Int32)) x1_)) (own_eq (own_t ((XT.ushr x4_ (6 : Int32)) &&& (3 : Int32))) (own_b (own_c1 x2_)) (own_bb ((XT.ushr x4_ (6 : Int32)) &&& (3 : Int32)) x2_)) (own_eq (own_t ((XT.ushr x4_ (8 : Int32)) &&& (3 : Int32))) (own_b (own_c1 x3_)) (own_bb ((XT.ushr x4_ (8 : Int32)) &&& (3 : Int32)) x3_))))]
      by_cases hc155 : (own_4 (own_eq (own_t ((XT.ushr x4_ (2 : Int32)) &&& (3 : Int32))) (own_b (own_c1 x0_)) (own_bb ((XT.ushr x4_ (2 : Int32)) &&& (3 : Int32)) x0_)) (own_eq (own_t ((XT.ushr x4_ (4 : Int32)) &&& (3 : Int32))) (own_b (own_c1 x1_)) (own_bb ((XT.ushr x4_ (4 : Int32)) &&& (3 : Int32)) x1_)) (own_eq (own_t ((XT.ushr x4_ (6 : Int32)) &&& (3 : Int32))) (own_b (own_c1 x2_)) (own_bb ((XT.ushr x4_ (6 : Int32)) &&& (3 : Int32)) x2_)) (own_eq (own_t ((XT.ushr x4_ (8 : Int32)) &&& (3 : Int32))) (own_b (own_c1 x3_)) (own_bb ((XT.ushr x4_ (8 : Int32)) &&& (3 : Int32)) x3_))) = (0 : Int32)
      · refine os (fun _ z => XS.icmpNo X154.here hx rfl (hb hby at_198) rfl (XT.ii_ne_f hc155) z) ?_
        show OG p e below Φ T154 m 201 #[iv x0_, iv x1_, iv x2_, iv x3_, iv x4_, rv b1, iv (x4_ &&& (3 : Int32)), iv ((XT.ushr x4_ (2 : Int32)) &&& (3 : Int32)), iv ((XT.ushr x4_ (4 : Int32)) &&& (3 : Int32)), iv ((XT.ushr x4_ (6 : Int32)) &&& (3 : Int32)), iv ((XT.ushr x4_ (8 : Int32)) &&& (3 : Int32)), rv b50, iv 0] []
        refine os (fun _ z => XS.iconst X154.here hx rfl (hb hby at_201) z) ?_
        show OG p e below Φ T154 m 202 #[iv x0_, iv x1_, iv x2_, iv x3_, iv x4_, rv b1, iv (x4_ &&& (3 : Int32)), iv ((XT.ushr x4_ (2 : Int32)) &&& (3 : Int32)), iv ((XT.ushr x4_ (4 : Int32)) &&& (3 : Int32)), iv ((XT.ushr x4_ (6 : Int32)) &&& (3 : Int32)), iv ((XT.ushr x4_ (8 : Int32)) &&& (3 : Int32)), rv b50, iv 0] [(.int 1)]
        refine os (fun _ z => XS.goto X154.here hx rfl (pc0 := 202) (pc' := 206) rfl (hb hby at_202) (by decide) (by decide) z) ?_
        show OG p e below Φ T154 m 206 #[iv x0_, iv x1_, iv x2_, iv x3_, iv x4_, rv b1, iv (x4_ &&& (3 : Int32)), iv ((XT.ushr x4_ (2 : Int32)) &&& (3 : Int32)), iv ((XT.ushr x4_ (4 : Int32)) &&& (3 : Int32)), iv ((XT.ushr x4_ (6 : Int32)) &&& (3 : Int32)), iv ((XT.ushr x4_ (8 : Int32)) &&& (3 : Int32)), rv b50, iv 0] [(.int 1)]
        refine OGo.finW X154 hlk hS e154 hkk (v := (some (.int 1))) (fun h => by rw [hret] at h; cases h) (by decide) (by decide) hZ (own_EW hw) hC (fun fs hr => X154.ireturnOut hx hret rfl (by simp) (hb hby at_206) hr) fun U eU hc hF => hΦ _ _ _ ?_ hc hF
        rw [eU]
        show Q_rm0 Z x0_ x1_ x2_ x3_ x4_ qc h0 n0 _ _ _
        exact ⟨rfl, N154⟩
      · refine os (fun _ z => XS.icmpYes X154.here hx rfl (pc0 := 198) (pc' := 205) rfl (hb hby at_198) rfl (XT.ii_ne_t hc155) (by decide) (by decide) z) ?_
        show OG p e below Φ T154 m 205 #[iv x0_, iv x1_, iv x2_, iv x3_, iv x4_, rv b1, iv (x4_ &&& (3 : Int32)), iv ((XT.ushr x4_ (2 : Int32)) &&& (3 : Int32)), iv ((XT.ushr x4_ (4 : Int32)) &&& (3 : Int32)), iv ((XT.ushr x4_ (6 : Int32)) &&& (3 : Int32)), iv ((XT.ushr x4_ (8 : Int32)) &&& (3 : Int32)), rv b50, iv 0] []
        refine os (fun _ z => XS.iconst X154.here hx rfl (hb hby at_205) z) ?_
        show OG p e below Φ T154 m 206 #[iv x0_, iv x1_, iv x2_, iv x3_, iv x4_, rv b1, iv (x4_ &&& (3 : Int32)), iv ((XT.ushr x4_ (2 : Int32)) &&& (3 : Int32)), iv ((XT.ushr x4_ (4 : Int32)) &&& (3 : Int32)), iv ((XT.ushr x4_ (6 : Int32)) &&& (3 : Int32)), iv ((XT.ushr x4_ (8 : Int32)) &&& (3 : Int32)), rv b50, iv 0] [(.int 0)]
        exact absurd (by simp only [own_es]; simp [own_4, hc153]) hc155
    · refine os (fun _ z => XS.ifNo X152.here hx rfl (hb hby at_109) rfl (XT.i0_eq_f hc153) z) ?_
      show OG p e below Φ T152 m 112 #[iv x0_, iv x1_, iv x2_, iv x3_, iv x4_, rv b1, iv (x4_ &&& (3 : Int32)), iv ((XT.ushr x4_ (2 : Int32)) &&& (3 : Int32)), iv ((XT.ushr x4_ (4 : Int32)) &&& (3 : Int32)), iv ((XT.ushr x4_ (6 : Int32)) &&& (3 : Int32)), iv ((XT.ushr x4_ (8 : Int32)) &&& (3 : Int32)), rv b50, .unset] []
      refine os (fun _ z => XS.iload X152.here hx rfl (hb hby at_112) rfl z) ?_
      show OG p e below Φ T152 m 114 #[iv x0_, iv x1_, iv x2_, iv x3_, iv x4_, rv b1, iv (x4_ &&& (3 : Int32)), iv ((XT.ushr x4_ (2 : Int32)) &&& (3 : Int32)), iv ((XT.ushr x4_ (4 : Int32)) &&& (3 : Int32)), iv ((XT.ushr x4_ (6 : Int32)) &&& (3 : Int32)), iv ((XT.ushr x4_ (8 : Int32)) &&& (3 : Int32)), rv b50, .unset] [(.int ((XT.ushr x4_ (4 : Int32)) &&& (3 : Int32)))]
      refine os (fun _ z => XS.iloadN X152.here hx rfl (hb hby at_114) rfl z) ?_
      show OG p e below Φ T152 m 115 #[iv x0_, iv x1_, iv x2_, iv x3_, iv x4_, rv b1, iv (x4_ &&& (3 : Int32)), iv ((XT.ushr x4_ (2 : Int32)) &&& (3 : Int32)), iv ((XT.ushr x4_ (4 : Int32)) &&& (3 : Int32)), iv ((XT.ushr x4_ (6 : Int32)) &&& (3 : Int32)), iv ((XT.ushr x4_ (8 : Int32)) &&& (3 : Int32)), rv b50, .unset] [(.int x1_), (.int ((XT.ushr x4_ (4 : Int32)) &&& (3 : Int32)))]
      obtain ⟨_, T156, L156, X156, hQ156, st156⟩ := own_callSt X152 hx hZ hown (ow51 hw) (ow52 hw) (ow5 hw) (ow53 hw) (by decide) (rsm l Z a0 hw [] ((XT.ushr x4_ (4 : Int32)) &&& (3 : Int32)) x1_ T136.heap n0 Zs136 ) e152 (W := 0) (by decide) (by decide) (by decide) (by decide) (pc := 115) (ls := #[iv x0_, iv x1_, iv x2_, iv x3_, iv x4_, rv b1, iv (x4_ &&& (3 : Int32)), iv ((XT.ushr x4_ (2 : Int32)) &&& (3 : Int32)), iv ((XT.ushr x4_ (4 : Int32)) &&& (3 : Int32)), iv ((XT.ushr x4_ (6 : Int32)) &&& (3 : Int32)), iv ((XT.ushr x4_ (8 : Int32)) &&& (3 : Int32)), rv b50, .unset]) (stk := [(.int x1_), (.int ((XT.ushr x4_ (4 : Int32)) &&& (3 : Int32)))]) (by rw [hml]; rfl) (argsL := [(.int ((XT.ushr x4_ (4 : Int32)) &&& (3 : Int32))), (.int x1_)]) (rest := []) (lenOf pd15 rfl) rfl rfl (Nat.le_of_eq rfl) (hb hby at_115)
      obtain ⟨rfl, Nq156, e156⟩ := hQ156
      have N156 := Fr.app N152 Nq156
      refine os st156 ?_
      show OG p e below Φ T156 m 118 #[iv x0_, iv x1_, iv x2_, iv x3_, iv x4_, rv b1, iv (x4_ &&& (3 : Int32)), iv ((XT.ushr x4_ (2 : Int32)) &&& (3 : Int32)), iv ((XT.ushr x4_ (4 : Int32)) &&& (3 : Int32)), iv ((XT.ushr x4_ (6 : Int32)) &&& (3 : Int32)), iv ((XT.ushr x4_ (8 : Int32)) &&& (3 : Int32)), rv b50, .unset] [(.int (own_same ((XT.ushr x4_ (4 : Int32)) &&& (3 : Int32)) x1_))]
      by_cases hc157 : (own_same ((XT.ushr x4_ (4 : Int32)) &&& (3 : Int32)) x1_) = 0
      · refine os (fun _ z => XS.ifYes X156.here hx rfl (pc0 := 118) (pc' := 143) rfl (hb hby at_118) rfl (XT.i0_eq_t hc157) (by decide) (by decide) z) ?_
        show OG p e below Φ T156 m 143 #[iv x0_, iv x1_, iv x2_, iv x3_, iv x4_, rv b1, iv (x4_ &&& (3 : Int32)), iv ((XT.ushr x4_ (2 : Int32)) &&& (3 : Int32)), iv ((XT.ushr x4_ (4 : Int32)) &&& (3 : Int32)), iv ((XT.ushr x4_ (6 : Int32)) &&& (3 : Int32)), iv ((XT.ushr x4_ (8 : Int32)) &&& (3 : Int32)), rv b50, .unset] []
        refine os (fun _ z => XS.iconst X156.here hx rfl (hb hby at_143) z) ?_
        show OG p e below Φ T156 m 144 #[iv x0_, iv x1_, iv x2_, iv x3_, iv x4_, rv b1, iv (x4_ &&& (3 : Int32)), iv ((XT.ushr x4_ (2 : Int32)) &&& (3 : Int32)), iv ((XT.ushr x4_ (4 : Int32)) &&& (3 : Int32)), iv ((XT.ushr x4_ (6 : Int32)) &&& (3 : Int32)), iv ((XT.ushr x4_ (8 : Int32)) &&& (3 : Int32)), rv b50, .unset] [(.int 0)]
        refine os (fun _ z => XS.istore X156.here hx rfl (hb hby at_144) rfl (l' := #[iv x0_, iv x1_, iv x2_, iv x3_, iv x4_, rv b1, iv (x4_ &&& (3 : Int32)), iv ((XT.ushr x4_ (2 : Int32)) &&& (3 : Int32)), iv ((XT.ushr x4_ (4 : Int32)) &&& (3 : Int32)), iv ((XT.ushr x4_ (6 : Int32)) &&& (3 : Int32)), iv ((XT.ushr x4_ (8 : Int32)) &&& (3 : Int32)), rv b50, iv 0]) rfl z) ?_
        show OG p e below Φ T156 m 146 #[iv x0_, iv x1_, iv x2_, iv x3_, iv x4_, rv b1, iv (x4_ &&& (3 : Int32)), iv ((XT.ushr x4_ (2 : Int32)) &&& (3 : Int32)), iv ((XT.ushr x4_ (4 : Int32)) &&& (3 : Int32)), iv ((XT.ushr x4_ (6 : Int32)) &&& (3 : Int32)), iv ((XT.ushr x4_ (8 : Int32)) &&& (3 : Int32)), rv b50, iv 0] []
        refine os (fun _ z => XS.goto X156.here hx rfl (pc0 := 146) (pc' := 189) rfl (hb hby at_146) (by decide) (by decide) z) ?_
        show OG p e below Φ T156 m 189 #[iv x0_, iv x1_, iv x2_, iv x3_, iv x4_, rv b1, iv (x4_ &&& (3 : Int32)), iv ((XT.ushr x4_ (2 : Int32)) &&& (3 : Int32)), iv ((XT.ushr x4_ (4 : Int32)) &&& (3 : Int32)), iv ((XT.ushr x4_ (6 : Int32)) &&& (3 : Int32)), iv ((XT.ushr x4_ (8 : Int32)) &&& (3 : Int32)), rv b50, iv 0] []
        refine os (fun _ z => XS.aload X156.here hx rfl (hb hby at_189) rfl rfl z) ?_
        show OG p e below Φ T156 m 191 #[iv x0_, iv x1_, iv x2_, iv x3_, iv x4_, rv b1, iv (x4_ &&& (3 : Int32)), iv ((XT.ushr x4_ (2 : Int32)) &&& (3 : Int32)), iv ((XT.ushr x4_ (4 : Int32)) &&& (3 : Int32)), iv ((XT.ushr x4_ (6 : Int32)) &&& (3 : Int32)), iv ((XT.ushr x4_ (8 : Int32)) &&& (3 : Int32)), rv b50, iv 0] [(.ref b1)]
        refine os (fun _ z => XS.aload X156.here hx rfl (hb hby at_191) rfl rfl z) ?_
        show OG p e below Φ T156 m 193 #[iv x0_, iv x1_, iv x2_, iv x3_, iv x4_, rv b1, iv (x4_ &&& (3 : Int32)), iv ((XT.ushr x4_ (2 : Int32)) &&& (3 : Int32)), iv ((XT.ushr x4_ (4 : Int32)) &&& (3 : Int32)), iv ((XT.ushr x4_ (6 : Int32)) &&& (3 : Int32)), iv ((XT.ushr x4_ (8 : Int32)) &&& (3 : Int32)), rv b50, iv 0] [(.ref b50), (.ref b1)]
        obtain ⟨_, T158, L158, X158, hQ158, st158⟩ := own_callVi X156 hx hZ hown (ow54 hw) (ow55 hw) (notFace_of_selects (args := #[]) (mvT hZ (ow57 hw))) (ow57 hw) (ow56 hw) (ow2 hw) (ow58 hw) (by decide) (rio l Z a0 hw [] b1 b50 sx4 sx12 sx21 sx31 sx62 sx79 sx97 sx116 (own_b (own_c1 x0_)) (own_b (own_c1 x1_)) (own_b (own_c1 x2_)) (own_b (own_c1 x3_)) (own_t ((XT.ushr x4_ (2 : Int32)) &&& (3 : Int32))) (own_t ((XT.ushr x4_ (4 : Int32)) &&& (3 : Int32))) (own_t ((XT.ushr x4_ (6 : Int32)) &&& (3 : Int32))) (own_t ((XT.ushr x4_ (8 : Int32)) &&& (3 : Int32))) (own_bb ((XT.ushr x4_ (2 : Int32)) &&& (3 : Int32)) x0_) (own_bb ((XT.ushr x4_ (4 : Int32)) &&& (3 : Int32)) x1_) (own_bb ((XT.ushr x4_ (6 : Int32)) &&& (3 : Int32)) x2_) (own_bb ((XT.ushr x4_ (8 : Int32)) &&& (3 : Int32)) x3_) qc T136.heap n0 Zs136 F142 Eq136 (S_cs.ext F137.2) hq F143 F144 F145 F146 Fq136_0 Fq136_1 Fq136_2 Fq136_3 F138 F147 nq62_sx4 F139 F148 nq79_sx12 F140 F149 nq97_sx21 F141 F150 nq116_sx31) e156 (W := 0) (by decide) (by decide) (by decide) (by decide) F142 (pc := 193) (ls := #[iv x0_, iv x1_, iv x2_, iv x3_, iv x4_, rv b1, iv (x4_ &&& (3 : Int32)), iv ((XT.ushr x4_ (2 : Int32)) &&& (3 : Int32)), iv ((XT.ushr x4_ (4 : Int32)) &&& (3 : Int32)), iv ((XT.ushr x4_ (6 : Int32)) &&& (3 : Int32)), iv ((XT.ushr x4_ (8 : Int32)) &&& (3 : Int32)), rv b50, iv 0]) (stk := [(.ref b50), (.ref b1)]) (by rw [hml]; rfl) (argsL := [(.ref b50)]) (rest := []) (lenOf pd11 rfl) rfl rfl (Nat.le_of_eq rfl) (hb hby at_193)
        obtain ⟨rfl, Nq158, e158⟩ := hQ158
        have N158 := Fr.app N156 Nq158
        refine os st158 ?_
        show OG p e below Φ T158 m 196 #[iv x0_, iv x1_, iv x2_, iv x3_, iv x4_, rv b1, iv (x4_ &&& (3 : Int32)), iv ((XT.ushr x4_ (2 : Int32)) &&& (3 : Int32)), iv ((XT.ushr x4_ (4 : Int32)) &&& (3 : Int32)), iv ((XT.ushr x4_ (6 : Int32)) &&& (3 : Int32)), iv ((XT.ushr x4_ (8 : Int32)) &&& (3 : Int32)), rv b50, iv 0] [(.int (own_4 (own_eq (own_t ((XT.ushr x4_ (2 : Int32)) &&& (3 : Int32))) (own_b (own_c1 x0_)) (own_bb ((XT.ushr x4_ (2 : Int32)) &&& (3 : Int32)) x0_)) (own_eq (own_t ((XT.ushr x4_ (4 : Int32)) &&& (3 : Int32))) (own_b (own_c1 x1_)) (own_bb ((XT.ushr x4_ (4 : Int32)) &&& (3 : Int32)) x1_)) (own_eq (own_t ((XT.ushr x4_ (6 : Int32)) &&& (3 : Int32))) (own_b (own_c1 x2_)) (own_bb ((XT.ushr x4_ (6 : Int32)) &&& (3 : Int32)) x2_)) (own_eq (own_t ((XT.ushr x4_ (8 : Int32)) &&& (3 : Int32))) (own_b (own_c1 x3_)) (own_bb ((XT.ushr x4_ (8 : Int32)) &&& (3 : Int32)) x3_))))]
        refine os (fun _ z => XS.iload X158.here hx rfl (hb hby at_196) rfl z) ?_
        show OG p e below Φ T158 m 198 #[iv x0_, iv x1_, iv x2_, iv x3_, iv x4_, rv b1, iv (x4_ &&& (3 : Int32)), iv ((XT.ushr x4_ (2 : Int32)) &&& (3 : Int32)), iv ((XT.ushr x4_ (4 : Int32)) &&& (3 : Int32)), iv ((XT.ushr x4_ (6 : Int32)) &&& (3 : Int32)), iv ((XT.ushr x4_ (8 : Int32)) &&& (3 : Int32)), rv b50, iv 0] [(.int 0), (.int (own_4 (own_eq (own_t ((XT.ushr x4_ (2 : Int32)) &&& (3 : Int32))) (own_b (own_c1 x0_)) (own_bb ((XT.ushr x4_ (2 : Int32)) &&& (3 : Int32)) x0_)) (own_eq (own_t ((XT.ushr x4_ (4 : Int32)) &&& (3 : Int32))) (own_b (own_c1 x1_)) (own_bb ((XT.ushr x4_ (4 : Int32)) &&& (3 : Int32)) x1_)) (own_eq (own_t ((XT.ushr x4_ (6 : Int32)) &&& (3 : Int32))) (own_b (own_c1 x2_)) (own_bb ((XT.ushr x4_ (6 : Int32)) &&& (3 : Int32)) x2_)) (own_eq (own_t ((XT.ushr x4_ (8 : Int32)) &&& (3 : Int32))) (own_b (own_c1 x3_)) (own_bb ((XT.ushr x4_ (8 : Int32)) &&& (3 : Int32)) x3_))))]
        by_cases hc159 : (own_4 (own_eq (own_t ((XT.ushr x4_ (2 : Int32)) &&& (3 : Int32))) (own_b (own_c1 x0_)) (own_bb ((XT.ushr x4_ (2 : Int32)) &&& (3 : Int32)) x0_)) (own_eq (own_t ((XT.ushr x4_ (4 : Int32)) &&& (3 : Int32))) (own_b (own_c1 x1_)) (own_bb ((XT.ushr x4_ (4 : Int32)) &&& (3 : Int32)) x1_)) (own_eq (own_t ((XT.ushr x4_ (6 : Int32)) &&& (3 : Int32))) (own_b (own_c1 x2_)) (own_bb ((XT.ushr x4_ (6 : Int32)) &&& (3 : Int32)) x2_)) (own_eq (own_t ((XT.ushr x4_ (8 : Int32)) &&& (3 : Int32))) (own_b (own_c1 x3_)) (own_bb ((XT.ushr x4_ (8 : Int32)) &&& (3 : Int32)) x3_))) = (0 : Int32)
        · refine os (fun _ z => XS.icmpNo X158.here hx rfl (hb hby at_198) rfl (XT.ii_ne_f hc159) z) ?_
          show OG p e below Φ T158 m 201 #[iv x0_, iv x1_, iv x2_, iv x3_, iv x4_, rv b1, iv (x4_ &&& (3 : Int32)), iv ((XT.ushr x4_ (2 : Int32)) &&& (3 : Int32)), iv ((XT.ushr x4_ (4 : Int32)) &&& (3 : Int32)), iv ((XT.ushr x4_ (6 : Int32)) &&& (3 : Int32)), iv ((XT.ushr x4_ (8 : Int32)) &&& (3 : Int32)), rv b50, iv 0] []
          refine os (fun _ z => XS.iconst X158.here hx rfl (hb hby at_201) z) ?_
          show OG p e below Φ T158 m 202 #[iv x0_, iv x1_, iv x2_, iv x3_, iv x4_, rv b1, iv (x4_ &&& (3 : Int32)), iv ((XT.ushr x4_ (2 : Int32)) &&& (3 : Int32)), iv ((XT.ushr x4_ (4 : Int32)) &&& (3 : Int32)), iv ((XT.ushr x4_ (6 : Int32)) &&& (3 : Int32)), iv ((XT.ushr x4_ (8 : Int32)) &&& (3 : Int32)), rv b50, iv 0] [(.int 1)]
          refine os (fun _ z => XS.goto X158.here hx rfl (pc0 := 202) (pc' := 206) rfl (hb hby at_202) (by decide) (by decide) z) ?_
          show OG p e below Φ T158 m 206 #[iv x0_, iv x1_, iv x2_, iv x3_, iv x4_, rv b1, iv (x4_ &&& (3 : Int32)), iv ((XT.ushr x4_ (2 : Int32)) &&& (3 : Int32)), iv ((XT.ushr x4_ (4 : Int32)) &&& (3 : Int32)), iv ((XT.ushr x4_ (6 : Int32)) &&& (3 : Int32)), iv ((XT.ushr x4_ (8 : Int32)) &&& (3 : Int32)), rv b50, iv 0] [(.int 1)]
          refine OGo.finW X158 hlk hS e158 hkk (v := (some (.int 1))) (fun h => by rw [hret] at h; cases h) (by decide) (by decide) hZ (own_EW hw) hC (fun fs hr => X158.ireturnOut hx hret rfl (by simp) (hb hby at_206) hr) fun U eU hc hF => hΦ _ _ _ ?_ hc hF
          rw [eU]
          show Q_rm0 Z x0_ x1_ x2_ x3_ x4_ qc h0 n0 _ _ _
          exact ⟨rfl, N158⟩
        · refine os (fun _ z => XS.icmpYes X158.here hx rfl (pc0 := 198) (pc' := 205) rfl (hb hby at_198) rfl (XT.ii_ne_t hc159) (by decide) (by decide) z) ?_
          show OG p e below Φ T158 m 205 #[iv x0_, iv x1_, iv x2_, iv x3_, iv x4_, rv b1, iv (x4_ &&& (3 : Int32)), iv ((XT.ushr x4_ (2 : Int32)) &&& (3 : Int32)), iv ((XT.ushr x4_ (4 : Int32)) &&& (3 : Int32)), iv ((XT.ushr x4_ (6 : Int32)) &&& (3 : Int32)), iv ((XT.ushr x4_ (8 : Int32)) &&& (3 : Int32)), rv b50, iv 0] []
          refine os (fun _ z => XS.iconst X158.here hx rfl (hb hby at_205) z) ?_
          show OG p e below Φ T158 m 206 #[iv x0_, iv x1_, iv x2_, iv x3_, iv x4_, rv b1, iv (x4_ &&& (3 : Int32)), iv ((XT.ushr x4_ (2 : Int32)) &&& (3 : Int32)), iv ((XT.ushr x4_ (4 : Int32)) &&& (3 : Int32)), iv ((XT.ushr x4_ (6 : Int32)) &&& (3 : Int32)), iv ((XT.ushr x4_ (8 : Int32)) &&& (3 : Int32)), rv b50, iv 0] [(.int 0)]
          exact absurd (by simp only [own_es]; simp [own_4, hc153, hc157]) hc159
      · refine os (fun _ z => XS.ifNo X156.here hx rfl (hb hby at_118) rfl (XT.i0_eq_f hc157) z) ?_
        show OG p e below Φ T156 m 121 #[iv x0_, iv x1_, iv x2_, iv x3_, iv x4_, rv b1, iv (x4_ &&& (3 : Int32)), iv ((XT.ushr x4_ (2 : Int32)) &&& (3 : Int32)), iv ((XT.ushr x4_ (4 : Int32)) &&& (3 : Int32)), iv ((XT.ushr x4_ (6 : Int32)) &&& (3 : Int32)), iv ((XT.ushr x4_ (8 : Int32)) &&& (3 : Int32)), rv b50, .unset] []
        refine os (fun _ z => XS.iload X156.here hx rfl (hb hby at_121) rfl z) ?_
        show OG p e below Φ T156 m 123 #[iv x0_, iv x1_, iv x2_, iv x3_, iv x4_, rv b1, iv (x4_ &&& (3 : Int32)), iv ((XT.ushr x4_ (2 : Int32)) &&& (3 : Int32)), iv ((XT.ushr x4_ (4 : Int32)) &&& (3 : Int32)), iv ((XT.ushr x4_ (6 : Int32)) &&& (3 : Int32)), iv ((XT.ushr x4_ (8 : Int32)) &&& (3 : Int32)), rv b50, .unset] [(.int ((XT.ushr x4_ (6 : Int32)) &&& (3 : Int32)))]
        refine os (fun _ z => XS.iloadN X156.here hx rfl (hb hby at_123) rfl z) ?_
        show OG p e below Φ T156 m 124 #[iv x0_, iv x1_, iv x2_, iv x3_, iv x4_, rv b1, iv (x4_ &&& (3 : Int32)), iv ((XT.ushr x4_ (2 : Int32)) &&& (3 : Int32)), iv ((XT.ushr x4_ (4 : Int32)) &&& (3 : Int32)), iv ((XT.ushr x4_ (6 : Int32)) &&& (3 : Int32)), iv ((XT.ushr x4_ (8 : Int32)) &&& (3 : Int32)), rv b50, .unset] [(.int x2_), (.int ((XT.ushr x4_ (6 : Int32)) &&& (3 : Int32)))]
        obtain ⟨_, T160, L160, X160, hQ160, st160⟩ := own_callSt X156 hx hZ hown (ow51 hw) (ow52 hw) (ow5 hw) (ow53 hw) (by decide) (rsm l Z a0 hw [] ((XT.ushr x4_ (6 : Int32)) &&& (3 : Int32)) x2_ T136.heap n0 Zs136 ) e156 (W := 0) (by decide) (by decide) (by decide) (by decide) (pc := 124) (ls := #[iv x0_, iv x1_, iv x2_, iv x3_, iv x4_, rv b1, iv (x4_ &&& (3 : Int32)), iv ((XT.ushr x4_ (2 : Int32)) &&& (3 : Int32)), iv ((XT.ushr x4_ (4 : Int32)) &&& (3 : Int32)), iv ((XT.ushr x4_ (6 : Int32)) &&& (3 : Int32)), iv ((XT.ushr x4_ (8 : Int32)) &&& (3 : Int32)), rv b50, .unset]) (stk := [(.int x2_), (.int ((XT.ushr x4_ (6 : Int32)) &&& (3 : Int32)))]) (by rw [hml]; rfl) (argsL := [(.int ((XT.ushr x4_ (6 : Int32)) &&& (3 : Int32))), (.int x2_)]) (rest := []) (lenOf pd15 rfl) rfl rfl (Nat.le_of_eq rfl) (hb hby at_124)
        obtain ⟨rfl, Nq160, e160⟩ := hQ160
        have N160 := Fr.app N156 Nq160
        refine os st160 ?_
        show OG p e below Φ T160 m 127 #[iv x0_, iv x1_, iv x2_, iv x3_, iv x4_, rv b1, iv (x4_ &&& (3 : Int32)), iv ((XT.ushr x4_ (2 : Int32)) &&& (3 : Int32)), iv ((XT.ushr x4_ (4 : Int32)) &&& (3 : Int32)), iv ((XT.ushr x4_ (6 : Int32)) &&& (3 : Int32)), iv ((XT.ushr x4_ (8 : Int32)) &&& (3 : Int32)), rv b50, .unset] [(.int (own_same ((XT.ushr x4_ (6 : Int32)) &&& (3 : Int32)) x2_))]
        by_cases hc161 : (own_same ((XT.ushr x4_ (6 : Int32)) &&& (3 : Int32)) x2_) = 0
        · refine os (fun _ z => XS.ifYes X160.here hx rfl (pc0 := 127) (pc' := 143) rfl (hb hby at_127) rfl (XT.i0_eq_t hc161) (by decide) (by decide) z) ?_
          show OG p e below Φ T160 m 143 #[iv x0_, iv x1_, iv x2_, iv x3_, iv x4_, rv b1, iv (x4_ &&& (3 : Int32)), iv ((XT.ushr x4_ (2 : Int32)) &&& (3 : Int32)), iv ((XT.ushr x4_ (4 : Int32)) &&& (3 : Int32)), iv ((XT.ushr x4_ (6 : Int32)) &&& (3 : Int32)), iv ((XT.ushr x4_ (8 : Int32)) &&& (3 : Int32)), rv b50, .unset] []
          refine os (fun _ z => XS.iconst X160.here hx rfl (hb hby at_143) z) ?_
          show OG p e below Φ T160 m 144 #[iv x0_, iv x1_, iv x2_, iv x3_, iv x4_, rv b1, iv (x4_ &&& (3 : Int32)), iv ((XT.ushr x4_ (2 : Int32)) &&& (3 : Int32)), iv ((XT.ushr x4_ (4 : Int32)) &&& (3 : Int32)), iv ((XT.ushr x4_ (6 : Int32)) &&& (3 : Int32)), iv ((XT.ushr x4_ (8 : Int32)) &&& (3 : Int32)), rv b50, .unset] [(.int 0)]
          refine os (fun _ z => XS.istore X160.here hx rfl (hb hby at_144) rfl (l' := #[iv x0_, iv x1_, iv x2_, iv x3_, iv x4_, rv b1, iv (x4_ &&& (3 : Int32)), iv ((XT.ushr x4_ (2 : Int32)) &&& (3 : Int32)), iv ((XT.ushr x4_ (4 : Int32)) &&& (3 : Int32)), iv ((XT.ushr x4_ (6 : Int32)) &&& (3 : Int32)), iv ((XT.ushr x4_ (8 : Int32)) &&& (3 : Int32)), rv b50, iv 0]) rfl z) ?_
          show OG p e below Φ T160 m 146 #[iv x0_, iv x1_, iv x2_, iv x3_, iv x4_, rv b1, iv (x4_ &&& (3 : Int32)), iv ((XT.ushr x4_ (2 : Int32)) &&& (3 : Int32)), iv ((XT.ushr x4_ (4 : Int32)) &&& (3 : Int32)), iv ((XT.ushr x4_ (6 : Int32)) &&& (3 : Int32)), iv ((XT.ushr x4_ (8 : Int32)) &&& (3 : Int32)), rv b50, iv 0] []
          refine os (fun _ z => XS.goto X160.here hx rfl (pc0 := 146) (pc' := 189) rfl (hb hby at_146) (by decide) (by decide) z) ?_
          show OG p e below Φ T160 m 189 #[iv x0_, iv x1_, iv x2_, iv x3_, iv x4_, rv b1, iv (x4_ &&& (3 : Int32)), iv ((XT.ushr x4_ (2 : Int32)) &&& (3 : Int32)), iv ((XT.ushr x4_ (4 : Int32)) &&& (3 : Int32)), iv ((XT.ushr x4_ (6 : Int32)) &&& (3 : Int32)), iv ((XT.ushr x4_ (8 : Int32)) &&& (3 : Int32)), rv b50, iv 0] []
          refine os (fun _ z => XS.aload X160.here hx rfl (hb hby at_189) rfl rfl z) ?_
          show OG p e below Φ T160 m 191 #[iv x0_, iv x1_, iv x2_, iv x3_, iv x4_, rv b1, iv (x4_ &&& (3 : Int32)), iv ((XT.ushr x4_ (2 : Int32)) &&& (3 : Int32)), iv ((XT.ushr x4_ (4 : Int32)) &&& (3 : Int32)), iv ((XT.ushr x4_ (6 : Int32)) &&& (3 : Int32)), iv ((XT.ushr x4_ (8 : Int32)) &&& (3 : Int32)), rv b50, iv 0] [(.ref b1)]
          refine os (fun _ z => XS.aload X160.here hx rfl (hb hby at_191) rfl rfl z) ?_
          show OG p e below Φ T160 m 193 #[iv x0_, iv x1_, iv x2_, iv x3_, iv x4_, rv b1, iv (x4_ &&& (3 : Int32)), iv ((XT.ushr x4_ (2 : Int32)) &&& (3 : Int32)), iv ((XT.ushr x4_ (4 : Int32)) &&& (3 : Int32)), iv ((XT.ushr x4_ (6 : Int32)) &&& (3 : Int32)), iv ((XT.ushr x4_ (8 : Int32)) &&& (3 : Int32)), rv b50, iv 0] [(.ref b50), (.ref b1)]
          obtain ⟨_, T162, L162, X162, hQ162, st162⟩ := own_callVi X160 hx hZ hown (ow54 hw) (ow55 hw) (notFace_of_selects (args := #[]) (mvT hZ (ow57 hw))) (ow57 hw) (ow56 hw) (ow2 hw) (ow58 hw) (by decide) (rio l Z a0 hw [] b1 b50 sx4 sx12 sx21 sx31 sx62 sx79 sx97 sx116 (own_b (own_c1 x0_)) (own_b (own_c1 x1_)) (own_b (own_c1 x2_)) (own_b (own_c1 x3_)) (own_t ((XT.ushr x4_ (2 : Int32)) &&& (3 : Int32))) (own_t ((XT.ushr x4_ (4 : Int32)) &&& (3 : Int32))) (own_t ((XT.ushr x4_ (6 : Int32)) &&& (3 : Int32))) (own_t ((XT.ushr x4_ (8 : Int32)) &&& (3 : Int32))) (own_bb ((XT.ushr x4_ (2 : Int32)) &&& (3 : Int32)) x0_) (own_bb ((XT.ushr x4_ (4 : Int32)) &&& (3 : Int32)) x1_) (own_bb ((XT.ushr x4_ (6 : Int32)) &&& (3 : Int32)) x2_) (own_bb ((XT.ushr x4_ (8 : Int32)) &&& (3 : Int32)) x3_) qc T136.heap n0 Zs136 F142 Eq136 (S_cs.ext F137.2) hq F143 F144 F145 F146 Fq136_0 Fq136_1 Fq136_2 Fq136_3 F138 F147 nq62_sx4 F139 F148 nq79_sx12 F140 F149 nq97_sx21 F141 F150 nq116_sx31) e160 (W := 0) (by decide) (by decide) (by decide) (by decide) F142 (pc := 193) (ls := #[iv x0_, iv x1_, iv x2_, iv x3_, iv x4_, rv b1, iv (x4_ &&& (3 : Int32)), iv ((XT.ushr x4_ (2 : Int32)) &&& (3 : Int32)), iv ((XT.ushr x4_ (4 : Int32)) &&& (3 : Int32)), iv ((XT.ushr x4_ (6 : Int32)) &&& (3 : Int32)), iv ((XT.ushr x4_ (8 : Int32)) &&& (3 : Int32)), rv b50, iv 0]) (stk := [(.ref b50), (.ref b1)]) (by rw [hml]; rfl) (argsL := [(.ref b50)]) (rest := []) (lenOf pd11 rfl) rfl rfl (Nat.le_of_eq rfl) (hb hby at_193)
          obtain ⟨rfl, Nq162, e162⟩ := hQ162
          have N162 := Fr.app N160 Nq162
          refine os st162 ?_
          show OG p e below Φ T162 m 196 #[iv x0_, iv x1_, iv x2_, iv x3_, iv x4_, rv b1, iv (x4_ &&& (3 : Int32)), iv ((XT.ushr x4_ (2 : Int32)) &&& (3 : Int32)), iv ((XT.ushr x4_ (4 : Int32)) &&& (3 : Int32)), iv ((XT.ushr x4_ (6 : Int32)) &&& (3 : Int32)), iv ((XT.ushr x4_ (8 : Int32)) &&& (3 : Int32)), rv b50, iv 0] [(.int (own_4 (own_eq (own_t ((XT.ushr x4_ (2 : Int32)) &&& (3 : Int32))) (own_b (own_c1 x0_)) (own_bb ((XT.ushr x4_ (2 : Int32)) &&& (3 : Int32)) x0_)) (own_eq (own_t ((XT.ushr x4_ (4 : Int32)) &&& (3 : Int32))) (own_b (own_c1 x1_)) (own_bb ((XT.ushr x4_ (4 : Int32)) &&& (3 : Int32)) x1_)) (own_eq (own_t ((XT.ushr x4_ (6 : Int32)) &&& (3 : Int32))) (own_b (own_c1 x2_)) (own_bb ((XT.ushr x4_ (6 : Int32)) &&& (3 : Int32)) x2_)) (own_eq (own_t ((XT.ushr x4_ (8 : Int32)) &&& (3 : Int32))) (own_b (own_c1 x3_)) (own_bb ((XT.ushr x4_ (8 : Int32)) &&& (3 : Int32)) x3_))))]
          refine os (fun _ z => XS.iload X162.here hx rfl (hb hby at_196) rfl z) ?_
          show OG p e below Φ T162 m 198 #[iv x0_, iv x1_, iv x2_, iv x3_, iv x4_, rv b1, iv (x4_ &&& (3 : Int32)), iv ((XT.ushr x4_ (2 : Int32)) &&& (3 : Int32)), iv ((XT.ushr x4_ (4 : Int32)) &&& (3 : Int32)), iv ((XT.ushr x4_ (6 : Int32)) &&& (3 : Int32)), iv ((XT.ushr x4_ (8 : Int32)) &&& (3 : Int32)), rv b50, iv 0] [(.int 0), (.int (own_4 (own_eq (own_t ((XT.ushr x4_ (2 : Int32)) &&& (3 : Int32))) (own_b (own_c1 x0_)) (own_bb ((XT.ushr x4_ (2 : Int32)) &&& (3 : Int32)) x0_)) (own_eq (own_t ((XT.ushr x4_ (4 : Int32)) &&& (3 : Int32))) (own_b (own_c1 x1_)) (own_bb ((XT.ushr x4_ (4 : Int32)) &&& (3 : Int32)) x1_)) (own_eq (own_t ((XT.ushr x4_ (6 : Int32)) &&& (3 : Int32))) (own_b (own_c1 x2_)) (own_bb ((XT.ushr x4_ (6 : Int32)) &&& (3 : Int32)) x2_)) (own_eq (own_t ((XT.ushr x4_ (8 : Int32)) &&& (3 : Int32))) (own_b (own_c1 x3_)) (own_bb ((XT.ushr x4_ (8 : Int32)) &&& (3 : Int32)) x3_))))]
          by_cases hc163 : (own_4 (own_eq (own_t ((XT.ushr x4_ (2 : Int32)) &&& (3 : Int32))) (own_b (own_c1 x0_)) (own_bb ((XT.ushr x4_ (2 : Int32)) &&& (3 : Int32)) x0_)) (own_eq (own_t ((XT.ushr x4_ (4 : Int32)) &&& (3 : Int32))) (own_b (own_c1 x1_)) (own_bb ((XT.ushr x4_ (4 : Int32)) &&& (3 : Int32)) x1_)) (own_eq (own_t ((XT.ushr x4_ (6 : Int32)) &&& (3 : Int32))) (own_b (own_c1 x2_)) (own_bb ((XT.ushr x4_ (6 : Int32)) &&& (3 : Int32)) x2_)) (own_eq (own_t ((XT.ushr x4_ (8 : Int32)) &&& (3 : Int32))) (own_b (own_c1 x3_)) (own_bb ((XT.ushr x4_ (8 : Int32)) &&& (3 : Int32)) x3_))) = (0 : Int32)
          · refine os (fun _ z => XS.icmpNo X162.here hx rfl (hb hby at_198) rfl (XT.ii_ne_f hc163) z) ?_
            show OG p e below Φ T162 m 201 #[iv x0_, iv x1_, iv x2_, iv x3_, iv x4_, rv b1, iv (x4_ &&& (3 : Int32)), iv ((XT.ushr x4_ (2 : Int32)) &&& (3 : Int32)), iv ((XT.ushr x4_ (4 : Int32)) &&& (3 : Int32)), iv ((XT.ushr x4_ (6 : Int32)) &&& (3 : Int32)), iv ((XT.ushr x4_ (8 : Int32)) &&& (3 : Int32)), rv b50, iv 0] []
            refine os (fun _ z => XS.iconst X162.here hx rfl (hb hby at_201) z) ?_
            show OG p e below Φ T162 m 202 #[iv x0_, iv x1_, iv x2_, iv x3_, iv x4_, rv b1, iv (x4_ &&& (3 : Int32)), iv ((XT.ushr x4_ (2 : Int32)) &&& (3 : Int32)), iv ((XT.ushr x4_ (4 : Int32)) &&& (3 : Int32)), iv ((XT.ushr x4_ (6 : Int32)) &&& (3 : Int32)), iv ((XT.ushr x4_ (8 : Int32)) &&& (3 : Int32)), rv b50, iv 0] [(.int 1)]
            refine os (fun _ z => XS.goto X162.here hx rfl (pc0 := 202) (pc' := 206) rfl (hb hby at_202) (by decide) (by decide) z) ?_
            show OG p e below Φ T162 m 206 #[iv x0_, iv x1_, iv x2_, iv x3_, iv x4_, rv b1, iv (x4_ &&& (3 : Int32)), iv ((XT.ushr x4_ (2 : Int32)) &&& (3 : Int32)), iv ((XT.ushr x4_ (4 : Int32)) &&& (3 : Int32)), iv ((XT.ushr x4_ (6 : Int32)) &&& (3 : Int32)), iv ((XT.ushr x4_ (8 : Int32)) &&& (3 : Int32)), rv b50, iv 0] [(.int 1)]
            refine OGo.finW X162 hlk hS e162 hkk (v := (some (.int 1))) (fun h => by rw [hret] at h; cases h) (by decide) (by decide) hZ (own_EW hw) hC (fun fs hr => X162.ireturnOut hx hret rfl (by simp) (hb hby at_206) hr) fun U eU hc hF => hΦ _ _ _ ?_ hc hF
            rw [eU]
            show Q_rm0 Z x0_ x1_ x2_ x3_ x4_ qc h0 n0 _ _ _
            exact ⟨rfl, N162⟩
          · refine os (fun _ z => XS.icmpYes X162.here hx rfl (pc0 := 198) (pc' := 205) rfl (hb hby at_198) rfl (XT.ii_ne_t hc163) (by decide) (by decide) z) ?_
            show OG p e below Φ T162 m 205 #[iv x0_, iv x1_, iv x2_, iv x3_, iv x4_, rv b1, iv (x4_ &&& (3 : Int32)), iv ((XT.ushr x4_ (2 : Int32)) &&& (3 : Int32)), iv ((XT.ushr x4_ (4 : Int32)) &&& (3 : Int32)), iv ((XT.ushr x4_ (6 : Int32)) &&& (3 : Int32)), iv ((XT.ushr x4_ (8 : Int32)) &&& (3 : Int32)), rv b50, iv 0] []
            refine os (fun _ z => XS.iconst X162.here hx rfl (hb hby at_205) z) ?_
            show OG p e below Φ T162 m 206 #[iv x0_, iv x1_, iv x2_, iv x3_, iv x4_, rv b1, iv (x4_ &&& (3 : Int32)), iv ((XT.ushr x4_ (2 : Int32)) &&& (3 : Int32)), iv ((XT.ushr x4_ (4 : Int32)) &&& (3 : Int32)), iv ((XT.ushr x4_ (6 : Int32)) &&& (3 : Int32)), iv ((XT.ushr x4_ (8 : Int32)) &&& (3 : Int32)), rv b50, iv 0] [(.int 0)]
            exact absurd (by simp only [own_es]; simp [own_4, hc153, hc157, hc161]) hc163
        · refine os (fun _ z => XS.ifNo X160.here hx rfl (hb hby at_127) rfl (XT.i0_eq_f hc161) z) ?_
          show OG p e below Φ T160 m 130 #[iv x0_, iv x1_, iv x2_, iv x3_, iv x4_, rv b1, iv (x4_ &&& (3 : Int32)), iv ((XT.ushr x4_ (2 : Int32)) &&& (3 : Int32)), iv ((XT.ushr x4_ (4 : Int32)) &&& (3 : Int32)), iv ((XT.ushr x4_ (6 : Int32)) &&& (3 : Int32)), iv ((XT.ushr x4_ (8 : Int32)) &&& (3 : Int32)), rv b50, .unset] []
          refine os (fun _ z => XS.iload X160.here hx rfl (hb hby at_130) rfl z) ?_
          show OG p e below Φ T160 m 132 #[iv x0_, iv x1_, iv x2_, iv x3_, iv x4_, rv b1, iv (x4_ &&& (3 : Int32)), iv ((XT.ushr x4_ (2 : Int32)) &&& (3 : Int32)), iv ((XT.ushr x4_ (4 : Int32)) &&& (3 : Int32)), iv ((XT.ushr x4_ (6 : Int32)) &&& (3 : Int32)), iv ((XT.ushr x4_ (8 : Int32)) &&& (3 : Int32)), rv b50, .unset] [(.int ((XT.ushr x4_ (8 : Int32)) &&& (3 : Int32)))]
          refine os (fun _ z => XS.iloadN X160.here hx rfl (hb hby at_132) rfl z) ?_
          show OG p e below Φ T160 m 133 #[iv x0_, iv x1_, iv x2_, iv x3_, iv x4_, rv b1, iv (x4_ &&& (3 : Int32)), iv ((XT.ushr x4_ (2 : Int32)) &&& (3 : Int32)), iv ((XT.ushr x4_ (4 : Int32)) &&& (3 : Int32)), iv ((XT.ushr x4_ (6 : Int32)) &&& (3 : Int32)), iv ((XT.ushr x4_ (8 : Int32)) &&& (3 : Int32)), rv b50, .unset] [(.int x3_), (.int ((XT.ushr x4_ (8 : Int32)) &&& (3 : Int32)))]
          obtain ⟨_, T164, L164, X164, hQ164, st164⟩ := own_callSt X160 hx hZ hown (ow51 hw) (ow52 hw) (ow5 hw) (ow53 hw) (by decide) (rsm l Z a0 hw [] ((XT.ushr x4_ (8 : Int32)) &&& (3 : Int32)) x3_ T136.heap n0 Zs136 ) e160 (W := 0) (by decide) (by decide) (by decide) (by decide) (pc := 133) (ls := #[iv x0_, iv x1_, iv x2_, iv x3_, iv x4_, rv b1, iv (x4_ &&& (3 : Int32)), iv ((XT.ushr x4_ (2 : Int32)) &&& (3 : Int32)), iv ((XT.ushr x4_ (4 : Int32)) &&& (3 : Int32)), iv ((XT.ushr x4_ (6 : Int32)) &&& (3 : Int32)), iv ((XT.ushr x4_ (8 : Int32)) &&& (3 : Int32)), rv b50, .unset]) (stk := [(.int x3_), (.int ((XT.ushr x4_ (8 : Int32)) &&& (3 : Int32)))]) (by rw [hml]; rfl) (argsL := [(.int ((XT.ushr x4_ (8 : Int32)) &&& (3 : Int32))), (.int x3_)]) (rest := []) (lenOf pd15 rfl) rfl rfl (Nat.le_of_eq rfl) (hb hby at_133)
          obtain ⟨rfl, Nq164, e164⟩ := hQ164
          have N164 := Fr.app N160 Nq164
          refine os st164 ?_
          show OG p e below Φ T164 m 136 #[iv x0_, iv x1_, iv x2_, iv x3_, iv x4_, rv b1, iv (x4_ &&& (3 : Int32)), iv ((XT.ushr x4_ (2 : Int32)) &&& (3 : Int32)), iv ((XT.ushr x4_ (4 : Int32)) &&& (3 : Int32)), iv ((XT.ushr x4_ (6 : Int32)) &&& (3 : Int32)), iv ((XT.ushr x4_ (8 : Int32)) &&& (3 : Int32)), rv b50, .unset] [(.int (own_same ((XT.ushr x4_ (8 : Int32)) &&& (3 : Int32)) x3_))]
          by_cases hc165 : (own_same ((XT.ushr x4_ (8 : Int32)) &&& (3 : Int32)) x3_) = 0
          · refine os (fun _ z => XS.ifYes X164.here hx rfl (pc0 := 136) (pc' := 143) rfl (hb hby at_136) rfl (XT.i0_eq_t hc165) (by decide) (by decide) z) ?_
            show OG p e below Φ T164 m 143 #[iv x0_, iv x1_, iv x2_, iv x3_, iv x4_, rv b1, iv (x4_ &&& (3 : Int32)), iv ((XT.ushr x4_ (2 : Int32)) &&& (3 : Int32)), iv ((XT.ushr x4_ (4 : Int32)) &&& (3 : Int32)), iv ((XT.ushr x4_ (6 : Int32)) &&& (3 : Int32)), iv ((XT.ushr x4_ (8 : Int32)) &&& (3 : Int32)), rv b50, .unset] []
            refine os (fun _ z => XS.iconst X164.here hx rfl (hb hby at_143) z) ?_
            show OG p e below Φ T164 m 144 #[iv x0_, iv x1_, iv x2_, iv x3_, iv x4_, rv b1, iv (x4_ &&& (3 : Int32)), iv ((XT.ushr x4_ (2 : Int32)) &&& (3 : Int32)), iv ((XT.ushr x4_ (4 : Int32)) &&& (3 : Int32)), iv ((XT.ushr x4_ (6 : Int32)) &&& (3 : Int32)), iv ((XT.ushr x4_ (8 : Int32)) &&& (3 : Int32)), rv b50, .unset] [(.int 0)]
            refine os (fun _ z => XS.istore X164.here hx rfl (hb hby at_144) rfl (l' := #[iv x0_, iv x1_, iv x2_, iv x3_, iv x4_, rv b1, iv (x4_ &&& (3 : Int32)), iv ((XT.ushr x4_ (2 : Int32)) &&& (3 : Int32)), iv ((XT.ushr x4_ (4 : Int32)) &&& (3 : Int32)), iv ((XT.ushr x4_ (6 : Int32)) &&& (3 : Int32)), iv ((XT.ushr x4_ (8 : Int32)) &&& (3 : Int32)), rv b50, iv 0]) rfl z) ?_
            show OG p e below Φ T164 m 146 #[iv x0_, iv x1_, iv x2_, iv x3_, iv x4_, rv b1, iv (x4_ &&& (3 : Int32)), iv ((XT.ushr x4_ (2 : Int32)) &&& (3 : Int32)), iv ((XT.ushr x4_ (4 : Int32)) &&& (3 : Int32)), iv ((XT.ushr x4_ (6 : Int32)) &&& (3 : Int32)), iv ((XT.ushr x4_ (8 : Int32)) &&& (3 : Int32)), rv b50, iv 0] []
            refine os (fun _ z => XS.goto X164.here hx rfl (pc0 := 146) (pc' := 189) rfl (hb hby at_146) (by decide) (by decide) z) ?_
            show OG p e below Φ T164 m 189 #[iv x0_, iv x1_, iv x2_, iv x3_, iv x4_, rv b1, iv (x4_ &&& (3 : Int32)), iv ((XT.ushr x4_ (2 : Int32)) &&& (3 : Int32)), iv ((XT.ushr x4_ (4 : Int32)) &&& (3 : Int32)), iv ((XT.ushr x4_ (6 : Int32)) &&& (3 : Int32)), iv ((XT.ushr x4_ (8 : Int32)) &&& (3 : Int32)), rv b50, iv 0] []
            refine os (fun _ z => XS.aload X164.here hx rfl (hb hby at_189) rfl rfl z) ?_
            show OG p e below Φ T164 m 191 #[iv x0_, iv x1_, iv x2_, iv x3_, iv x4_, rv b1, iv (x4_ &&& (3 : Int32)), iv ((XT.ushr x4_ (2 : Int32)) &&& (3 : Int32)), iv ((XT.ushr x4_ (4 : Int32)) &&& (3 : Int32)), iv ((XT.ushr x4_ (6 : Int32)) &&& (3 : Int32)), iv ((XT.ushr x4_ (8 : Int32)) &&& (3 : Int32)), rv b50, iv 0] [(.ref b1)]
            refine os (fun _ z => XS.aload X164.here hx rfl (hb hby at_191) rfl rfl z) ?_
            show OG p e below Φ T164 m 193 #[iv x0_, iv x1_, iv x2_, iv x3_, iv x4_, rv b1, iv (x4_ &&& (3 : Int32)), iv ((XT.ushr x4_ (2 : Int32)) &&& (3 : Int32)), iv ((XT.ushr x4_ (4 : Int32)) &&& (3 : Int32)), iv ((XT.ushr x4_ (6 : Int32)) &&& (3 : Int32)), iv ((XT.ushr x4_ (8 : Int32)) &&& (3 : Int32)), rv b50, iv 0] [(.ref b50), (.ref b1)]
            obtain ⟨_, T166, L166, X166, hQ166, st166⟩ := own_callVi X164 hx hZ hown (ow54 hw) (ow55 hw) (notFace_of_selects (args := #[]) (mvT hZ (ow57 hw))) (ow57 hw) (ow56 hw) (ow2 hw) (ow58 hw) (by decide) (rio l Z a0 hw [] b1 b50 sx4 sx12 sx21 sx31 sx62 sx79 sx97 sx116 (own_b (own_c1 x0_)) (own_b (own_c1 x1_)) (own_b (own_c1 x2_)) (own_b (own_c1 x3_)) (own_t ((XT.ushr x4_ (2 : Int32)) &&& (3 : Int32))) (own_t ((XT.ushr x4_ (4 : Int32)) &&& (3 : Int32))) (own_t ((XT.ushr x4_ (6 : Int32)) &&& (3 : Int32))) (own_t ((XT.ushr x4_ (8 : Int32)) &&& (3 : Int32))) (own_bb ((XT.ushr x4_ (2 : Int32)) &&& (3 : Int32)) x0_) (own_bb ((XT.ushr x4_ (4 : Int32)) &&& (3 : Int32)) x1_) (own_bb ((XT.ushr x4_ (6 : Int32)) &&& (3 : Int32)) x2_) (own_bb ((XT.ushr x4_ (8 : Int32)) &&& (3 : Int32)) x3_) qc T136.heap n0 Zs136 F142 Eq136 (S_cs.ext F137.2) hq F143 F144 F145 F146 Fq136_0 Fq136_1 Fq136_2 Fq136_3 F138 F147 nq62_sx4 F139 F148 nq79_sx12 F140 F149 nq97_sx21 F141 F150 nq116_sx31) e164 (W := 0) (by decide) (by decide) (by decide) (by decide) F142 (pc := 193) (ls := #[iv x0_, iv x1_, iv x2_, iv x3_, iv x4_, rv b1, iv (x4_ &&& (3 : Int32)), iv ((XT.ushr x4_ (2 : Int32)) &&& (3 : Int32)), iv ((XT.ushr x4_ (4 : Int32)) &&& (3 : Int32)), iv ((XT.ushr x4_ (6 : Int32)) &&& (3 : Int32)), iv ((XT.ushr x4_ (8 : Int32)) &&& (3 : Int32)), rv b50, iv 0]) (stk := [(.ref b50), (.ref b1)]) (by rw [hml]; rfl) (argsL := [(.ref b50)]) (rest := []) (lenOf pd11 rfl) rfl rfl (Nat.le_of_eq rfl) (hb hby at_193)
            obtain ⟨rfl, Nq166, e166⟩ := hQ166
            have N166 := Fr.app N164 Nq166
            refine os st166 ?_
            show OG p e below Φ T166 m 196 #[iv x0_, iv x1_, iv x2_, iv x3_, iv x4_, rv b1, iv (x4_ &&& (3 : Int32)), iv ((XT.ushr x4_ (2 : Int32)) &&& (3 : Int32)), iv ((XT.ushr x4_ (4 : Int32)) &&& (3 : Int32)), iv ((XT.ushr x4_ (6 : Int32)) &&& (3 : Int32)), iv ((XT.ushr x4_ (8 : Int32)) &&& (3 : Int32)), rv b50, iv 0] [(.int (own_4 (own_eq (own_t ((XT.ushr x4_ (2 : Int32)) &&& (3 : Int32))) (own_b (own_c1 x0_)) (own_bb ((XT.ushr x4_ (2 : Int32)) &&& (3 : Int32)) x0_)) (own_eq (own_t ((XT.ushr x4_ (4 : Int32)) &&& (3 : Int32))) (own_b (own_c1 x1_)) (own_bb ((XT.ushr x4_ (4 : Int32)) &&& (3 : Int32)) x1_)) (own_eq (own_t ((XT.ushr x4_ (6 : Int32)) &&& (3 : Int32))) (own_b (own_c1 x2_)) (own_bb ((XT.ushr x4_ (6 : Int32)) &&& (3 : Int32)) x2_)) (own_eq (own_t ((XT.ushr x4_ (8 : Int32)) &&& (3 : Int32))) (own_b (own_c1 x3_)) (own_bb ((XT.ushr x4_ (8 : Int32)) &&& (3 : Int32)) x3_))))]
            refine os (fun _ z => XS.iload X166.here hx rfl (hb hby at_196) rfl z) ?_
            show OG p e below Φ T166 m 198 #[iv x0_, iv x1_, iv x2_, iv x3_, iv x4_, rv b1, iv (x4_ &&& (3 : Int32)), iv ((XT.ushr x4_ (2 : Int32)) &&& (3 : Int32)), iv ((XT.ushr x4_ (4 : Int32)) &&& (3 : Int32)), iv ((XT.ushr x4_ (6 : Int32)) &&& (3 : Int32)), iv ((XT.ushr x4_ (8 : Int32)) &&& (3 : Int32)), rv b50, iv 0] [(.int 0), (.int (own_4 (own_eq (own_t ((XT.ushr x4_ (2 : Int32)) &&& (3 : Int32))) (own_b (own_c1 x0_)) (own_bb ((XT.ushr x4_ (2 : Int32)) &&& (3 : Int32)) x0_)) (own_eq (own_t ((XT.ushr x4_ (4 : Int32)) &&& (3 : Int32))) (own_b (own_c1 x1_)) (own_bb ((XT.ushr x4_ (4 : Int32)) &&& (3 : Int32)) x1_)) (own_eq (own_t ((XT.ushr x4_ (6 : Int32)) &&& (3 : Int32))) (own_b (own_c1 x2_)) (own_bb ((XT.ushr x4_ (6 : Int32)) &&& (3 : Int32)) x2_)) (own_eq (own_t ((XT.ushr x4_ (8 : Int32)) &&& (3 : Int32))) (own_b (own_c1 x3_)) (own_bb ((XT.ushr x4_ (8 : Int32)) &&& (3 : Int32)) x3_))))]
            by_cases hc167 : (own_4 (own_eq (own_t ((XT.ushr x4_ (2 : Int32)) &&& (3 : Int32))) (own_b (own_c1 x0_)) (own_bb ((XT.ushr x4_ (2 : Int32)) &&& (3 : Int32)) x0_)) (own_eq (own_t ((XT.ushr x4_ (4 : Int32)) &&& (3 : Int32))) (own_b (own_c1 x1_)) (own_bb ((XT.ushr x4_ (4 : Int32)) &&& (3 : Int32)) x1_)) (own_eq (own_t ((XT.ushr x4_ (6 : Int32)) &&& (3 : Int32))) (own_b (own_c1 x2_)) (own_bb ((XT.ushr x4_ (6 : Int32)) &&& (3 : Int32)) x2_)) (own_eq (own_t ((XT.ushr x4_ (8 : Int32)) &&& (3 : Int32))) (own_b (own_c1 x3_)) (own_bb ((XT.ushr x4_ (8 : Int32)) &&& (3 : Int32)) x3_))) = (0 : Int32)
            · refine os (fun _ z => XS.icmpNo X166.here hx rfl (hb hby at_198) rfl (XT.ii_ne_f hc167) z) ?_
              show OG p e below Φ T166 m 201 #[iv x0_, iv x1_, iv x2_, iv x3_, iv x4_, rv b1, iv (x4_ &&& (3 : Int32)), iv ((XT.ushr x4_ (2 : Int32)) &&& (3 : Int32)), iv ((XT.ushr x4_ (4 : Int32)) &&& (3 : Int32)), iv ((XT.ushr x4_ (6 : Int32)) &&& (3 : Int32)), iv ((XT.ushr x4_ (8 : Int32)) &&& (3 : Int32)), rv b50, iv 0] []
              refine os (fun _ z => XS.iconst X166.here hx rfl (hb hby at_201) z) ?_
              show OG p e below Φ T166 m 202 #[iv x0_, iv x1_, iv x2_, iv x3_, iv x4_, rv b1, iv (x4_ &&& (3 : Int32)), iv ((XT.ushr x4_ (2 : Int32)) &&& (3 : Int32)), iv ((XT.ushr x4_ (4 : Int32)) &&& (3 : Int32)), iv ((XT.ushr x4_ (6 : Int32)) &&& (3 : Int32)), iv ((XT.ushr x4_ (8 : Int32)) &&& (3 : Int32)), rv b50, iv 0] [(.int 1)]
              refine os (fun _ z => XS.goto X166.here hx rfl (pc0 := 202) (pc' := 206) rfl (hb hby at_202) (by decide) (by decide) z) ?_
              show OG p e below Φ T166 m 206 #[iv x0_, iv x1_, iv x2_, iv x3_, iv x4_, rv b1, iv (x4_ &&& (3 : Int32)), iv ((XT.ushr x4_ (2 : Int32)) &&& (3 : Int32)), iv ((XT.ushr x4_ (4 : Int32)) &&& (3 : Int32)), iv ((XT.ushr x4_ (6 : Int32)) &&& (3 : Int32)), iv ((XT.ushr x4_ (8 : Int32)) &&& (3 : Int32)), rv b50, iv 0] [(.int 1)]
              refine OGo.finW X166 hlk hS e166 hkk (v := (some (.int 1))) (fun h => by rw [hret] at h; cases h) (by decide) (by decide) hZ (own_EW hw) hC (fun fs hr => X166.ireturnOut hx hret rfl (by simp) (hb hby at_206) hr) fun U eU hc hF => hΦ _ _ _ ?_ hc hF
              rw [eU]
              show Q_rm0 Z x0_ x1_ x2_ x3_ x4_ qc h0 n0 _ _ _
              exact ⟨rfl, N166⟩
            · refine os (fun _ z => XS.icmpYes X166.here hx rfl (pc0 := 198) (pc' := 205) rfl (hb hby at_198) rfl (XT.ii_ne_t hc167) (by decide) (by decide) z) ?_
              show OG p e below Φ T166 m 205 #[iv x0_, iv x1_, iv x2_, iv x3_, iv x4_, rv b1, iv (x4_ &&& (3 : Int32)), iv ((XT.ushr x4_ (2 : Int32)) &&& (3 : Int32)), iv ((XT.ushr x4_ (4 : Int32)) &&& (3 : Int32)), iv ((XT.ushr x4_ (6 : Int32)) &&& (3 : Int32)), iv ((XT.ushr x4_ (8 : Int32)) &&& (3 : Int32)), rv b50, iv 0] []
              refine os (fun _ z => XS.iconst X166.here hx rfl (hb hby at_205) z) ?_
              show OG p e below Φ T166 m 206 #[iv x0_, iv x1_, iv x2_, iv x3_, iv x4_, rv b1, iv (x4_ &&& (3 : Int32)), iv ((XT.ushr x4_ (2 : Int32)) &&& (3 : Int32)), iv ((XT.ushr x4_ (4 : Int32)) &&& (3 : Int32)), iv ((XT.ushr x4_ (6 : Int32)) &&& (3 : Int32)), iv ((XT.ushr x4_ (8 : Int32)) &&& (3 : Int32)), rv b50, iv 0] [(.int 0)]
              exact absurd (by simp only [own_es]; simp [own_4, hc153, hc157, hc161, hc165]) hc167
          · refine os (fun _ z => XS.ifNo X164.here hx rfl (hb hby at_136) rfl (XT.i0_eq_f hc165) z) ?_
            show OG p e below Φ T164 m 139 #[iv x0_, iv x1_, iv x2_, iv x3_, iv x4_, rv b1, iv (x4_ &&& (3 : Int32)), iv ((XT.ushr x4_ (2 : Int32)) &&& (3 : Int32)), iv ((XT.ushr x4_ (4 : Int32)) &&& (3 : Int32)), iv ((XT.ushr x4_ (6 : Int32)) &&& (3 : Int32)), iv ((XT.ushr x4_ (8 : Int32)) &&& (3 : Int32)), rv b50, .unset] []
            refine os (fun _ z => XS.iconst X164.here hx rfl (hb hby at_139) z) ?_
            show OG p e below Φ T164 m 140 #[iv x0_, iv x1_, iv x2_, iv x3_, iv x4_, rv b1, iv (x4_ &&& (3 : Int32)), iv ((XT.ushr x4_ (2 : Int32)) &&& (3 : Int32)), iv ((XT.ushr x4_ (4 : Int32)) &&& (3 : Int32)), iv ((XT.ushr x4_ (6 : Int32)) &&& (3 : Int32)), iv ((XT.ushr x4_ (8 : Int32)) &&& (3 : Int32)), rv b50, .unset] [(.int 1)]
            refine os (fun _ z => XS.goto X164.here hx rfl (pc0 := 140) (pc' := 144) rfl (hb hby at_140) (by decide) (by decide) z) ?_
            show OG p e below Φ T164 m 144 #[iv x0_, iv x1_, iv x2_, iv x3_, iv x4_, rv b1, iv (x4_ &&& (3 : Int32)), iv ((XT.ushr x4_ (2 : Int32)) &&& (3 : Int32)), iv ((XT.ushr x4_ (4 : Int32)) &&& (3 : Int32)), iv ((XT.ushr x4_ (6 : Int32)) &&& (3 : Int32)), iv ((XT.ushr x4_ (8 : Int32)) &&& (3 : Int32)), rv b50, .unset] [(.int 1)]
            refine os (fun _ z => XS.istore X164.here hx rfl (hb hby at_144) rfl (l' := #[iv x0_, iv x1_, iv x2_, iv x3_, iv x4_, rv b1, iv (x4_ &&& (3 : Int32)), iv ((XT.ushr x4_ (2 : Int32)) &&& (3 : Int32)), iv ((XT.ushr x4_ (4 : Int32)) &&& (3 : Int32)), iv ((XT.ushr x4_ (6 : Int32)) &&& (3 : Int32)), iv ((XT.ushr x4_ (8 : Int32)) &&& (3 : Int32)), rv b50, iv 1]) rfl z) ?_
            show OG p e below Φ T164 m 146 #[iv x0_, iv x1_, iv x2_, iv x3_, iv x4_, rv b1, iv (x4_ &&& (3 : Int32)), iv ((XT.ushr x4_ (2 : Int32)) &&& (3 : Int32)), iv ((XT.ushr x4_ (4 : Int32)) &&& (3 : Int32)), iv ((XT.ushr x4_ (6 : Int32)) &&& (3 : Int32)), iv ((XT.ushr x4_ (8 : Int32)) &&& (3 : Int32)), rv b50, iv 1] []
            refine os (fun _ z => XS.goto X164.here hx rfl (pc0 := 146) (pc' := 189) rfl (hb hby at_146) (by decide) (by decide) z) ?_
            show OG p e below Φ T164 m 189 #[iv x0_, iv x1_, iv x2_, iv x3_, iv x4_, rv b1, iv (x4_ &&& (3 : Int32)), iv ((XT.ushr x4_ (2 : Int32)) &&& (3 : Int32)), iv ((XT.ushr x4_ (4 : Int32)) &&& (3 : Int32)), iv ((XT.ushr x4_ (6 : Int32)) &&& (3 : Int32)), iv ((XT.ushr x4_ (8 : Int32)) &&& (3 : Int32)), rv b50, iv 1] []
            refine os (fun _ z => XS.aload X164.here hx rfl (hb hby at_189) rfl rfl z) ?_
            show OG p e below Φ T164 m 191 #[iv x0_, iv x1_, iv x2_, iv x3_, iv x4_, rv b1, iv (x4_ &&& (3 : Int32)), iv ((XT.ushr x4_ (2 : Int32)) &&& (3 : Int32)), iv ((XT.ushr x4_ (4 : Int32)) &&& (3 : Int32)), iv ((XT.ushr x4_ (6 : Int32)) &&& (3 : Int32)), iv ((XT.ushr x4_ (8 : Int32)) &&& (3 : Int32)), rv b50, iv 1] [(.ref b1)]
            refine os (fun _ z => XS.aload X164.here hx rfl (hb hby at_191) rfl rfl z) ?_
            show OG p e below Φ T164 m 193 #[iv x0_, iv x1_, iv x2_, iv x3_, iv x4_, rv b1, iv (x4_ &&& (3 : Int32)), iv ((XT.ushr x4_ (2 : Int32)) &&& (3 : Int32)), iv ((XT.ushr x4_ (4 : Int32)) &&& (3 : Int32)), iv ((XT.ushr x4_ (6 : Int32)) &&& (3 : Int32)), iv ((XT.ushr x4_ (8 : Int32)) &&& (3 : Int32)), rv b50, iv 1] [(.ref b50), (.ref b1)]
            obtain ⟨_, T168, L168, X168, hQ168, st168⟩ := own_callVi X164 hx hZ hown (ow54 hw) (ow55 hw) (notFace_of_selects (args := #[]) (mvT hZ (ow57 hw))) (ow57 hw) (ow56 hw) (ow2 hw) (ow58 hw) (by decide) (rio l Z a0 hw [] b1 b50 sx4 sx12 sx21 sx31 sx62 sx79 sx97 sx116 (own_b (own_c1 x0_)) (own_b (own_c1 x1_)) (own_b (own_c1 x2_)) (own_b (own_c1 x3_)) (own_t ((XT.ushr x4_ (2 : Int32)) &&& (3 : Int32))) (own_t ((XT.ushr x4_ (4 : Int32)) &&& (3 : Int32))) (own_t ((XT.ushr x4_ (6 : Int32)) &&& (3 : Int32))) (own_t ((XT.ushr x4_ (8 : Int32)) &&& (3 : Int32))) (own_bb ((XT.ushr x4_ (2 : Int32)) &&& (3 : Int32)) x0_) (own_bb ((XT.ushr x4_ (4 : Int32)) &&& (3 : Int32)) x1_) (own_bb ((XT.ushr x4_ (6 : Int32)) &&& (3 : Int32)) x2_) (own_bb ((XT.ushr x4_ (8 : Int32)) &&& (3 : Int32)) x3_) qc T136.heap n0 Zs136 F142 Eq136 (S_cs.ext F137.2) hq F143 F144 F145 F146 Fq136_0 Fq136_1 Fq136_2 Fq136_3 F138 F147 nq62_sx4 F139 F148 nq79_sx12 F140 F149 nq97_sx21 F141 F150 nq116_sx31) e164 (W := 0) (by decide) (by decide) (by decide) (by decide) F142 (pc := 193) (ls := #[iv x0_, iv x1_, iv x2_, iv x3_, iv x4_, rv b1, iv (x4_ &&& (3 : Int32)), iv ((XT.ushr x4_ (2 : Int32)) &&& (3 : Int32)), iv ((XT.ushr x4_ (4 : Int32)) &&& (3 : Int32)), iv ((XT.ushr x4_ (6 : Int32)) &&& (3 : Int32)), iv ((XT.ushr x4_ (8 : Int32)) &&& (3 : Int32)), rv b50, iv 1]) (stk := [(.ref b50), (.ref b1)]) (by rw [hml]; rfl) (argsL := [(.ref b50)]) (rest := []) (lenOf pd11 rfl) rfl rfl (Nat.le_of_eq rfl) (hb hby at_193)
            obtain ⟨rfl, Nq168, e168⟩ := hQ168
            have N168 := Fr.app N164 Nq168
            refine os st168 ?_
            show OG p e below Φ T168 m 196 #[iv x0_, iv x1_, iv x2_, iv x3_, iv x4_, rv b1, iv (x4_ &&& (3 : Int32)), iv ((XT.ushr x4_ (2 : Int32)) &&& (3 : Int32)), iv ((XT.ushr x4_ (4 : Int32)) &&& (3 : Int32)), iv ((XT.ushr x4_ (6 : Int32)) &&& (3 : Int32)), iv ((XT.ushr x4_ (8 : Int32)) &&& (3 : Int32)), rv b50, iv 1] [(.int (own_4 (own_eq (own_t ((XT.ushr x4_ (2 : Int32)) &&& (3 : Int32))) (own_b (own_c1 x0_)) (own_bb ((XT.ushr x4_ (2 : Int32)) &&& (3 : Int32)) x0_)) (own_eq (own_t ((XT.ushr x4_ (4 : Int32)) &&& (3 : Int32))) (own_b (own_c1 x1_)) (own_bb ((XT.ushr x4_ (4 : Int32)) &&& (3 : Int32)) x1_)) (own_eq (own_t ((XT.ushr x4_ (6 : Int32)) &&& (3 : Int32))) (own_b (own_c1 x2_)) (own_bb ((XT.ushr x4_ (6 : Int32)) &&& (3 : Int32)) x2_)) (own_eq (own_t ((XT.ushr x4_ (8 : Int32)) &&& (3 : Int32))) (own_b (own_c1 x3_)) (own_bb ((XT.ushr x4_ (8 : Int32)) &&& (3 : Int32)) x3_))))]
            refine os (fun _ z => XS.iload X168.here hx rfl (hb hby at_196) rfl z) ?_
            show OG p e below Φ T168 m 198 #[iv x0_, iv x1_, iv x2_, iv x3_, iv x4_, rv b1, iv (x4_ &&& (3 : Int32)), iv ((XT.ushr x4_ (2 : Int32)) &&& (3 : Int32)), iv ((XT.ushr x4_ (4 : Int32)) &&& (3 : Int32)), iv ((XT.ushr x4_ (6 : Int32)) &&& (3 : Int32)), iv ((XT.ushr x4_ (8 : Int32)) &&& (3 : Int32)), rv b50, iv 1] [(.int 1), (.int (own_4 (own_eq (own_t ((XT.ushr x4_ (2 : Int32)) &&& (3 : Int32))) (own_b (own_c1 x0_)) (own_bb ((XT.ushr x4_ (2 : Int32)) &&& (3 : Int32)) x0_)) (own_eq (own_t ((XT.ushr x4_ (4 : Int32)) &&& (3 : Int32))) (own_b (own_c1 x1_)) (own_bb ((XT.ushr x4_ (4 : Int32)) &&& (3 : Int32)) x1_)) (own_eq (own_t ((XT.ushr x4_ (6 : Int32)) &&& (3 : Int32))) (own_b (own_c1 x2_)) (own_bb ((XT.ushr x4_ (6 : Int32)) &&& (3 : Int32)) x2_)) (own_eq (own_t ((XT.ushr x4_ (8 : Int32)) &&& (3 : Int32))) (own_b (own_c1 x3_)) (own_bb ((XT.ushr x4_ (8 : Int32)) &&& (3 : Int32)) x3_))))]
            by_cases hc169 : (own_4 (own_eq (own_t ((XT.ushr x4_ (2 : Int32)) &&& (3 : Int32))) (own_b (own_c1 x0_)) (own_bb ((XT.ushr x4_ (2 : Int32)) &&& (3 : Int32)) x0_)) (own_eq (own_t ((XT.ushr x4_ (4 : Int32)) &&& (3 : Int32))) (own_b (own_c1 x1_)) (own_bb ((XT.ushr x4_ (4 : Int32)) &&& (3 : Int32)) x1_)) (own_eq (own_t ((XT.ushr x4_ (6 : Int32)) &&& (3 : Int32))) (own_b (own_c1 x2_)) (own_bb ((XT.ushr x4_ (6 : Int32)) &&& (3 : Int32)) x2_)) (own_eq (own_t ((XT.ushr x4_ (8 : Int32)) &&& (3 : Int32))) (own_b (own_c1 x3_)) (own_bb ((XT.ushr x4_ (8 : Int32)) &&& (3 : Int32)) x3_))) = (1 : Int32)
            · refine os (fun _ z => XS.icmpNo X168.here hx rfl (hb hby at_198) rfl (XT.ii_ne_f hc169) z) ?_
              show OG p e below Φ T168 m 201 #[iv x0_, iv x1_, iv x2_, iv x3_, iv x4_, rv b1, iv (x4_ &&& (3 : Int32)), iv ((XT.ushr x4_ (2 : Int32)) &&& (3 : Int32)), iv ((XT.ushr x4_ (4 : Int32)) &&& (3 : Int32)), iv ((XT.ushr x4_ (6 : Int32)) &&& (3 : Int32)), iv ((XT.ushr x4_ (8 : Int32)) &&& (3 : Int32)), rv b50, iv 1] []
              refine os (fun _ z => XS.iconst X168.here hx rfl (hb hby at_201) z) ?_
              show OG p e below Φ T168 m 202 #[iv x0_, iv x1_, iv x2_, iv x3_, iv x4_, rv b1, iv (x4_ &&& (3 : Int32)), iv ((XT.ushr x4_ (2 : Int32)) &&& (3 : Int32)), iv ((XT.ushr x4_ (4 : Int32)) &&& (3 : Int32)), iv ((XT.ushr x4_ (6 : Int32)) &&& (3 : Int32)), iv ((XT.ushr x4_ (8 : Int32)) &&& (3 : Int32)), rv b50, iv 1] [(.int 1)]
              refine os (fun _ z => XS.goto X168.here hx rfl (pc0 := 202) (pc' := 206) rfl (hb hby at_202) (by decide) (by decide) z) ?_
              show OG p e below Φ T168 m 206 #[iv x0_, iv x1_, iv x2_, iv x3_, iv x4_, rv b1, iv (x4_ &&& (3 : Int32)), iv ((XT.ushr x4_ (2 : Int32)) &&& (3 : Int32)), iv ((XT.ushr x4_ (4 : Int32)) &&& (3 : Int32)), iv ((XT.ushr x4_ (6 : Int32)) &&& (3 : Int32)), iv ((XT.ushr x4_ (8 : Int32)) &&& (3 : Int32)), rv b50, iv 1] [(.int 1)]
              refine OGo.finW X168 hlk hS e168 hkk (v := (some (.int 1))) (fun h => by rw [hret] at h; cases h) (by decide) (by decide) hZ (own_EW hw) hC (fun fs hr => X168.ireturnOut hx hret rfl (by simp) (hb hby at_206) hr) fun U eU hc hF => hΦ _ _ _ ?_ hc hF
              rw [eU]
              show Q_rm0 Z x0_ x1_ x2_ x3_ x4_ qc h0 n0 _ _ _
              exact ⟨rfl, N168⟩
            · refine os (fun _ z => XS.icmpYes X168.here hx rfl (pc0 := 198) (pc' := 205) rfl (hb hby at_198) rfl (XT.ii_ne_t hc169) (by decide) (by decide) z) ?_
              show OG p e below Φ T168 m 205 #[iv x0_, iv x1_, iv x2_, iv x3_, iv x4_, rv b1, iv (x4_ &&& (3 : Int32)), iv ((XT.ushr x4_ (2 : Int32)) &&& (3 : Int32)), iv ((XT.ushr x4_ (4 : Int32)) &&& (3 : Int32)), iv ((XT.ushr x4_ (6 : Int32)) &&& (3 : Int32)), iv ((XT.ushr x4_ (8 : Int32)) &&& (3 : Int32)), rv b50, iv 1] []
              refine os (fun _ z => XS.iconst X168.here hx rfl (hb hby at_205) z) ?_
              show OG p e below Φ T168 m 206 #[iv x0_, iv x1_, iv x2_, iv x3_, iv x4_, rv b1, iv (x4_ &&& (3 : Int32)), iv ((XT.ushr x4_ (2 : Int32)) &&& (3 : Int32)), iv ((XT.ushr x4_ (4 : Int32)) &&& (3 : Int32)), iv ((XT.ushr x4_ (6 : Int32)) &&& (3 : Int32)), iv ((XT.ushr x4_ (8 : Int32)) &&& (3 : Int32)), rv b50, iv 1] [(.int 0)]
              exact absurd (by simp only [own_es]; simp [own_4, hc153, hc157, hc161, hc165]) hc169
  · refine os (fun _ z => XS.ifYes X42.here hx rfl (pc0 := 67) (pc' := 149) rfl (hb hby at_67) rfl (XT.i0_ne_t hc49) (by decide) (by decide) z) ?_
    show OG p e below Φ T42 m 149 #[iv x0_, iv x1_, iv x2_, iv x3_, iv x4_, rv b1, iv (x4_ &&& (3 : Int32)), iv ((XT.ushr x4_ (2 : Int32)) &&& (3 : Int32)), iv ((XT.ushr x4_ (4 : Int32)) &&& (3 : Int32)), iv ((XT.ushr x4_ (6 : Int32)) &&& (3 : Int32)), iv ((XT.ushr x4_ (8 : Int32)) &&& (3 : Int32)), .unset, .unset] []
    refine os (fun _ z => XS.iload X42.here hx rfl (hb hby at_149) rfl z) ?_
    show OG p e below Φ T42 m 151 #[iv x0_, iv x1_, iv x2_, iv x3_, iv x4_, rv b1, iv (x4_ &&& (3 : Int32)), iv ((XT.ushr x4_ (2 : Int32)) &&& (3 : Int32)), iv ((XT.ushr x4_ (4 : Int32)) &&& (3 : Int32)), iv ((XT.ushr x4_ (6 : Int32)) &&& (3 : Int32)), iv ((XT.ushr x4_ (8 : Int32)) &&& (3 : Int32)), .unset, .unset] [(.int (x4_ &&& (3 : Int32)))]
    refine os (fun _ z => XS.iconst X42.here hx rfl (hb hby at_151) z) ?_
    show OG p e below Φ T42 m 152 #[iv x0_, iv x1_, iv x2_, iv x3_, iv x4_, rv b1, iv (x4_ &&& (3 : Int32)), iv ((XT.ushr x4_ (2 : Int32)) &&& (3 : Int32)), iv ((XT.ushr x4_ (4 : Int32)) &&& (3 : Int32)), iv ((XT.ushr x4_ (6 : Int32)) &&& (3 : Int32)), iv ((XT.ushr x4_ (8 : Int32)) &&& (3 : Int32)), .unset, .unset] [(.int 1), (.int (x4_ &&& (3 : Int32)))]
    by_cases hc170 : (x4_ &&& (3 : Int32)) = (1 : Int32)
    · refine os (fun _ z => XS.icmpNo X42.here hx rfl (hb hby at_152) rfl (XT.ii_ne_f hc170) z) ?_
      show OG p e below Φ T42 m 155 #[iv x0_, iv x1_, iv x2_, iv x3_, iv x4_, rv b1, iv (x4_ &&& (3 : Int32)), iv ((XT.ushr x4_ (2 : Int32)) &&& (3 : Int32)), iv ((XT.ushr x4_ (4 : Int32)) &&& (3 : Int32)), iv ((XT.ushr x4_ (6 : Int32)) &&& (3 : Int32)), iv ((XT.ushr x4_ (8 : Int32)) &&& (3 : Int32)), .unset, .unset] []
      refine os (fun _ z => XS.aconstNull X42.here hx rfl (hb hby at_155) z) ?_
      show OG p e below Φ T42 m 156 #[iv x0_, iv x1_, iv x2_, iv x3_, iv x4_, rv b1, iv (x4_ &&& (3 : Int32)), iv ((XT.ushr x4_ (2 : Int32)) &&& (3 : Int32)), iv ((XT.ushr x4_ (4 : Int32)) &&& (3 : Int32)), iv ((XT.ushr x4_ (6 : Int32)) &&& (3 : Int32)), iv ((XT.ushr x4_ (8 : Int32)) &&& (3 : Int32)), .unset, .unset] [.null]
      refine os (fun _ z => XS.astore X42.here hx rfl (hb hby at_156) rfl rfl (l' := #[iv x0_, iv x1_, iv x2_, iv x3_, iv x4_, rv b1, iv (x4_ &&& (3 : Int32)), iv ((XT.ushr x4_ (2 : Int32)) &&& (3 : Int32)), iv ((XT.ushr x4_ (4 : Int32)) &&& (3 : Int32)), iv ((XT.ushr x4_ (6 : Int32)) &&& (3 : Int32)), iv ((XT.ushr x4_ (8 : Int32)) &&& (3 : Int32)), .val .null, .unset]) rfl z) ?_
      show OG p e below Φ T42 m 158 #[iv x0_, iv x1_, iv x2_, iv x3_, iv x4_, rv b1, iv (x4_ &&& (3 : Int32)), iv ((XT.ushr x4_ (2 : Int32)) &&& (3 : Int32)), iv ((XT.ushr x4_ (4 : Int32)) &&& (3 : Int32)), iv ((XT.ushr x4_ (6 : Int32)) &&& (3 : Int32)), iv ((XT.ushr x4_ (8 : Int32)) &&& (3 : Int32)), .val .null, .unset] []
      refine os (fun _ z => XS.iconst X42.here hx rfl (hb hby at_158) z) ?_
      show OG p e below Φ T42 m 159 #[iv x0_, iv x1_, iv x2_, iv x3_, iv x4_, rv b1, iv (x4_ &&& (3 : Int32)), iv ((XT.ushr x4_ (2 : Int32)) &&& (3 : Int32)), iv ((XT.ushr x4_ (4 : Int32)) &&& (3 : Int32)), iv ((XT.ushr x4_ (6 : Int32)) &&& (3 : Int32)), iv ((XT.ushr x4_ (8 : Int32)) &&& (3 : Int32)), .val .null, .unset] [(.int 0)]
      refine os (fun _ z => XS.istore X42.here hx rfl (hb hby at_159) rfl (l' := #[iv x0_, iv x1_, iv x2_, iv x3_, iv x4_, rv b1, iv (x4_ &&& (3 : Int32)), iv ((XT.ushr x4_ (2 : Int32)) &&& (3 : Int32)), iv ((XT.ushr x4_ (4 : Int32)) &&& (3 : Int32)), iv ((XT.ushr x4_ (6 : Int32)) &&& (3 : Int32)), iv ((XT.ushr x4_ (8 : Int32)) &&& (3 : Int32)), .val .null, iv 0]) rfl z) ?_
      show OG p e below Φ T42 m 161 #[iv x0_, iv x1_, iv x2_, iv x3_, iv x4_, rv b1, iv (x4_ &&& (3 : Int32)), iv ((XT.ushr x4_ (2 : Int32)) &&& (3 : Int32)), iv ((XT.ushr x4_ (4 : Int32)) &&& (3 : Int32)), iv ((XT.ushr x4_ (6 : Int32)) &&& (3 : Int32)), iv ((XT.ushr x4_ (8 : Int32)) &&& (3 : Int32)), .val .null, iv 0] []
      refine os (fun _ z => XS.goto X42.here hx rfl (pc0 := 161) (pc' := 189) rfl (hb hby at_161) (by decide) (by decide) z) ?_
      show OG p e below Φ T42 m 189 #[iv x0_, iv x1_, iv x2_, iv x3_, iv x4_, rv b1, iv (x4_ &&& (3 : Int32)), iv ((XT.ushr x4_ (2 : Int32)) &&& (3 : Int32)), iv ((XT.ushr x4_ (4 : Int32)) &&& (3 : Int32)), iv ((XT.ushr x4_ (6 : Int32)) &&& (3 : Int32)), iv ((XT.ushr x4_ (8 : Int32)) &&& (3 : Int32)), .val .null, iv 0] []
      refine os (fun _ z => XS.aload X42.here hx rfl (hb hby at_189) rfl rfl z) ?_
      show OG p e below Φ T42 m 191 #[iv x0_, iv x1_, iv x2_, iv x3_, iv x4_, rv b1, iv (x4_ &&& (3 : Int32)), iv ((XT.ushr x4_ (2 : Int32)) &&& (3 : Int32)), iv ((XT.ushr x4_ (4 : Int32)) &&& (3 : Int32)), iv ((XT.ushr x4_ (6 : Int32)) &&& (3 : Int32)), iv ((XT.ushr x4_ (8 : Int32)) &&& (3 : Int32)), .val .null, iv 0] [(.ref b1)]
      refine os (fun _ z => XS.aload X42.here hx rfl (hb hby at_191) rfl rfl z) ?_
      show OG p e below Φ T42 m 193 #[iv x0_, iv x1_, iv x2_, iv x3_, iv x4_, rv b1, iv (x4_ &&& (3 : Int32)), iv ((XT.ushr x4_ (2 : Int32)) &&& (3 : Int32)), iv ((XT.ushr x4_ (4 : Int32)) &&& (3 : Int32)), iv ((XT.ushr x4_ (6 : Int32)) &&& (3 : Int32)), iv ((XT.ushr x4_ (8 : Int32)) &&& (3 : Int32)), .val .null, iv 0] [.null, (.ref b1)]
      obtain ⟨_, T171, L171, X171, hQ171, st171⟩ := own_callVi X42 hx hZ hown (ow54 hw) (ow55 hw) (notFace_of_selects (args := #[]) (mvT hZ (ow57 hw))) (ow57 hw) (ow56 hw) (ow2 hw) (ow58 hw) (by decide) (rin l Z a0 hw [] b1 T42.heap n0 Zs42 ) rfl (W := 0) (by decide) (by decide) (by decide) (by decide) Eq42 (pc := 193) (ls := #[iv x0_, iv x1_, iv x2_, iv x3_, iv x4_, rv b1, iv (x4_ &&& (3 : Int32)), iv ((XT.ushr x4_ (2 : Int32)) &&& (3 : Int32)), iv ((XT.ushr x4_ (4 : Int32)) &&& (3 : Int32)), iv ((XT.ushr x4_ (6 : Int32)) &&& (3 : Int32)), iv ((XT.ushr x4_ (8 : Int32)) &&& (3 : Int32)), .val .null, iv 0]) (stk := [.null, (.ref b1)]) (by rw [hml]; rfl) (argsL := [.null]) (rest := []) (lenOf pd11 rfl) rfl rfl (Nat.le_of_eq rfl) (hb hby at_193)
      obtain ⟨rfl, Nq171, e171⟩ := hQ171
      have N171 := Fr.app N42 Nq171
      refine os st171 ?_
      show OG p e below Φ T171 m 196 #[iv x0_, iv x1_, iv x2_, iv x3_, iv x4_, rv b1, iv (x4_ &&& (3 : Int32)), iv ((XT.ushr x4_ (2 : Int32)) &&& (3 : Int32)), iv ((XT.ushr x4_ (4 : Int32)) &&& (3 : Int32)), iv ((XT.ushr x4_ (6 : Int32)) &&& (3 : Int32)), iv ((XT.ushr x4_ (8 : Int32)) &&& (3 : Int32)), .val .null, iv 0] [(.int 0)]
      refine os (fun _ z => XS.iload X171.here hx rfl (hb hby at_196) rfl z) ?_
      show OG p e below Φ T171 m 198 #[iv x0_, iv x1_, iv x2_, iv x3_, iv x4_, rv b1, iv (x4_ &&& (3 : Int32)), iv ((XT.ushr x4_ (2 : Int32)) &&& (3 : Int32)), iv ((XT.ushr x4_ (4 : Int32)) &&& (3 : Int32)), iv ((XT.ushr x4_ (6 : Int32)) &&& (3 : Int32)), iv ((XT.ushr x4_ (8 : Int32)) &&& (3 : Int32)), .val .null, iv 0] [(.int 0), (.int 0)]
      refine os (fun _ z => XS.icmpNo X171.here hx rfl (hb hby at_198) rfl (XT.ii_ne_f (by decide)) z) ?_
      show OG p e below Φ T171 m 201 #[iv x0_, iv x1_, iv x2_, iv x3_, iv x4_, rv b1, iv (x4_ &&& (3 : Int32)), iv ((XT.ushr x4_ (2 : Int32)) &&& (3 : Int32)), iv ((XT.ushr x4_ (4 : Int32)) &&& (3 : Int32)), iv ((XT.ushr x4_ (6 : Int32)) &&& (3 : Int32)), iv ((XT.ushr x4_ (8 : Int32)) &&& (3 : Int32)), .val .null, iv 0] []
      refine os (fun _ z => XS.iconst X171.here hx rfl (hb hby at_201) z) ?_
      show OG p e below Φ T171 m 202 #[iv x0_, iv x1_, iv x2_, iv x3_, iv x4_, rv b1, iv (x4_ &&& (3 : Int32)), iv ((XT.ushr x4_ (2 : Int32)) &&& (3 : Int32)), iv ((XT.ushr x4_ (4 : Int32)) &&& (3 : Int32)), iv ((XT.ushr x4_ (6 : Int32)) &&& (3 : Int32)), iv ((XT.ushr x4_ (8 : Int32)) &&& (3 : Int32)), .val .null, iv 0] [(.int 1)]
      refine os (fun _ z => XS.goto X171.here hx rfl (pc0 := 202) (pc' := 206) rfl (hb hby at_202) (by decide) (by decide) z) ?_
      show OG p e below Φ T171 m 206 #[iv x0_, iv x1_, iv x2_, iv x3_, iv x4_, rv b1, iv (x4_ &&& (3 : Int32)), iv ((XT.ushr x4_ (2 : Int32)) &&& (3 : Int32)), iv ((XT.ushr x4_ (4 : Int32)) &&& (3 : Int32)), iv ((XT.ushr x4_ (6 : Int32)) &&& (3 : Int32)), iv ((XT.ushr x4_ (8 : Int32)) &&& (3 : Int32)), .val .null, iv 0] [(.int 1)]
      refine OGo.finW X171 hlk hS e171 hkk (v := (some (.int 1))) (fun h => by rw [hret] at h; cases h) (by decide) (by decide) hZ (own_EW hw) hC (fun fs hr => X171.ireturnOut hx hret rfl (by simp) (hb hby at_206) hr) fun U eU hc hF => hΦ _ _ _ ?_ hc hF
      rw [eU]
      show Q_rm0 Z x0_ x1_ x2_ x3_ x4_ qc h0 n0 _ _ _
      exact ⟨rfl, N171⟩
    · refine os (fun _ z => XS.icmpYes X42.here hx rfl (pc0 := 152) (pc' := 164) rfl (hb hby at_152) rfl (XT.ii_ne_t hc170) (by decide) (by decide) z) ?_
      show OG p e below Φ T42 m 164 #[iv x0_, iv x1_, iv x2_, iv x3_, iv x4_, rv b1, iv (x4_ &&& (3 : Int32)), iv ((XT.ushr x4_ (2 : Int32)) &&& (3 : Int32)), iv ((XT.ushr x4_ (4 : Int32)) &&& (3 : Int32)), iv ((XT.ushr x4_ (6 : Int32)) &&& (3 : Int32)), iv ((XT.ushr x4_ (8 : Int32)) &&& (3 : Int32)), .unset, .unset] []
      refine os (fun _ z => XS.iload X42.here hx rfl (hb hby at_164) rfl z) ?_
      show OG p e below Φ T42 m 166 #[iv x0_, iv x1_, iv x2_, iv x3_, iv x4_, rv b1, iv (x4_ &&& (3 : Int32)), iv ((XT.ushr x4_ (2 : Int32)) &&& (3 : Int32)), iv ((XT.ushr x4_ (4 : Int32)) &&& (3 : Int32)), iv ((XT.ushr x4_ (6 : Int32)) &&& (3 : Int32)), iv ((XT.ushr x4_ (8 : Int32)) &&& (3 : Int32)), .unset, .unset] [(.int (x4_ &&& (3 : Int32)))]
      refine os (fun _ z => XS.iconst X42.here hx rfl (hb hby at_166) z) ?_
      show OG p e below Φ T42 m 167 #[iv x0_, iv x1_, iv x2_, iv x3_, iv x4_, rv b1, iv (x4_ &&& (3 : Int32)), iv ((XT.ushr x4_ (2 : Int32)) &&& (3 : Int32)), iv ((XT.ushr x4_ (4 : Int32)) &&& (3 : Int32)), iv ((XT.ushr x4_ (6 : Int32)) &&& (3 : Int32)), iv ((XT.ushr x4_ (8 : Int32)) &&& (3 : Int32)), .unset, .unset] [(.int 2), (.int (x4_ &&& (3 : Int32)))]
      by_cases hc172 : (x4_ &&& (3 : Int32)) = (2 : Int32)
      · refine os (fun _ z => XS.icmpNo X42.here hx rfl (hb hby at_167) rfl (XT.ii_ne_f hc172) z) ?_
        show OG p e below Φ T42 m 170 #[iv x0_, iv x1_, iv x2_, iv x3_, iv x4_, rv b1, iv (x4_ &&& (3 : Int32)), iv ((XT.ushr x4_ (2 : Int32)) &&& (3 : Int32)), iv ((XT.ushr x4_ (4 : Int32)) &&& (3 : Int32)), iv ((XT.ushr x4_ (6 : Int32)) &&& (3 : Int32)), iv ((XT.ushr x4_ (8 : Int32)) &&& (3 : Int32)), .unset, .unset] []
        refine os (fun _ z => XS.iloadN X42.here hx rfl (hb hby at_170) rfl z) ?_
        show OG p e below Φ T42 m 171 #[iv x0_, iv x1_, iv x2_, iv x3_, iv x4_, rv b1, iv (x4_ &&& (3 : Int32)), iv ((XT.ushr x4_ (2 : Int32)) &&& (3 : Int32)), iv ((XT.ushr x4_ (4 : Int32)) &&& (3 : Int32)), iv ((XT.ushr x4_ (6 : Int32)) &&& (3 : Int32)), iv ((XT.ushr x4_ (8 : Int32)) &&& (3 : Int32)), .unset, .unset] [(.int x0_)]
        obtain ⟨_, T173, L173, X173, hQ173, st173⟩ := own_callSt X42 hx hZ hown (ow3 hw) (ow4 hw) (ow5 hw) (ow6 hw) (by decide) (rba l Z a0 hw [] x0_ qc T42.heap n0 Zs42 F43 S_cs hq) rfl (W := 0) (by decide) (by decide) (by decide) (by decide) (pc := 171) (ls := #[iv x0_, iv x1_, iv x2_, iv x3_, iv x4_, rv b1, iv (x4_ &&& (3 : Int32)), iv ((XT.ushr x4_ (2 : Int32)) &&& (3 : Int32)), iv ((XT.ushr x4_ (4 : Int32)) &&& (3 : Int32)), iv ((XT.ushr x4_ (6 : Int32)) &&& (3 : Int32)), iv ((XT.ushr x4_ (8 : Int32)) &&& (3 : Int32)), .unset, .unset]) (stk := [(.int x0_)]) (by rw [hml]; rfl) (argsL := [(.int x0_)]) (rest := []) (lenOf pd12 rfl) rfl rfl (Nat.le_of_eq rfl) (hb hby at_171)
        obtain ⟨sx173, rfl, Nq173, Kq173, Oq173, hz173⟩ := hQ173
        have nq173_b1 : b1 ≠ sx173 := Nat.ne_of_lt (Nat.lt_of_lt_of_le Eq42.lt hz173)
        have nq173_sx12 : sx12 ≠ sx173 := Nat.ne_of_lt (Nat.lt_of_lt_of_le F45.lt hz173)
        have nq173_sx21 : sx21 ≠ sx173 := Nat.ne_of_lt (Nat.lt_of_lt_of_le F46.lt hz173)
        have nq173_sx31 : sx31 ≠ sx173 := Nat.ne_of_lt (Nat.lt_of_lt_of_le F47.lt hz173)
        have nq173_sx4 : sx4 ≠ sx173 := Nat.ne_of_lt (Nat.lt_of_lt_of_le F44.lt hz173)
        have gq173 : n0 ≤ sx173 := Nat.le_trans Zs42 hz173
        have N173 := Fr.app N42 Nq173
        have Zs173 : n0 ≤ T173.heap.size := Nat.le_trans Zs42 Kq173.1
        have F174 := F43.keep Kq173 all0
        have F175 := F44.keep0 Kq173
        have F176 := F45.keep0 Kq173
        have F177 := F46.keep0 Kq173
        have F178 := F47.keep0 Kq173
        have F179 := Eq42.keep Kq173
        have F180 := Fq42_0.keep Kq173 nin0
        have F181 := Fq42_1.keep Kq173 nin0
        have F182 := Fq42_2.keep Kq173 nin0
        have F183 := Fq42_3.keep Kq173 nin0
        have hA184 := CHr.keep Kq173 sf0 hC.1
        have sf_b1 := hA184.safe Eq42.lt sf_b1
        have hkk := Nat.le_trans hkk hA184.2.1
        have hC := hC.trans hA184
        refine os st173 ?_
        show OG p e below Φ T173 m 174 #[iv x0_, iv x1_, iv x2_, iv x3_, iv x4_, rv b1, iv (x4_ &&& (3 : Int32)), iv ((XT.ushr x4_ (2 : Int32)) &&& (3 : Int32)), iv ((XT.ushr x4_ (4 : Int32)) &&& (3 : Int32)), iv ((XT.ushr x4_ (6 : Int32)) &&& (3 : Int32)), iv ((XT.ushr x4_ (8 : Int32)) &&& (3 : Int32)), .unset, .unset] [(.ref sx173)]
        refine os (fun _ z => XS.astore X173.here hx rfl (hb hby at_174) rfl rfl (l' := #[iv x0_, iv x1_, iv x2_, iv x3_, iv x4_, rv b1, iv (x4_ &&& (3 : Int32)), iv ((XT.ushr x4_ (2 : Int32)) &&& (3 : Int32)), iv ((XT.ushr x4_ (4 : Int32)) &&& (3 : Int32)), iv ((XT.ushr x4_ (6 : Int32)) &&& (3 : Int32)), iv ((XT.ushr x4_ (8 : Int32)) &&& (3 : Int32)), rv sx173, .unset]) rfl z) ?_
        show OG p e below Φ T173 m 176 #[iv x0_, iv x1_, iv x2_, iv x3_, iv x4_, rv b1, iv (x4_ &&& (3 : Int32)), iv ((XT.ushr x4_ (2 : Int32)) &&& (3 : Int32)), iv ((XT.ushr x4_ (4 : Int32)) &&& (3 : Int32)), iv ((XT.ushr x4_ (6 : Int32)) &&& (3 : Int32)), iv ((XT.ushr x4_ (8 : Int32)) &&& (3 : Int32)), rv sx173, .unset] []
        refine os (fun _ z => XS.iconst X173.here hx rfl (hb hby at_176) z) ?_
        show OG p e below Φ T173 m 177 #[iv x0_, iv x1_, iv x2_, iv x3_, iv x4_, rv b1, iv (x4_ &&& (3 : Int32)), iv ((XT.ushr x4_ (2 : Int32)) &&& (3 : Int32)), iv ((XT.ushr x4_ (4 : Int32)) &&& (3 : Int32)), iv ((XT.ushr x4_ (6 : Int32)) &&& (3 : Int32)), iv ((XT.ushr x4_ (8 : Int32)) &&& (3 : Int32)), rv sx173, .unset] [(.int 0)]
        refine os (fun _ z => XS.istore X173.here hx rfl (hb hby at_177) rfl (l' := #[iv x0_, iv x1_, iv x2_, iv x3_, iv x4_, rv b1, iv (x4_ &&& (3 : Int32)), iv ((XT.ushr x4_ (2 : Int32)) &&& (3 : Int32)), iv ((XT.ushr x4_ (4 : Int32)) &&& (3 : Int32)), iv ((XT.ushr x4_ (6 : Int32)) &&& (3 : Int32)), iv ((XT.ushr x4_ (8 : Int32)) &&& (3 : Int32)), rv sx173, iv 0]) rfl z) ?_
        show OG p e below Φ T173 m 179 #[iv x0_, iv x1_, iv x2_, iv x3_, iv x4_, rv b1, iv (x4_ &&& (3 : Int32)), iv ((XT.ushr x4_ (2 : Int32)) &&& (3 : Int32)), iv ((XT.ushr x4_ (4 : Int32)) &&& (3 : Int32)), iv ((XT.ushr x4_ (6 : Int32)) &&& (3 : Int32)), iv ((XT.ushr x4_ (8 : Int32)) &&& (3 : Int32)), rv sx173, iv 0] []
        refine os (fun _ z => XS.goto X173.here hx rfl (pc0 := 179) (pc' := 189) rfl (hb hby at_179) (by decide) (by decide) z) ?_
        show OG p e below Φ T173 m 189 #[iv x0_, iv x1_, iv x2_, iv x3_, iv x4_, rv b1, iv (x4_ &&& (3 : Int32)), iv ((XT.ushr x4_ (2 : Int32)) &&& (3 : Int32)), iv ((XT.ushr x4_ (4 : Int32)) &&& (3 : Int32)), iv ((XT.ushr x4_ (6 : Int32)) &&& (3 : Int32)), iv ((XT.ushr x4_ (8 : Int32)) &&& (3 : Int32)), rv sx173, iv 0] []
        refine os (fun _ z => XS.aload X173.here hx rfl (hb hby at_189) rfl rfl z) ?_
        show OG p e below Φ T173 m 191 #[iv x0_, iv x1_, iv x2_, iv x3_, iv x4_, rv b1, iv (x4_ &&& (3 : Int32)), iv ((XT.ushr x4_ (2 : Int32)) &&& (3 : Int32)), iv ((XT.ushr x4_ (4 : Int32)) &&& (3 : Int32)), iv ((XT.ushr x4_ (6 : Int32)) &&& (3 : Int32)), iv ((XT.ushr x4_ (8 : Int32)) &&& (3 : Int32)), rv sx173, iv 0] [(.ref b1)]
        refine os (fun _ z => XS.aload X173.here hx rfl (hb hby at_191) rfl rfl z) ?_
        show OG p e below Φ T173 m 193 #[iv x0_, iv x1_, iv x2_, iv x3_, iv x4_, rv b1, iv (x4_ &&& (3 : Int32)), iv ((XT.ushr x4_ (2 : Int32)) &&& (3 : Int32)), iv ((XT.ushr x4_ (4 : Int32)) &&& (3 : Int32)), iv ((XT.ushr x4_ (6 : Int32)) &&& (3 : Int32)), iv ((XT.ushr x4_ (8 : Int32)) &&& (3 : Int32)), rv sx173, iv 0] [(.ref sx173), (.ref b1)]
        obtain ⟨_, T185, L185, X185, hQ185, st185⟩ := own_callVi X173 hx hZ hown (ow54 hw) (ow55 hw) (notFace_of_selects (args := #[]) (mvT hZ (ow57 hw))) (ow57 hw) (ow56 hw) (ow2 hw) (ow58 hw) (by decide) (ris l Z a0 hw [] b1 sx173 T173.heap n0 Zs173 Oq173.1) rfl (W := 0) (by decide) (by decide) (by decide) (by decide) F179 (pc := 193) (ls := #[iv x0_, iv x1_, iv x2_, iv x3_, iv x4_, rv b1, iv (x4_ &&& (3 : Int32)), iv ((XT.ushr x4_ (2 : Int32)) &&& (3 : Int32)), iv ((XT.ushr x4_ (4 : Int32)) &&& (3 : Int32)), iv ((XT.ushr x4_ (6 : Int32)) &&& (3 : Int32)), iv ((XT.ushr x4_ (8 : Int32)) &&& (3 : Int32)), rv sx173, iv 0]) (stk := [(.ref sx173), (.ref b1)]) (by rw [hml]; rfl) (argsL := [(.ref sx173)]) (rest := []) (lenOf pd11 rfl) rfl rfl (Nat.le_of_eq rfl) (hb hby at_193)
        obtain ⟨rfl, Nq185, e185⟩ := hQ185
        have N185 := Fr.app N173 Nq185
        refine os st185 ?_
        show OG p e below Φ T185 m 196 #[iv x0_, iv x1_, iv x2_, iv x3_, iv x4_, rv b1, iv (x4_ &&& (3 : Int32)), iv ((XT.ushr x4_ (2 : Int32)) &&& (3 : Int32)), iv ((XT.ushr x4_ (4 : Int32)) &&& (3 : Int32)), iv ((XT.ushr x4_ (6 : Int32)) &&& (3 : Int32)), iv ((XT.ushr x4_ (8 : Int32)) &&& (3 : Int32)), rv sx173, iv 0] [(.int 0)]
        refine os (fun _ z => XS.iload X185.here hx rfl (hb hby at_196) rfl z) ?_
        show OG p e below Φ T185 m 198 #[iv x0_, iv x1_, iv x2_, iv x3_, iv x4_, rv b1, iv (x4_ &&& (3 : Int32)), iv ((XT.ushr x4_ (2 : Int32)) &&& (3 : Int32)), iv ((XT.ushr x4_ (4 : Int32)) &&& (3 : Int32)), iv ((XT.ushr x4_ (6 : Int32)) &&& (3 : Int32)), iv ((XT.ushr x4_ (8 : Int32)) &&& (3 : Int32)), rv sx173, iv 0] [(.int 0), (.int 0)]
        refine os (fun _ z => XS.icmpNo X185.here hx rfl (hb hby at_198) rfl (XT.ii_ne_f (by decide)) z) ?_
        show OG p e below Φ T185 m 201 #[iv x0_, iv x1_, iv x2_, iv x3_, iv x4_, rv b1, iv (x4_ &&& (3 : Int32)), iv ((XT.ushr x4_ (2 : Int32)) &&& (3 : Int32)), iv ((XT.ushr x4_ (4 : Int32)) &&& (3 : Int32)), iv ((XT.ushr x4_ (6 : Int32)) &&& (3 : Int32)), iv ((XT.ushr x4_ (8 : Int32)) &&& (3 : Int32)), rv sx173, iv 0] []
        refine os (fun _ z => XS.iconst X185.here hx rfl (hb hby at_201) z) ?_
        show OG p e below Φ T185 m 202 #[iv x0_, iv x1_, iv x2_, iv x3_, iv x4_, rv b1, iv (x4_ &&& (3 : Int32)), iv ((XT.ushr x4_ (2 : Int32)) &&& (3 : Int32)), iv ((XT.ushr x4_ (4 : Int32)) &&& (3 : Int32)), iv ((XT.ushr x4_ (6 : Int32)) &&& (3 : Int32)), iv ((XT.ushr x4_ (8 : Int32)) &&& (3 : Int32)), rv sx173, iv 0] [(.int 1)]
        refine os (fun _ z => XS.goto X185.here hx rfl (pc0 := 202) (pc' := 206) rfl (hb hby at_202) (by decide) (by decide) z) ?_
        show OG p e below Φ T185 m 206 #[iv x0_, iv x1_, iv x2_, iv x3_, iv x4_, rv b1, iv (x4_ &&& (3 : Int32)), iv ((XT.ushr x4_ (2 : Int32)) &&& (3 : Int32)), iv ((XT.ushr x4_ (4 : Int32)) &&& (3 : Int32)), iv ((XT.ushr x4_ (6 : Int32)) &&& (3 : Int32)), iv ((XT.ushr x4_ (8 : Int32)) &&& (3 : Int32)), rv sx173, iv 0] [(.int 1)]
        refine OGo.finW X185 hlk hS e185 hkk (v := (some (.int 1))) (fun h => by rw [hret] at h; cases h) (by decide) (by decide) hZ (own_EW hw) hC (fun fs hr => X185.ireturnOut hx hret rfl (by simp) (hb hby at_206) hr) fun U eU hc hF => hΦ _ _ _ ?_ hc hF
        rw [eU]
        show Q_rm0 Z x0_ x1_ x2_ x3_ x4_ qc h0 n0 _ _ _
        exact ⟨rfl, N185⟩
      · refine os (fun _ z => XS.icmpYes X42.here hx rfl (pc0 := 167) (pc' := 182) rfl (hb hby at_167) rfl (XT.ii_ne_t hc172) (by decide) (by decide) z) ?_
        show OG p e below Φ T42 m 182 #[iv x0_, iv x1_, iv x2_, iv x3_, iv x4_, rv b1, iv (x4_ &&& (3 : Int32)), iv ((XT.ushr x4_ (2 : Int32)) &&& (3 : Int32)), iv ((XT.ushr x4_ (4 : Int32)) &&& (3 : Int32)), iv ((XT.ushr x4_ (6 : Int32)) &&& (3 : Int32)), iv ((XT.ushr x4_ (8 : Int32)) &&& (3 : Int32)), .unset, .unset] []
        refine os (fun _ z => XS.aload X42.here hx rfl (hb hby at_182) rfl rfl z) ?_
        show OG p e below Φ T42 m 184 #[iv x0_, iv x1_, iv x2_, iv x3_, iv x4_, rv b1, iv (x4_ &&& (3 : Int32)), iv ((XT.ushr x4_ (2 : Int32)) &&& (3 : Int32)), iv ((XT.ushr x4_ (4 : Int32)) &&& (3 : Int32)), iv ((XT.ushr x4_ (6 : Int32)) &&& (3 : Int32)), iv ((XT.ushr x4_ (8 : Int32)) &&& (3 : Int32)), .unset, .unset] [(.ref b1)]
        refine os (fun _ z => XS.astore X42.here hx rfl (hb hby at_184) rfl rfl (l' := #[iv x0_, iv x1_, iv x2_, iv x3_, iv x4_, rv b1, iv (x4_ &&& (3 : Int32)), iv ((XT.ushr x4_ (2 : Int32)) &&& (3 : Int32)), iv ((XT.ushr x4_ (4 : Int32)) &&& (3 : Int32)), iv ((XT.ushr x4_ (6 : Int32)) &&& (3 : Int32)), iv ((XT.ushr x4_ (8 : Int32)) &&& (3 : Int32)), rv b1, .unset]) rfl z) ?_
        show OG p e below Φ T42 m 186 #[iv x0_, iv x1_, iv x2_, iv x3_, iv x4_, rv b1, iv (x4_ &&& (3 : Int32)), iv ((XT.ushr x4_ (2 : Int32)) &&& (3 : Int32)), iv ((XT.ushr x4_ (4 : Int32)) &&& (3 : Int32)), iv ((XT.ushr x4_ (6 : Int32)) &&& (3 : Int32)), iv ((XT.ushr x4_ (8 : Int32)) &&& (3 : Int32)), rv b1, .unset] []
        refine os (fun _ z => XS.iconst X42.here hx rfl (hb hby at_186) z) ?_
        show OG p e below Φ T42 m 187 #[iv x0_, iv x1_, iv x2_, iv x3_, iv x4_, rv b1, iv (x4_ &&& (3 : Int32)), iv ((XT.ushr x4_ (2 : Int32)) &&& (3 : Int32)), iv ((XT.ushr x4_ (4 : Int32)) &&& (3 : Int32)), iv ((XT.ushr x4_ (6 : Int32)) &&& (3 : Int32)), iv ((XT.ushr x4_ (8 : Int32)) &&& (3 : Int32)), rv b1, .unset] [(.int 1)]
        refine os (fun _ z => XS.istore X42.here hx rfl (hb hby at_187) rfl (l' := #[iv x0_, iv x1_, iv x2_, iv x3_, iv x4_, rv b1, iv (x4_ &&& (3 : Int32)), iv ((XT.ushr x4_ (2 : Int32)) &&& (3 : Int32)), iv ((XT.ushr x4_ (4 : Int32)) &&& (3 : Int32)), iv ((XT.ushr x4_ (6 : Int32)) &&& (3 : Int32)), iv ((XT.ushr x4_ (8 : Int32)) &&& (3 : Int32)), rv b1, iv 1]) rfl z) ?_
        show OG p e below Φ T42 m 189 #[iv x0_, iv x1_, iv x2_, iv x3_, iv x4_, rv b1, iv (x4_ &&& (3 : Int32)), iv ((XT.ushr x4_ (2 : Int32)) &&& (3 : Int32)), iv ((XT.ushr x4_ (4 : Int32)) &&& (3 : Int32)), iv ((XT.ushr x4_ (6 : Int32)) &&& (3 : Int32)), iv ((XT.ushr x4_ (8 : Int32)) &&& (3 : Int32)), rv b1, iv 1] []
        refine os (fun _ z => XS.aload X42.here hx rfl (hb hby at_189) rfl rfl z) ?_
        show OG p e below Φ T42 m 191 #[iv x0_, iv x1_, iv x2_, iv x3_, iv x4_, rv b1, iv (x4_ &&& (3 : Int32)), iv ((XT.ushr x4_ (2 : Int32)) &&& (3 : Int32)), iv ((XT.ushr x4_ (4 : Int32)) &&& (3 : Int32)), iv ((XT.ushr x4_ (6 : Int32)) &&& (3 : Int32)), iv ((XT.ushr x4_ (8 : Int32)) &&& (3 : Int32)), rv b1, iv 1] [(.ref b1)]
        refine os (fun _ z => XS.aload X42.here hx rfl (hb hby at_191) rfl rfl z) ?_
        show OG p e below Φ T42 m 193 #[iv x0_, iv x1_, iv x2_, iv x3_, iv x4_, rv b1, iv (x4_ &&& (3 : Int32)), iv ((XT.ushr x4_ (2 : Int32)) &&& (3 : Int32)), iv ((XT.ushr x4_ (4 : Int32)) &&& (3 : Int32)), iv ((XT.ushr x4_ (6 : Int32)) &&& (3 : Int32)), iv ((XT.ushr x4_ (8 : Int32)) &&& (3 : Int32)), rv b1, iv 1] [(.ref b1), (.ref b1)]
        obtain ⟨_, T186, L186, X186, hQ186, st186⟩ := own_callVi X42 hx hZ hown (ow54 hw) (ow55 hw) (notFace_of_selects (args := #[]) (mvT hZ (ow57 hw))) (ow57 hw) (ow56 hw) (ow2 hw) (ow58 hw) (by decide) (rii l Z a0 hw [] b1 sx4 sx12 sx21 sx31 T42.heap n0 Zs42 Eq42 Fq42_0 Fq42_1 Fq42_2 Fq42_3 F44.1 F45.1 F46.1 F47.1) rfl (W := 0) (by decide) (by decide) (by decide) (by decide) Eq42 (pc := 193) (ls := #[iv x0_, iv x1_, iv x2_, iv x3_, iv x4_, rv b1, iv (x4_ &&& (3 : Int32)), iv ((XT.ushr x4_ (2 : Int32)) &&& (3 : Int32)), iv ((XT.ushr x4_ (4 : Int32)) &&& (3 : Int32)), iv ((XT.ushr x4_ (6 : Int32)) &&& (3 : Int32)), iv ((XT.ushr x4_ (8 : Int32)) &&& (3 : Int32)), rv b1, iv 1]) (stk := [(.ref b1), (.ref b1)]) (by rw [hml]; rfl) (argsL := [(.ref b1)]) (rest := []) (lenOf pd11 rfl) rfl rfl (Nat.le_of_eq rfl) (hb hby at_193)
        obtain ⟨rfl, Nq186, e186⟩ := hQ186
        have N186 := Fr.app N42 Nq186
        refine os st186 ?_
        show OG p e below Φ T186 m 196 #[iv x0_, iv x1_, iv x2_, iv x3_, iv x4_, rv b1, iv (x4_ &&& (3 : Int32)), iv ((XT.ushr x4_ (2 : Int32)) &&& (3 : Int32)), iv ((XT.ushr x4_ (4 : Int32)) &&& (3 : Int32)), iv ((XT.ushr x4_ (6 : Int32)) &&& (3 : Int32)), iv ((XT.ushr x4_ (8 : Int32)) &&& (3 : Int32)), rv b1, iv 1] [(.int 1)]
        refine os (fun _ z => XS.iload X186.here hx rfl (hb hby at_196) rfl z) ?_
        show OG p e below Φ T186 m 198 #[iv x0_, iv x1_, iv x2_, iv x3_, iv x4_, rv b1, iv (x4_ &&& (3 : Int32)), iv ((XT.ushr x4_ (2 : Int32)) &&& (3 : Int32)), iv ((XT.ushr x4_ (4 : Int32)) &&& (3 : Int32)), iv ((XT.ushr x4_ (6 : Int32)) &&& (3 : Int32)), iv ((XT.ushr x4_ (8 : Int32)) &&& (3 : Int32)), rv b1, iv 1] [(.int 1), (.int 1)]
        refine os (fun _ z => XS.icmpNo X186.here hx rfl (hb hby at_198) rfl (XT.ii_ne_f (by decide)) z) ?_
        show OG p e below Φ T186 m 201 #[iv x0_, iv x1_, iv x2_, iv x3_, iv x4_, rv b1, iv (x4_ &&& (3 : Int32)), iv ((XT.ushr x4_ (2 : Int32)) &&& (3 : Int32)), iv ((XT.ushr x4_ (4 : Int32)) &&& (3 : Int32)), iv ((XT.ushr x4_ (6 : Int32)) &&& (3 : Int32)), iv ((XT.ushr x4_ (8 : Int32)) &&& (3 : Int32)), rv b1, iv 1] []
        refine os (fun _ z => XS.iconst X186.here hx rfl (hb hby at_201) z) ?_
        show OG p e below Φ T186 m 202 #[iv x0_, iv x1_, iv x2_, iv x3_, iv x4_, rv b1, iv (x4_ &&& (3 : Int32)), iv ((XT.ushr x4_ (2 : Int32)) &&& (3 : Int32)), iv ((XT.ushr x4_ (4 : Int32)) &&& (3 : Int32)), iv ((XT.ushr x4_ (6 : Int32)) &&& (3 : Int32)), iv ((XT.ushr x4_ (8 : Int32)) &&& (3 : Int32)), rv b1, iv 1] [(.int 1)]
        refine os (fun _ z => XS.goto X186.here hx rfl (pc0 := 202) (pc' := 206) rfl (hb hby at_202) (by decide) (by decide) z) ?_
        show OG p e below Φ T186 m 206 #[iv x0_, iv x1_, iv x2_, iv x3_, iv x4_, rv b1, iv (x4_ &&& (3 : Int32)), iv ((XT.ushr x4_ (2 : Int32)) &&& (3 : Int32)), iv ((XT.ushr x4_ (4 : Int32)) &&& (3 : Int32)), iv ((XT.ushr x4_ (6 : Int32)) &&& (3 : Int32)), iv ((XT.ushr x4_ (8 : Int32)) &&& (3 : Int32)), rv b1, iv 1] [(.int 1)]
        refine OGo.finW X186 hlk hS e186 hkk (v := (some (.int 1))) (fun h => by rw [hret] at h; cases h) (by decide) (by decide) hZ (own_EW hw) hC (fun fs hr => X186.ireturnOut hx hret rfl (by simp) (hb hby at_206) hr) fun U eU hc hF => hΦ _ _ _ ?_ hc hF
        rw [eU]
        show Q_rm0 Z x0_ x1_ x2_ x3_ x4_ qc h0 n0 _ _ _
        exact ⟨rfl, N186⟩

set_option maxRecDepth 65536 in
set_option maxHeartbeats 40000000 in
theorem comes_1 {Post : Tables → Env → Array Value → State → Outcome → State → Prop} (hpost : ∀ tb e args s v u, (limb_1_1.after args s (.returned v) u = true ∧ limb_1_2.after args s (.returned v) u = true ∧ True) → FramedW s (.returned v) u (Jvm.fieldLocs frame_1_writes args s ++ Jvm.arrayLocs frame_1_arrays args s ++ Jvm.staticLocs frame_1_statics s) 56 1216 → Post tb e args s (.returned v) u) :
    ArmFor flags0 classFile x code maxLocals ret World_1 tables_1 room_1 Calls_1 rest_1 Pre_1 Post := by
  intro l hfl _ _ p e ha hc hk s m args below hf hA hF happ hP
  obtain ⟨hcalls, hrest, hpre⟩ := hP
  obtain ⟨-, -, -, hnamed, -, -, -, hat⟩ := (Spec.applies_iff hf).mp happ
  obtain ⟨hg, hn⟩ := and_e (Cond.before_iff.mp (show (Jvm.Cond.and given_1 narrow_1).before args s = true from hpre))
  obtain ⟨g0, r0⟩ := and_e hg
  obtain ⟨k0, r1⟩ := and_e r0
  obtain ⟨k1, r2⟩ := and_e r1
  obtain ⟨k2, r3⟩ := and_e r2
  obtain ⟨k3, r4⟩ := and_e r3
  have k4 := r4
  obtain ⟨w0, w1, w2, w3, w4, rfl⟩ : ∃ w0 w1 w2 w3 w4 : Value, args = #[w0, w1, w2, w3, w4] := by
    have hs : args.size = 5 := by simpa [Cond.value, given_1] using g0
    obtain ⟨L⟩ := args
    match L, hs with
    | [w0, w1, w2, w3, w4], _ => exact ⟨w0, w1, w2, w3, w4, rfl⟩
  have hw := fun d (hd : d ∈ tables_1) => atoms_spec (ws := Jvm.Cond.code x code maxLocals ret :: tables_1) hat d (List.mem_cons_of_mem _ hd)
  have hfit : Fit s := fun {y c} hc i hi => by
    obtain ⟨ha, rfl⟩ := Array.getElem?_eq_some_iff.mp hc
    have q := List.all_eq_true.mp ((Array.all_eq_true_iff_forall_mem.mp hF) _ (Array.getElem_mem ha)) i (List.mem_range.mpr hi)
    simpa [Array.getElem?_eq_getElem hi] using q
  obtain ⟨i0, ei0⟩ := is_v k0
  obtain rfl : w0 = (.int i0) := Option.some.inj ei0
  obtain ⟨i1, ei1⟩ := is_v k1
  obtain rfl : w1 = (.int i1) := Option.some.inj ei1
  obtain ⟨i2, ei2⟩ := is_v k2
  obtain rfl : w2 = (.int i2) := Option.some.inj ei2
  obtain ⟨i3, ei3⟩ := is_v k3
  obtain rfl : w3 = (.int i3) := Option.some.inj ei3
  obtain ⟨i4, ei4⟩ := is_v k4
  obtain rfl : w4 = (.int i4) := Option.some.inj ei4
  have hrc : rest_1_c.before _ s = true := hrest
  rw [rest_1_c_eq] at hrc
  have hsets := (atoms_of jdkStatics_1 hrc).1
  obtain ⟨qc, v_q⟩ := is_v (Cond.before_iff.mp (hsets _ (List.mem_of_getElem? (i := 1) rfl)))
  have S_cs := Sta.start v_q (Or.inl (hsets _ (List.mem_of_getElem? (i := 0) rfl)))
  have hq : ¬ qc = 0 := fun z => by have u := not_v (Cond.before_iff.mp (hsets _ (List.mem_of_getElem? (i := 2) rfl))); rw [eq_i v_q (Term.int_eval 0) (by rw [z])] at u; cases u
  obtain ⟨n, o, h1, h2, h3, _, L, rfl, ⟨rfl, N⟩, -, hq⟩ := rm0 l s _ hw tables_1 i0 i1 i2 i3 i4 qc s.heap s.heap.size (Nat.le_refl _) (Old.start s) S_cs hq p e ha hc hk s m _ below hf ((Spec.applies_iff_loose hf).mp happ).1 ⟨rfl, State.Warmed39.refl s, rfl, CHv.start (own_EW hw) (fun p hp => hcalls.1 p hp) (hsets _ (List.mem_of_getElem? (i := 2) rfl)) (ow24 hw) (ow20 hw), fun _ hx => nomatch hx⟩ trivial
  refine ⟨n, _, h1, h2, h3, hpost _ _ _ _ _ _ ⟨Cond.after_iff.mpr rfl, Cond.after_iff.mpr (eq_i res_at (Term.int_eval (1)) rfl), trivial⟩ ⟨hq.1, hq.2.1, hq.2.2.1, (hq.2.2.2.sift fun y hy => Or.inr (N y hy)).mono (by decide) (by decide)⟩⟩
theorem main_1_1 : Claimed_1_1 := comes_1 fun _ _ _ _ _ _ h hF => ⟨h.1, hF⟩
theorem main_1_2 : Claimed_1_2 := comes_1 fun _ _ _ _ _ _ h hF => ⟨h.2.1, hF⟩
end Jvm.Pilot.@@N@@
namespace Jvm.Pilot.@@N@@
open Jvm Jvm.ClassFile Sem Op Lib Jvm.Free Jvm.Stand Jvm.Pilot.@@N@@.Jvm.D
/-! MADE BY PROGRAM (witnessworld.py) out of the Statement's table words and the real class files: 20 classes; the members and pool entries that the words name. The judged class is class 1, her method 6. -/
namespace start1
open Jvm.ClassFile
def u (s : String) : CpInfo := .utf8 (stringToUtf16 s)
/-- a pool by its gaps: so many unusable entries, then the entry; so many at the end -/
def gap : Nat → List CpInfo → List CpInfo
  | 0, r => r
  | n + 1, r => .unusable :: gap n r
def poolList (es : List (Nat × CpInfo)) (last : Nat) : List CpInfo := es.foldr (fun e r => gap e.1 (e.2 :: r)) (gap last [])
def pool (es : List (Nat × CpInfo)) (last : Nat) : Array CpInfo := ⟨poolList es last⟩
def fileOf (pool : Array CpInfo) (this : Nat) (attrs : Array Attribute := #[]) (ms : Array MethodInfo := #[]) (fl : Nat := 33) (sup : Nat := 0) (ifs : Array Nat := #[]) (fds : Array FieldInfo := #[]) : ClassFile where
  minorVersion := 0
  majorVersion := 65
  constantPool := pool
  accessFlags := fl
  thisClass := this
  superClass := sup
  interfaces := ifs
  fields := fds
  methods := ms
  attributes := attrs
def plain (name : String) (sup : Option ClassId) : Class where
  name := name
  kind := .ordinary
  loader := none
  accessFlags := 33
  super := sup
  interfaces := #[]
  cf := none
  fields := #[]
  methods := #[]
  instanceTypes := #[]
  staticTypes := #[]
  resolved := #[]
  callSites := []
  init := .initialized
  statics := none
  mirror := none

def pool0 : Array CpInfo := pool [(5, u "<init>"), (0, u "()V"), (1, .class_ 10), (1, u "java/lang/Object")] 113

def k0c0 : Code := { maxStack := 0, maxLocals := 1, code := object_method_1_code, exceptionTable := #[], attributes := #[] }
def k0m0 : Method := { name := "<init>", desc := "()V", sig := { parameters := [], returnType := none }, accessFlags := 1, code := some k0c0 }
/-- java/lang/Object -/
def k0 : Class := { plain "java/lang/Object" none with
  accessFlags := 33
  interfaces := #[]
  cf := some (fileOf pool0 8 #[] #[{ accessFlags := 1, nameIndex := 5, descriptorIndex := 6, attributes := #[] }] 33 0 #[] #[])
  fields := #[]
  methods := #[k0m0]
  instanceTypes := #[]
  staticTypes := #[]
  resolved := Array.replicate 124 none
  statics := none }

def pool1 : Array CpInfo := pool [(2, .class_ 4), (1, u "java/lang/Object"), (0, u "<init>"), (0, u "()V"), (0, .methodref 8 9), (0, .class_ 10), (0, .nameAndType 11 12), (0, u "com/example/zonewright/zonewright/storage/ServiceInstanceEqualsPinLaw"), (0, u "c1"), (0, u "(I)C"), (0, .methodref 14 15), (0, .class_ 16), (0, .nameAndType 17 18), (0, u "java/lang/String"), (0, u "valueOf"), (0, u "(C)Ljava/lang/String;"), (0, .methodref 8 20), (0, .nameAndType 21 12), (0, u "c2"), (0, .methodref 14 23), (0, .nameAndType 5 24), (0, u "([C)V"), (0, .class_ 26), (0, u "com/example/zonewright/zonewright/storage/ServiceInstance"), (0, .methodref 8 28), (0, .nameAndType 29 30), (0, u "base"), (0, u "(I)Ljava/lang/String;"), (0, .methodref 25 32), (0, .nameAndType 5 33), (0, u "(Ljava/lang/String;Ljava/lang/String;Ljava/lang/String;Ljava/lang/String;)V"), (0, .methodref 8 35), (0, .nameAndType 36 37), (0, u "mk"), (0, u "(II)Ljava/lang/String;"), (0, .methodref 8 39), (0, .nameAndType 40 41), (0, u "same"), (0, u "(II)Z"), (0, .methodref 25 43), (0, .nameAndType 44 45), (0, u "equals"), (0, u "(Ljava/lang/Object;)Z"), (3, u "law"), (0, u "(IIIII)Z")] 2

def k1m0 : Method := { name := "<init>", desc := "()V", sig := { parameters := [], returnType := none }, accessFlags := 1, code := none }
def k1c1 : Code := { maxStack := 2, maxLocals := 1, code := method_2_code, exceptionTable := #[], attributes := #[] }
def k1m1 : Method := { name := "c1", desc := "(I)C", sig := { parameters := [.int], returnType := some .char }, accessFlags := 10, code := some k1c1 }
def k1c2 : Code := { maxStack := 2, maxLocals := 1, code := method_3_code, exceptionTable := #[], attributes := #[] }
def k1m2 : Method := { name := "c2", desc := "(I)C", sig := { parameters := [.int], returnType := some .char }, accessFlags := 10, code := some k1c2 }
def k1c3 : Code := { maxStack := 1, maxLocals := 1, code := method_4_code, exceptionTable := #[], attributes := #[] }
def k1m3 : Method := { name := "base", desc := "(I)Ljava/lang/String;", sig := { parameters := [.int], returnType := some (.object "java/lang/String") }, accessFlags := 10, code := some k1c3 }
def k1c4 : Code := { maxStack := 6, maxLocals := 2, code := method_5_code, exceptionTable := #[], attributes := #[] }
def k1m4 : Method := { name := "mk", desc := "(II)Ljava/lang/String;", sig := { parameters := [.int, .int], returnType := some (.object "java/lang/String") }, accessFlags := 10, code := some k1c4 }
def k1c5 : Code := { maxStack := 2, maxLocals := 2, code := method_6_code, exceptionTable := #[], attributes := #[] }
def k1m5 : Method := { name := "same", desc := "(II)Z", sig := { parameters := [.int, .int], returnType := some .boolean }, accessFlags := 10, code := some k1c5 }
def k1c6 : Code := { maxStack := 7, maxLocals := 13, code := code, exceptionTable := #[], attributes := #[] }
def k1m6 : Method := { name := "law", desc := "(IIIII)Z", sig := { parameters := [.int, .int, .int, .int, .int], returnType := some .boolean }, accessFlags := 9, code := some k1c6 }
/-- com/example/zonewright/zonewright/storage/ServiceInstanceEqualsPinLaw -/
def k1 : Class := { plain "com/example/zonewright/zonewright/storage/ServiceInstanceEqualsPinLaw" (some 0) with
  accessFlags := 49
  interfaces := #[]
  cf := some (fileOf pool1 8 #[] #[{ accessFlags := 1, nameIndex := 5, descriptorIndex := 6, attributes := #[] }, { accessFlags := 10, nameIndex := 11, descriptorIndex := 12, attributes := #[] }, { accessFlags := 10, nameIndex := 21, descriptorIndex := 12, attributes := #[] }, { accessFlags := 10, nameIndex := 29, descriptorIndex := 30, attributes := #[] }, { accessFlags := 10, nameIndex := 36, descriptorIndex := 37, attributes := #[] }, { accessFlags := 10, nameIndex := 40, descriptorIndex := 41, attributes := #[] }, { accessFlags := 9, nameIndex := 49, descriptorIndex := 50, attributes := #[] }] 49 2 #[] #[])
  fields := #[]
  methods := #[k1m0, k1m1, k1m2, k1m3, k1m4, k1m5, k1m6]
  instanceTypes := #[]
  staticTypes := #[]
  resolved := Array.replicate 53 none
  statics := none }

def pool2 : Array CpInfo := pool [(1, .methodref 2 3), (0, .class_ 4), (0, .nameAndType 5 6), (0, u "java/lang/Object"), (0, u "<init>"), (0, u "()V"), (0, .fieldref 8 9), (0, .class_ 10), (0, .nameAndType 11 12), (0, u "com/example/zonewright/zonewright/storage/ServiceInstance"), (0, u "id"), (0, u "Ljava/lang/String;"), (0, .fieldref 8 14), (0, .nameAndType 15 12), (0, u "planId"), (0, .fieldref 8 17), (0, .nameAndType 18 12), (0, u "organizationGuid"), (0, .fieldref 8 20), (0, .nameAndType 21 12), (0, u "spaceGuid"), (0, .methodref 23 24), (0, .class_ 25), (0, .nameAndType 26 27), (0, u "java/lang/String"), (0, u "equals"), (0, u "(Ljava/lang/Object;)Z"), (6, u "(Ljava/lang/String;Ljava/lang/String;Ljava/lang/String;Ljava/lang/String;)V")] 12

def k2c0 : Code := { maxStack := 2, maxLocals := 5, code := prog_29_method_1_code, exceptionTable := #[], attributes := #[] }
def k2m0 : Method := { name := "<init>", desc := "(Ljava/lang/String;Ljava/lang/String;Ljava/lang/String;Ljava/lang/String;)V", sig := { parameters := [(.object "java/lang/String"), (.object "java/lang/String"), (.object "java/lang/String"), (.object "java/lang/String")], returnType := none }, accessFlags := 1, code := some k2c0 }
def k2c1 : Code := { maxStack := 2, maxLocals := 3, code := prog_29_method_6_code, exceptionTable := #[], attributes := #[] }
def k2m1 : Method := { name := "equals", desc := "(Ljava/lang/Object;)Z", sig := { parameters := [(.object "java/lang/Object")], returnType := some .boolean }, accessFlags := 1, code := some k2c1 }
/-- com/example/zonewright/zonewright/storage/ServiceInstance -/
def k2 : Class := { plain "com/example/zonewright/zonewright/storage/ServiceInstance" (some 0) with
  accessFlags := 49
  interfaces := #[]
  cf := some (fileOf pool2 8 #[] #[{ accessFlags := 1, nameIndex := 5, descriptorIndex := 34, attributes := #[] }, { accessFlags := 1, nameIndex := 26, descriptorIndex := 27, attributes := #[] }] 49 2 #[] #[{ accessFlags := 18, nameIndex := 11, descriptorIndex := 12, attributes := #[] }, { accessFlags := 18, nameIndex := 15, descriptorIndex := 12, attributes := #[] }, { accessFlags := 18, nameIndex := 18, descriptorIndex := 12, attributes := #[] }, { accessFlags := 18, nameIndex := 21, descriptorIndex := 12, attributes := #[] }])
  fields := #[{ name := "id", type := (.object "java/lang/String"), accessFlags := 18, slot := 0, constantValue := 0 }, { name := "planId", type := (.object "java/lang/String"), accessFlags := 18, slot := 1, constantValue := 0 }, { name := "organizationGuid", type := (.object "java/lang/String"), accessFlags := 18, slot := 2, constantValue := 0 }, { name := "spaceGuid", type := (.object "java/lang/String"), accessFlags := 18, slot := 3, constantValue := 0 }]
  methods := #[k2m0, k2m1]
  instanceTypes := #[(.object "java/lang/String"), (.object "java/lang/String"), (.object "java/lang/String"), (.object "java/lang/String")]
  staticTypes := #[]
  resolved := Array.replicate 47 none
  statics := none }

def pool3 : Array CpInfo := pool [(1, .class_ 2), (0, u "java/io/Serializable"), (0, .class_ 4), (0, u "java/lang/Object")] 2

/-- java/io/Serializable -/
def k3 : Class := { plain "java/io/Serializable" (some 0) with
  accessFlags := 1537
  interfaces := #[]
  cf := some (fileOf pool3 1 #[] #[] 1537 3 #[] #[])
  fields := #[]
  methods := #[]
  instanceTypes := #[]
  staticTypes := #[]
  resolved := Array.replicate 7 none
  statics := none }

def pool4 : Array CpInfo := pool [(1, .class_ 2), (0, u "java/lang/Comparable"), (0, .class_ 4), (0, u "java/lang/Object")] 7

/-- java/lang/Comparable -/
def k4 : Class := { plain "java/lang/Comparable" (some 0) with
  accessFlags := 1537
  interfaces := #[]
  cf := some (fileOf pool4 1 #[] #[] 1537 3 #[] #[])
  fields := #[]
  methods := #[]
  instanceTypes := #[]
  staticTypes := #[]
  resolved := Array.replicate 12 none
  statics := none }

def pool5 : Array CpInfo := pool [(2, .class_ 4), (1, u "java/lang/CharSequence"), (42, .class_ 48), (0, u "java/lang/CharSequence$1CodePointIterator"), (10, .class_ 60), (0, u "java/lang/CharSequence$1CharIterator"), (5, .class_ 67), (0, u "java/lang/Object")] 63

/-- java/lang/CharSequence -/
def k5 : Class := { plain "java/lang/CharSequence" (some 0) with
  accessFlags := 1537
  interfaces := #[]
  cf := some (fileOf pool5 2 #[.nestMembers #[47, 59]] #[] 1537 66 #[] #[])
  fields := #[]
  methods := #[]
  instanceTypes := #[]
  staticTypes := #[]
  resolved := Array.replicate 131 none
  statics := none }

def pool6 : Array CpInfo := pool [(1, .class_ 2), (0, u "java/lang/constant/Constable"), (0, .class_ 4), (0, u "java/lang/Object")] 6

/-- java/lang/constant/Constable -/
def k6 : Class := { plain "java/lang/constant/Constable" (some 0) with
  accessFlags := 1537
  interfaces := #[]
  cf := some (fileOf pool6 1 #[] #[] 1537 3 #[] #[])
  fields := #[]
  methods := #[]
  instanceTypes := #[]
  staticTypes := #[]
  resolved := Array.replicate 11 none
  statics := none }

def pool7 : Array CpInfo := pool [(1, .class_ 2), (0, u "java/lang/constant/ConstantDesc"), (0, .class_ 4), (0, u "java/lang/Object")] 32

/-- java/lang/constant/ConstantDesc -/
def k7 : Class := { plain "java/lang/constant/ConstantDesc" (some 0) with
  accessFlags := 1537
  interfaces := #[]
  cf := some (fileOf pool7 1 #[] #[] 1537 3 #[] #[])
  fields := #[]
  methods := #[]
  instanceTypes := #[]
  staticTypes := #[]
  resolved := Array.replicate 37 none
  statics := none }

def pool8 : Array CpInfo := pool [(1, .methodref 2 3), (0, .class_ 4), (0, .nameAndType 5 6), (0, u "java/lang/Object"), (0, u "<init>"), (0, u "()V"), (0, .string 8), (0, u ""), (0, .fieldref 10 11), (0, .class_ 12), (0, .nameAndType 13 14), (0, u "java/lang/String"), (0, u "value"), (0, u "[B"), (0, .fieldref 10 16), (0, .nameAndType 17 18), (0, u "coder"), (0, u "B"), (2, u "hash"), (0, u "I"), (2, u "hashIsZero"), (0, u "Z"), (0, .methodref 10 28), (0, .nameAndType 5 29), (0, u "([CIILjava/lang/Void;)V"), (8, .fieldref 10 39), (0, .nameAndType 40 26), (0, u "COMPACT_STRINGS"), (1, .class_ 44), (1, u "java/lang/StringUTF16"), (0, u "compress"), (1, .methodref 42 48), (0, .nameAndType 49 50), (0, u "coderFromArrayLen"), (0, u "([BI)B"), (2, u "toBytes"), (53, .class_ 109), (1, u "java/lang/StringLatin1"), (67, .methodref 42 178), (0, .nameAndType 45 179), (0, u "([CII)[B"), (29, .methodref 10 210), (0, .nameAndType 5 211), (0, u "([BB)V"), (157, u "(C)Z"), (171, .methodref 107 542), (0, .nameAndType 543 544), (0, u "equals"), (0, u "([B[B)Z"), (28, u "(Ljava/lang/Object;)Z"), (1, .class_ 576), (0, u "java/lang/CharSequence"), (22, u "CASE_INSENSITIVE_ORDER"), (0, u "Ljava/util/Comparator;"), (181, u "valueOf"), (0, u "(C)Ljava/lang/String;"), (226, u "([C)V"), (4, .methodref 107 1016), (0, .nameAndType 1017 369), (0, u "canEncode"), (0, .methodref 107 1019), (0, .nameAndType 53 1020), (0, u "(C)[B"), (80, u "serialPersistentFields"), (0, u "[Ljava/io/ObjectStreamField;"), (0, .class_ 1104), (0, u "java/lang/String$CaseInsensitiveComparator"), (1, .class_ 1107), (0, u "java/io/Serializable"), (0, .class_ 1109), (0, u "java/lang/Comparable"), (0, .class_ 1111), (0, u "java/lang/constant/Constable"), (0, .class_ 1113), (0, u "java/lang/constant/ConstantDesc"), (2, u "serialVersionUID"), (0, u "J"), (3, u "REPL"), (0, u "C"), (2, u "LATIN1"), (1, u "UTF16")] 323

def k8m0 : Method := { name := "<init>", desc := "()V", sig := { parameters := [], returnType := none }, accessFlags := 1, code := none }
def k8c1 : Code := { maxStack := 5, maxLocals := 2, code := jdk_42_method_3_code, exceptionTable := #[], attributes := #[] }
def k8m1 : Method := { name := "<init>", desc := "([C)V", sig := { parameters := [(.array .char)], returnType := none }, accessFlags := 1, code := some k8c1 }
def k8c2 : Code := { maxStack := 2, maxLocals := 3, code := jdk_42_method_66_code, exceptionTable := #[], attributes := #[] }
def k8m2 : Method := { name := "equals", desc := "(Ljava/lang/Object;)Z", sig := { parameters := [(.object "java/lang/Object")], returnType := some .boolean }, accessFlags := 1, code := some k8c2 }
def k8c3 : Code := { maxStack := 4, maxLocals := 1, code := jdk_42_method_139_code, exceptionTable := #[], attributes := #[] }
def k8m3 : Method := { name := "valueOf", desc := "(C)Ljava/lang/String;", sig := { parameters := [.char], returnType := some (.object "java/lang/String") }, accessFlags := 9, code := some k8c3 }
def k8c4 : Code := { maxStack := 4, maxLocals := 6, code := jdk_42_method_149_code, exceptionTable := #[], attributes := #[] }
def k8m4 : Method := { name := "<init>", desc := "([CIILjava/lang/Void;)V", sig := { parameters := [(.array .char), .int, .int, (.object "java/lang/Void")], returnType := none }, accessFlags := 2, code := some k8c4 }
def k8c5 : Code := { maxStack := 2, maxLocals := 3, code := jdk_42_method_151_code, exceptionTable := #[], attributes := #[] }
def k8m5 : Method := { name := "<init>", desc := "([BB)V", sig := { parameters := [(.array .byte), .byte], returnType := none }, accessFlags := 0, code := some k8c5 }
/-- java/lang/String -/
def k8 : Class := { plain "java/lang/String" (some 0) with
  accessFlags := 49
  interfaces := #[3, 4, 5, 6, 7]
  cf := some (fileOf pool8 10 #[.nestMembers #[1103]] #[{ accessFlags := 1, nameIndex := 5, descriptorIndex := 6, attributes := #[] }, { accessFlags := 1, nameIndex := 5, descriptorIndex := 1010, attributes := #[] }, { accessFlags := 1, nameIndex := 543, descriptorIndex := 573, attributes := #[] }, { accessFlags := 9, nameIndex := 782, descriptorIndex := 783, attributes := #[] }, { accessFlags := 2, nameIndex := 5, descriptorIndex := 29, attributes := #[] }, { accessFlags := 0, nameIndex := 5, descriptorIndex := 211, attributes := #[] }] 49 2 #[1106, 1108, 575, 1110, 1112] #[{ accessFlags := 18, nameIndex := 13, descriptorIndex := 14, attributes := #[] }, { accessFlags := 18, nameIndex := 17, descriptorIndex := 18, attributes := #[] }, { accessFlags := 2, nameIndex := 21, descriptorIndex := 22, attributes := #[] }, { accessFlags := 2, nameIndex := 25, descriptorIndex := 26, attributes := #[] }, { accessFlags := 26, nameIndex := 1116, descriptorIndex := 1117, attributes := #[] }, { accessFlags := 24, nameIndex := 40, descriptorIndex := 26, attributes := #[] }, { accessFlags := 26, nameIndex := 1101, descriptorIndex := 1102, attributes := #[] }, { accessFlags := 26, nameIndex := 1121, descriptorIndex := 1122, attributes := #[] }, { accessFlags := 25, nameIndex := 599, descriptorIndex := 600, attributes := #[] }, { accessFlags := 24, nameIndex := 1125, descriptorIndex := 18, attributes := #[] }, { accessFlags := 24, nameIndex := 1127, descriptorIndex := 18, attributes := #[] }])
  fields := #[{ name := "value", type := (.array .byte), accessFlags := 18, slot := 0, constantValue := 0 }, { name := "coder", type := .byte, accessFlags := 18, slot := 1, constantValue := 0 }, { name := "hash", type := .int, accessFlags := 2, slot := 2, constantValue := 0 }, { name := "hashIsZero", type := .boolean, accessFlags := 2, slot := 3, constantValue := 0 }, { name := "serialVersionUID", type := .long, accessFlags := 26, slot := 0, constantValue := 0 }, { name := "COMPACT_STRINGS", type := .boolean, accessFlags := 24, slot := 1, constantValue := 0 }, { name := "serialPersistentFields", type := (.array (.object "java/io/ObjectStreamField")), accessFlags := 26, slot := 2, constantValue := 0 }, { name := "REPL", type := .char, accessFlags := 26, slot := 3, constantValue := 0 }, { name := "CASE_INSENSITIVE_ORDER", type := (.object "java/util/Comparator"), accessFlags := 25, slot := 4, constantValue := 0 }, { name := "LATIN1", type := .byte, accessFlags := 24, slot := 5, constantValue := 0 }, { name := "UTF16", type := .byte, accessFlags := 24, slot := 6, constantValue := 0 }]
  methods := #[k8m0, k8m1, k8m2, k8m3, k8m4, k8m5]
  instanceTypes := #[(.array .byte), .byte, .int, .boolean]
  staticTypes := #[.long, .boolean, (.array (.object "java/io/ObjectStreamField")), .char, (.object "java/util/Comparator"), .byte, .byte]
  resolved := Array.replicate 1451 none
  statics := some 0 }

def pool9 : Array CpInfo := pool [(4, .class_ 6), (1, u "java/lang/Object"), (0, u "<init>"), (0, u "()V"), (5, .class_ 16), (1, u "java/lang/StringLatin1"), (73, u "canEncode"), (14, u "(C)Z"), (15, u "$assertionsDisabled"), (0, u "Z"), (98, .class_ 223), (1, u "java/lang/StringLatin1$LinesSpliterator"), (57, u "equals"), (0, u "([B[B)Z"), (97, u "toBytes"), (1, u "(C)[B"), (7, .class_ 391), (0, u "java/lang/StringLatin1$CharsSpliterator")] 3

def k9m0 : Method := { name := "<init>", desc := "()V", sig := { parameters := [], returnType := none }, accessFlags := 0, code := none }
def k9c1 : Code := { maxStack := 2, maxLocals := 1, code := jdk_43_method_3_code, exceptionTable := #[], attributes := #[] }
def k9m1 : Method := { name := "canEncode", desc := "(C)Z", sig := { parameters := [.char], returnType := some .boolean }, accessFlags := 9, code := some k9c1 }
def k9c2 : Code := { maxStack := 3, maxLocals := 3, code := jdk_43_method_13_code, exceptionTable := #[], attributes := #[] }
def k9m2 : Method := { name := "equals", desc := "([B[B)Z", sig := { parameters := [(.array .byte), (.array .byte)], returnType := some .boolean }, accessFlags := 9, code := some k9c2 }
def k9c3 : Code := { maxStack := 4, maxLocals := 1, code := jdk_43_method_46_code, exceptionTable := #[], attributes := #[] }
def k9m3 : Method := { name := "toBytes", desc := "(C)[B", sig := { parameters := [.char], returnType := some (.array .byte) }, accessFlags := 9, code := some k9c3 }
/-- java/lang/StringLatin1 -/
def k9 : Class := { plain "java/lang/StringLatin1" (some 0) with
  accessFlags := 48
  interfaces := #[]
  cf := some (fileOf pool9 14 #[.nestMembers #[390, 221]] #[{ accessFlags := 0, nameIndex := 7, descriptorIndex := 8, attributes := #[] }, { accessFlags := 9, nameIndex := 90, descriptorIndex := 105, attributes := #[] }, { accessFlags := 9, nameIndex := 281, descriptorIndex := 282, attributes := #[] }, { accessFlags := 9, nameIndex := 380, descriptorIndex := 382, attributes := #[] }] 48 4 #[] #[{ accessFlags := 4120, nameIndex := 121, descriptorIndex := 122, attributes := #[] }])
  fields := #[{ name := "$assertionsDisabled", type := .boolean, accessFlags := 4120, slot := 0, constantValue := 0 }]
  methods := #[k9m0, k9m1, k9m2, k9m3]
  instanceTypes := #[]
  staticTypes := #[.boolean]
  resolved := Array.replicate 395 none
  statics := none }

def pool10 : Array CpInfo := pool [(6, .class_ 8), (1, u "java/lang/Object"), (0, u "<init>"), (0, u "()V"), (1, .class_ 14), (1, u "java/lang/StringUTF16"), (31, u "$assertionsDisabled"), (0, u "Z"), (13, u "HI_BYTE_SHIFT"), (0, u "I"), (2, u "LO_BYTE_SHIFT"), (49, .methodref 12 116), (0, .nameAndType 117 118), (0, u "compress"), (0, u "([CI[BII)I"), (3, u "([CII)[B"), (138, u "coderFromArrayLen"), (0, u "([BI)B"), (106, .class_ 371), (1, u "java/lang/StringUTF16$LinesSpliterator"), (58, u "MAX_LENGTH"), (196, .class_ 628), (0, u "java/lang/StringUTF16$CodePointsSpliterator"), (0, .class_ 630), (0, u "java/lang/StringUTF16$CharsSpliterator")] 4

def k10m0 : Method := { name := "<init>", desc := "()V", sig := { parameters := [], returnType := none }, accessFlags := 0, code := none }
def k10c1 : Code := { maxStack := 2, maxLocals := 2, code := jdk_52_method_15_code, exceptionTable := #[], attributes := #[] }
def k10m1 : Method := { name := "coderFromArrayLen", desc := "([BI)B", sig := { parameters := [(.array .byte), .int], returnType := some .byte }, accessFlags := 8, code := some k10c1 }
def k10c2 : Code := { maxStack := 5, maxLocals := 6, code := jdk_52_method_16_code, exceptionTable := #[], attributes := #[] }
def k10m2 : Method := { name := "compress", desc := "([CII)[B", sig := { parameters := [(.array .char), .int, .int], returnType := some (.array .byte) }, accessFlags := 9, code := some k10c2 }
def k10c3 : Code := { maxStack := 3, maxLocals := 7, code := jdk_52_method_21_code, exceptionTable := #[], attributes := #[] }
def k10m3 : Method := { name := "compress", desc := "([CI[BII)I", sig := { parameters := [(.array .char), .int, (.array .byte), .int, .int], returnType := some .int }, accessFlags := 9, code := some k10c3 }
/-- java/lang/StringUTF16 -/
def k10 : Class := { plain "java/lang/StringUTF16" (some 0) with
  accessFlags := 48
  interfaces := #[]
  cf := some (fileOf pool10 12 #[.nestMembers #[627, 629, 369]] #[{ accessFlags := 0, nameIndex := 9, descriptorIndex := 10, attributes := #[] }, { accessFlags := 8, nameIndex := 261, descriptorIndex := 262, attributes := #[] }, { accessFlags := 9, nameIndex := 117, descriptorIndex := 122, attributes := #[] }, { accessFlags := 9, nameIndex := 117, descriptorIndex := 118, attributes := #[] }] 48 6 #[] #[{ accessFlags := 26, nameIndex := 61, descriptorIndex := 62, attributes := #[] }, { accessFlags := 26, nameIndex := 65, descriptorIndex := 62, attributes := #[] }, { accessFlags := 24, nameIndex := 430, descriptorIndex := 62, attributes := #[] }, { accessFlags := 4120, nameIndex := 46, descriptorIndex := 47, attributes := #[] }])
  fields := #[{ name := "HI_BYTE_SHIFT", type := .int, accessFlags := 26, slot := 0, constantValue := 0 }, { name := "LO_BYTE_SHIFT", type := .int, accessFlags := 26, slot := 1, constantValue := 0 }, { name := "MAX_LENGTH", type := .int, accessFlags := 24, slot := 2, constantValue := 0 }, { name := "$assertionsDisabled", type := .boolean, accessFlags := 4120, slot := 3, constantValue := 0 }]
  methods := #[k10m0, k10m1, k10m2, k10m3]
  instanceTypes := #[]
  staticTypes := #[.int, .int, .int, .boolean]
  resolved := Array.replicate 635 none
  statics := none }

def pool11 : Array CpInfo := pool [(2, .class_ 4), (1, u "java/lang/Object"), (0, u "<init>"), (0, u "()V"), (17, .class_ 26), (1, u "jdk/internal/util/Preconditions"), (28, .class_ 56), (0, u "jdk/internal/util/Preconditions$4"), (57, .class_ 115), (0, u "jdk/internal/util/Preconditions$1"), (7, u "SIOOBE_FORMATTER"), (0, u "Ljava/util/function/BiFunction;"), (0, .class_ 126), (0, u "jdk/internal/util/Preconditions$2"), (3, u "AIOOBE_FORMATTER"), (0, .class_ 132), (0, u "jdk/internal/util/Preconditions$3"), (3, u "IOOBE_FORMATTER")] 57

def k11m0 : Method := { name := "<init>", desc := "()V", sig := { parameters := [], returnType := none }, accessFlags := 1, code := none }
/-- jdk/internal/util/Preconditions -/
def k11 : Class := { plain "jdk/internal/util/Preconditions" (some 0) with
  accessFlags := 33
  interfaces := #[]
  cf := some (fileOf pool11 24 #[.nestMembers #[55, 131, 125, 114]] #[{ accessFlags := 1, nameIndex := 5, descriptorIndex := 6, attributes := #[] }] 33 2 #[] #[{ accessFlags := 25, nameIndex := 123, descriptorIndex := 124, attributes := #[] }, { accessFlags := 25, nameIndex := 130, descriptorIndex := 124, attributes := #[] }, { accessFlags := 25, nameIndex := 136, descriptorIndex := 124, attributes := #[] }])
  fields := #[{ name := "SIOOBE_FORMATTER", type := (.object "java/util/function/BiFunction"), accessFlags := 25, slot := 0, constantValue := 0 }, { name := "AIOOBE_FORMATTER", type := (.object "java/util/function/BiFunction"), accessFlags := 25, slot := 1, constantValue := 0 }, { name := "IOOBE_FORMATTER", type := (.object "java/util/function/BiFunction"), accessFlags := 25, slot := 2, constantValue := 0 }]
  methods := #[k11m0]
  instanceTypes := #[]
  staticTypes := #[(.object "java/util/function/BiFunction"), (.object "java/util/function/BiFunction"), (.object "java/util/function/BiFunction")]
  resolved := Array.replicate 194 none
  statics := some 1 }

def pool12 : Array CpInfo := pool [(9, u "<init>"), (6, .class_ 18), (1, u "java/lang/Object"), (0, u "()V"), (1, .class_ 23), (1, u "jdk/internal/util/ArraysSupport"), (0, u "LOG2_ARRAY_LONG_INDEX_SCALE"), (0, u "I"), (2, u "U"), (0, u "Ljdk/internal/misc/Unsafe;"), (8, u "BIG_ENDIAN"), (0, u "Z"), (8, u "LOG2_BYTE_BIT_SIZE"), (4, u "LOG2_ARRAY_INT_INDEX_SCALE"), (54, u "JLA"), (0, u "Ljdk/internal/access/JavaLangAccess;"), (11, u "LOG2_ARRAY_BOOLEAN_INDEX_SCALE"), (9, u "LOG2_ARRAY_BYTE_INDEX_SCALE"), (5, u "LOG2_ARRAY_CHAR_INDEX_SCALE"), (5, u "LOG2_ARRAY_SHORT_INDEX_SCALE"), (18, u "LOG2_ARRAY_FLOAT_INDEX_SCALE"), (24, u "LOG2_ARRAY_DOUBLE_INDEX_SCALE"), (89, u "T_BOOLEAN"), (2, u "T_CHAR"), (1, u "T_FLOAT"), (1, u "T_DOUBLE"), (1, u "T_BYTE"), (1, u "T_SHORT"), (1, u "T_INT"), (1, u "T_LONG"), (1, u "SOFT_MAX_ARRAY_LENGTH")] 83

def k12m0 : Method := { name := "<init>", desc := "()V", sig := { parameters := [], returnType := none }, accessFlags := 2, code := none }
/-- jdk/internal/util/ArraysSupport -/
def k12 : Class := { plain "jdk/internal/util/ArraysSupport" (some 0) with
  accessFlags := 33
  interfaces := #[]
  cf := some (fileOf pool12 21 #[] #[{ accessFlags := 2, nameIndex := 9, descriptorIndex := 19, attributes := #[] }] 33 16 #[] #[{ accessFlags := 24, nameIndex := 28, descriptorIndex := 29, attributes := #[] }, { accessFlags := 26, nameIndex := 38, descriptorIndex := 39, attributes := #[] }, { accessFlags := 25, nameIndex := 121, descriptorIndex := 25, attributes := #[] }, { accessFlags := 25, nameIndex := 131, descriptorIndex := 25, attributes := #[] }, { accessFlags := 25, nameIndex := 137, descriptorIndex := 25, attributes := #[] }, { accessFlags := 25, nameIndex := 143, descriptorIndex := 25, attributes := #[] }, { accessFlags := 25, nameIndex := 53, descriptorIndex := 25, attributes := #[] }, { accessFlags := 25, nameIndex := 24, descriptorIndex := 25, attributes := #[] }, { accessFlags := 25, nameIndex := 162, descriptorIndex := 25, attributes := #[] }, { accessFlags := 25, nameIndex := 187, descriptorIndex := 25, attributes := #[] }, { accessFlags := 26, nameIndex := 48, descriptorIndex := 25, attributes := #[] }, { accessFlags := 25, nameIndex := 277, descriptorIndex := 25, attributes := #[] }, { accessFlags := 25, nameIndex := 280, descriptorIndex := 25, attributes := #[] }, { accessFlags := 25, nameIndex := 282, descriptorIndex := 25, attributes := #[] }, { accessFlags := 25, nameIndex := 284, descriptorIndex := 25, attributes := #[] }, { accessFlags := 25, nameIndex := 286, descriptorIndex := 25, attributes := #[] }, { accessFlags := 25, nameIndex := 288, descriptorIndex := 25, attributes := #[] }, { accessFlags := 25, nameIndex := 290, descriptorIndex := 25, attributes := #[] }, { accessFlags := 25, nameIndex := 292, descriptorIndex := 25, attributes := #[] }, { accessFlags := 26, nameIndex := 108, descriptorIndex := 109, attributes := #[] }, { accessFlags := 25, nameIndex := 294, descriptorIndex := 25, attributes := #[] }])
  fields := #[{ name := "U", type := (.object "jdk/internal/misc/Unsafe"), accessFlags := 24, slot := 0, constantValue := 0 }, { name := "BIG_ENDIAN", type := .boolean, accessFlags := 26, slot := 1, constantValue := 0 }, { name := "LOG2_ARRAY_BOOLEAN_INDEX_SCALE", type := .int, accessFlags := 25, slot := 2, constantValue := 0 }, { name := "LOG2_ARRAY_BYTE_INDEX_SCALE", type := .int, accessFlags := 25, slot := 3, constantValue := 0 }, { name := "LOG2_ARRAY_CHAR_INDEX_SCALE", type := .int, accessFlags := 25, slot := 4, constantValue := 0 }, { name := "LOG2_ARRAY_SHORT_INDEX_SCALE", type := .int, accessFlags := 25, slot := 5, constantValue := 0 }, { name := "LOG2_ARRAY_INT_INDEX_SCALE", type := .int, accessFlags := 25, slot := 6, constantValue := 0 }, { name := "LOG2_ARRAY_LONG_INDEX_SCALE", type := .int, accessFlags := 25, slot := 7, constantValue := 0 }, { name := "LOG2_ARRAY_FLOAT_INDEX_SCALE", type := .int, accessFlags := 25, slot := 8, constantValue := 0 }, { name := "LOG2_ARRAY_DOUBLE_INDEX_SCALE", type := .int, accessFlags := 25, slot := 9, constantValue := 0 }, { name := "LOG2_BYTE_BIT_SIZE", type := .int, accessFlags := 26, slot := 10, constantValue := 0 }, { name := "T_BOOLEAN", type := .int, accessFlags := 25, slot := 11, constantValue := 0 }, { name := "T_CHAR", type := .int, accessFlags := 25, slot := 12, constantValue := 0 }, { name := "T_FLOAT", type := .int, accessFlags := 25, slot := 13, constantValue := 0 }, { name := "T_DOUBLE", type := .int, accessFlags := 25, slot := 14, constantValue := 0 }, { name := "T_BYTE", type := .int, accessFlags := 25, slot := 15, constantValue := 0 }, { name := "T_SHORT", type := .int, accessFlags := 25, slot := 16, constantValue := 0 }, { name := "T_INT", type := .int, accessFlags := 25, slot := 17, constantValue := 0 }, { name := "T_LONG", type := .int, accessFlags := 25, slot := 18, constantValue := 0 }, { name := "JLA", type := (.object "jdk/internal/access/JavaLangAccess"), accessFlags := 26, slot := 19, constantValue := 0 }, { name := "SOFT_MAX_ARRAY_LENGTH", type := .int, accessFlags := 25, slot := 20, constantValue := 0 }]
  methods := #[k12m0]
  instanceTypes := #[]
  staticTypes := #[(.object "jdk/internal/misc/Unsafe"), .boolean, .int, .int, .int, .int, .int, .int, .int, .int, .int, .int, .int, .int, .int, .int, .int, .int, .int, (.object "jdk/internal/access/JavaLangAccess"), .int]
  resolved := Array.replicate 378 none
  statics := none }

def pool13 : Array CpInfo := pool [(1, u "java/lang/Cloneable"), (0, .class_ 1), (0, u "java/lang/Object"), (0, .class_ 3)] 3

/-- java/lang/Cloneable -/
def k13 : Class := { plain "java/lang/Cloneable" (some 0) with
  accessFlags := 1537
  interfaces := #[]
  cf := some (fileOf pool13 2 #[] #[] 1537 4 #[] #[])
  fields := #[]
  methods := #[]
  instanceTypes := #[]
  staticTypes := #[]
  resolved := Array.replicate 8 none
  statics := none }

/-- the primitive byte -/
def k14 : Class := { plain "byte" none with kind := .primitive 'B', accessFlags := 0x411 }
/-- [B -/
def k15 : Class := { plain "[B" (some 0) with kind := .array 14 .byte, interfaces := #[13, 3], accessFlags := 1041 }

/-- the primitive char -/
def k16 : Class := { plain "char" none with kind := .primitive 'C', accessFlags := 0x411 }
/-- [C -/
def k17 : Class := { plain "[C" (some 0) with kind := .array 16 .char, interfaces := #[13, 3], accessFlags := 1041 }

/-- the primitive int -/
def k18 : Class := { plain "int" none with kind := .primitive 'I', accessFlags := 0x411 }
/-- [I -/
def k19 : Class := { plain "[I" (some 0) with kind := .array 18 .int, interfaces := #[13, 3], accessFlags := 1041 }

def heap : Heap := #[{ cls := 8, slots := #[.long 0, .int 1, .null, .int 0, .null, .int 0, .int 0], vm := .statics 8 },
  { cls := 11, slots := #[.null, .null, .null], vm := .statics 11 }]
def classes : Array Class := #[k0, k1, k2, k3, k4, k5, k6, k7, k8, k9, k10, k11, k12, k13, k14, k15, k16, k17, k18, k19]
def interned : List (Array UInt16 × Addr) := []
def slotsUsed : Nat := 10
def theMethod : MethodId := ⟨1, 6⟩
def args0 : Array Value := #[.int 5, .int 5, .int 5, .int 5, .int 5]
def aboutOver (below : List Frame) : State where
  vm := { classes := classes, interned := interned.toArray }
  heap := heap
  slotsUsed := slotsUsed
  threads := #[{ frames := .invoking theMethod args0 :: below }]
def below0 : List Frame := [.native { method := ⟨0, 0⟩, args := #[] }]
def about1 : State := aboutOver below0
def p0 : Program := .bare "" "" ""
def e0 : Env := launch0.env 0 0 0
theorem w_frames : about1.frames = Frame.invoking theMethod args0 :: below0 := rfl
set_option maxRecDepth 65536 in
theorem w_args : argsFit about1.vm theMethod args0 = true := by decide +kernel
set_option maxRecDepth 65536 in
theorem w_heap : heapFits about1 = true := by decide +kernel
set_option maxRecDepth 65536 in
theorem w_runnable : about1.curStatus? = some .runnable := by decide +kernel
set_option maxRecDepth 65536 in
theorem w_alone : about1.alone = true := by decide +kernel
set_option maxRecDepth 65536 in
theorem w_named : about1.methodNamed? x = some theMethod := by decide +kernel
set_option maxRecDepth 65536 in
theorem w_hears : about1.hears theMethod below0 = true := by decide +kernel
set_option maxRecDepth 65536 in
theorem w_ripe : about1.ripe theMethod args0 below0 = true := by decide +kernel
theorem w_running : about1.status = .running := rfl
set_option maxRecDepth 65536 in
theorem w_room : about1.hasRoom e0.platform room_1 = true :=
  launch0.hasRoom_least _ room_1 (by decide +kernel) (by decide +kernel) (by decide +kernel) (by decide +kernel) (by decide +kernel) (by decide +kernel)
theorem allAtoms_all (ts : List Jvm.Cond) (a : Array Jvm.Value) (st : Jvm.State) : (allAtoms ts).before a st = ts.all (fun c => c.before a st) := by
  induction ts with
  | nil => rfl
  | cons c t ih =>
    show (Jvm.Cond.and c (allAtoms t)).before a st = _
    rw [Jvm.Cond.before_and, ih, List.all_cons]
def words1 : List Jvm.Cond := Jvm.Cond.code x code maxLocals ret :: tables_1
/-- a 'code' word, met by the world's own term for the bytes: nothing is compared byte by byte -/
theorem code_word {y : MethodName} {bytes : ByteArray} {mx : Nat} {rt : Option FieldType} {a : Array Value} {s : State} {m : MethodId} {meth : Method} {c : Code} (h1 : s.methodNamed? y = some m) (h2 : s.vm.method? m = some meth) (h3 : meth.code = some c) (h4 : c.code = bytes)
    (h5 : (c.maxLocals == mx && c.exceptionTable.isEmpty && decide (c.maxStack ≤ mostOperands) && decide (meth.sig.returnType = rt) && !meth.locks && decide (parseMethodDescriptor y.desc = some meth.sig)) = true) : (Jvm.Cond.code y bytes mx rt).before a s = true := by
  simp only [Bool.and_eq_true, beq_iff_eq, Bool.not_eq_true', decide_eq_true_eq] at h5
  obtain ⟨⟨⟨⟨⟨g1, g2⟩, g3⟩, g4⟩, g5⟩, g6⟩ := h5
  simp [Cond.before, Cond.holds, Cond.value, h1, h2, h3, h4, g1, g2, g3, g4, g5, g6]
def isCode : Jvm.Cond → Bool
  | .code _ _ _ _ => true
  | _ => false
theorem all_split {L : List Jvm.Cond} {P : Jvm.Cond → Bool} (h1 : L.all (fun c => isCode c || P c) = true) (h2 : ∀ c ∈ L.filter isCode, P c = true) : L.all P = true := by
  refine List.all_eq_true.mpr fun c hc => ?_
  have h := List.all_eq_true.mp h1 c hc
  rcases Bool.eq_false_or_eq_true (isCode c) with hi | hi
  · exact h2 c (List.mem_filter.mpr ⟨hc, hi⟩)
  · simpa [hi] using h
set_option maxRecDepth 65536 in
theorem w_c0 : (Jvm.Cond.code x code maxLocals ret).before args0 about1 = true := code_word (m := ⟨1, 6⟩) (meth := k1m6) (c := k1c6) (by decide +kernel) rfl rfl rfl (by decide +kernel)
set_option maxRecDepth 65536 in
theorem w_c1 : (Jvm.Cond.code ({ cls := "com/example/zonewright/zonewright/storage/ServiceInstanceEqualsPinLaw", name := "base", desc := "(I)Ljava/lang/String;" } : Jvm.MethodName) method_4_code (1 : Nat) (Option.some (Jvm.ClassFile.FieldType.object "java/lang/String"))).before args0 about1 = true := code_word (m := ⟨1, 3⟩) (meth := k1m3) (c := k1c3) (by decide +kernel) rfl rfl rfl (by decide +kernel)
set_option maxRecDepth 65536 in
theorem w_c2 : (Jvm.Cond.code ({ cls := "com/example/zonewright/zonewright/storage/ServiceInstanceEqualsPinLaw", name := "c1", desc := "(I)C" } : Jvm.MethodName) method_2_code (1 : Nat) (Option.some Jvm.ClassFile.FieldType.char)).before args0 about1 = true := code_word (m := ⟨1, 1⟩) (meth := k1m1) (c := k1c1) (by decide +kernel) rfl rfl rfl (by decide +kernel)
set_option maxRecDepth 65536 in
theorem w_c3 : (Jvm.Cond.code ({ cls := "java/lang/String", name := "valueOf", desc := "(C)Ljava/lang/String;" } : Jvm.MethodName) jdk_42_method_139_code (1 : Nat) (Option.some (Jvm.ClassFile.FieldType.object "java/lang/String"))).before args0 about1 = true := code_word (m := ⟨8, 3⟩) (meth := k8m3) (c := k8c3) (by decide +kernel) rfl rfl rfl (by decide +kernel)
set_option maxRecDepth 65536 in
theorem w_c4 : (Jvm.Cond.code ({ cls := "java/lang/StringLatin1", name := "canEncode", desc := "(C)Z" } : Jvm.MethodName) jdk_43_method_3_code (1 : Nat) (Option.some Jvm.ClassFile.FieldType.boolean)).before args0 about1 = true := code_word (m := ⟨9, 1⟩) (meth := k9m1) (c := k9c1) (by decide +kernel) rfl rfl rfl (by decide +kernel)
set_option maxRecDepth 65536 in
theorem w_c5 : (Jvm.Cond.code ({ cls := "java/lang/StringLatin1", name := "toBytes", desc := "(C)[B" } : Jvm.MethodName) jdk_43_method_46_code (1 : Nat) (Option.some (Jvm.ClassFile.FieldType.array Jvm.ClassFile.FieldType.byte))).before args0 about1 = true := code_word (m := ⟨9, 3⟩) (meth := k9m3) (c := k9c3) (by decide +kernel) rfl rfl rfl (by decide +kernel)
set_option maxRecDepth 65536 in
theorem w_c6 : (Jvm.Cond.code ({ cls := "java/lang/String", name := "<init>", desc := "([BB)V" } : Jvm.MethodName) jdk_42_method_151_code (3 : Nat) (Option.none : Option Jvm.ClassFile.FieldType)).before args0 about1 = true := code_word (m := ⟨8, 5⟩) (meth := k8m5) (c := k8c5) (by decide +kernel) rfl rfl rfl (by decide +kernel)
set_option maxRecDepth 65536 in
theorem w_c7 : (Jvm.Cond.code ({ cls := "java/lang/Object", name := "<init>", desc := "()V" } : Jvm.MethodName) object_method_1_code (1 : Nat) (Option.none : Option Jvm.ClassFile.FieldType)).before args0 about1 = true := code_word (m := ⟨0, 0⟩) (meth := k0m0) (c := k0c0) (by decide +kernel) rfl rfl rfl (by decide +kernel)
set_option maxRecDepth 65536 in
theorem w_c8 : (Jvm.Cond.code ({ cls := "com/example/zonewright/zonewright/storage/ServiceInstance", name := "<init>", desc := "(Ljava/lang/String;Ljava/lang/String;Ljava/lang/String;Ljava/lang/String;)V" } : Jvm.MethodName) prog_29_method_1_code (5 : Nat) (Option.none : Option Jvm.ClassFile.FieldType)).before args0 about1 = true := code_word (m := ⟨2, 0⟩) (meth := k2m0) (c := k2c0) (by decide +kernel) rfl rfl rfl (by decide +kernel)
set_option maxRecDepth 65536 in
theorem w_c9 : (Jvm.Cond.code ({ cls := "com/example/zonewright/zonewright/storage/ServiceInstanceEqualsPinLaw", name := "mk", desc := "(II)Ljava/lang/String;" } : Jvm.MethodName) method_5_code (2 : Nat) (Option.some (Jvm.ClassFile.FieldType.object "java/lang/String"))).before args0 about1 = true := code_word (m := ⟨1, 4⟩) (meth := k1m4) (c := k1c4) (by decide +kernel) rfl rfl rfl (by decide +kernel)
set_option maxRecDepth 65536 in
theorem w_c10 : (Jvm.Cond.code ({ cls := "com/example/zonewright/zonewright/storage/ServiceInstanceEqualsPinLaw", name := "same", desc := "(II)Z" } : Jvm.MethodName) method_6_code (2 : Nat) (Option.some Jvm.ClassFile.FieldType.boolean)).before args0 about1 = true := code_word (m := ⟨1, 5⟩) (meth := k1m5) (c := k1c5) (by decide +kernel) rfl rfl rfl (by decide +kernel)
set_option maxRecDepth 65536 in
theorem w_c11 : (Jvm.Cond.code ({ cls := "com/example/zonewright/zonewright/storage/ServiceInstance", name := "equals", desc := "(Ljava/lang/Object;)Z" } : Jvm.MethodName) prog_29_method_6_code (3 : Nat) (Option.some Jvm.ClassFile.FieldType.boolean)).before args0 about1 = true := code_word (m := ⟨2, 1⟩) (meth := k2m1) (c := k2c1) (by decide +kernel) rfl rfl rfl (by decide +kernel)
set_option maxRecDepth 65536 in
theorem w_c12 : (Jvm.Cond.code ({ cls := "java/lang/String", name := "equals", desc := "(Ljava/lang/Object;)Z" } : Jvm.MethodName) jdk_42_method_66_code (3 : Nat) (Option.some Jvm.ClassFile.FieldType.boolean)).before args0 about1 = true := code_word (m := ⟨8, 2⟩) (meth := k8m2) (c := k8c2) (by decide +kernel) rfl rfl rfl (by decide +kernel)
set_option maxRecDepth 65536 in
theorem w_c13 : (Jvm.Cond.code ({ cls := "java/lang/StringLatin1", name := "equals", desc := "([B[B)Z" } : Jvm.MethodName) jdk_43_method_13_code (3 : Nat) (Option.some Jvm.ClassFile.FieldType.boolean)).before args0 about1 = true := code_word (m := ⟨9, 2⟩) (meth := k9m2) (c := k9c2) (by decide +kernel) rfl rfl rfl (by decide +kernel)
set_option maxRecDepth 65536 in
theorem w_c14 : (Jvm.Cond.code ({ cls := "com/example/zonewright/zonewright/storage/ServiceInstanceEqualsPinLaw", name := "c2", desc := "(I)C" } : Jvm.MethodName) method_3_code (1 : Nat) (Option.some Jvm.ClassFile.FieldType.char)).before args0 about1 = true := code_word (m := ⟨1, 2⟩) (meth := k1m2) (c := k1c2) (by decide +kernel) rfl rfl rfl (by decide +kernel)
set_option maxRecDepth 65536 in
theorem w_c15 : (Jvm.Cond.code ({ cls := "java/lang/String", name := "<init>", desc := "([C)V" } : Jvm.MethodName) jdk_42_method_3_code (2 : Nat) (Option.none : Option Jvm.ClassFile.FieldType)).before args0 about1 = true := code_word (m := ⟨8, 1⟩) (meth := k8m1) (c := k8c1) (by decide +kernel) rfl rfl rfl (by decide +kernel)
set_option maxRecDepth 65536 in
theorem w_c16 : (Jvm.Cond.code ({ cls := "java/lang/String", name := "<init>", desc := "([CIILjava/lang/Void;)V" } : Jvm.MethodName) jdk_42_method_149_code (6 : Nat) (Option.none : Option Jvm.ClassFile.FieldType)).before args0 about1 = true := code_word (m := ⟨8, 4⟩) (meth := k8m4) (c := k8c4) (by decide +kernel) rfl rfl rfl (by decide +kernel)
set_option maxRecDepth 65536 in
theorem w_c17 : (Jvm.Cond.code ({ cls := "java/lang/StringUTF16", name := "compress", desc := "([CII)[B" } : Jvm.MethodName) jdk_52_method_16_code (6 : Nat) (Option.some (Jvm.ClassFile.FieldType.array Jvm.ClassFile.FieldType.byte))).before args0 about1 = true := code_word (m := ⟨10, 2⟩) (meth := k10m2) (c := k10c2) (by decide +kernel) rfl rfl rfl (by decide +kernel)
set_option maxRecDepth 65536 in
theorem w_c18 : (Jvm.Cond.code ({ cls := "java/lang/StringUTF16", name := "compress", desc := "([CI[BII)I" } : Jvm.MethodName) jdk_52_method_21_code (7 : Nat) (Option.some Jvm.ClassFile.FieldType.int)).before args0 about1 = true := code_word (m := ⟨10, 3⟩) (meth := k10m3) (c := k10c3) (by decide +kernel) rfl rfl rfl (by decide +kernel)
set_option maxRecDepth 65536 in
theorem w_c19 : (Jvm.Cond.code ({ cls := "java/lang/StringUTF16", name := "coderFromArrayLen", desc := "([BI)B" } : Jvm.MethodName) jdk_52_method_15_code (2 : Nat) (Option.some Jvm.ClassFile.FieldType.byte)).before args0 about1 = true := code_word (m := ⟨10, 1⟩) (meth := k10m1) (c := k10c1) (by decide +kernel) rfl rfl rfl (by decide +kernel)
def codes1 : List Jvm.Cond := [Jvm.Cond.code x code maxLocals ret, Jvm.Cond.code ({ cls := "com/example/zonewright/zonewright/storage/ServiceInstanceEqualsPinLaw", name := "base", desc := "(I)Ljava/lang/String;" } : Jvm.MethodName) method_4_code (1 : Nat) (Option.some (Jvm.ClassFile.FieldType.object "java/lang/String")), Jvm.Cond.code ({ cls := "com/example/zonewright/zonewright/storage/ServiceInstanceEqualsPinLaw", name := "c1", desc := "(I)C" } : Jvm.MethodName) method_2_code (1 : Nat) (Option.some Jvm.ClassFile.FieldType.char), Jvm.Cond.code ({ cls := "java/lang/String", name := "valueOf", desc := "(C)Ljava/lang/String;" } : Jvm.MethodName) jdk_42_method_139_code (1 : Nat) (Option.some (Jvm.ClassFile.FieldType.object "java/lang/String")), Jvm.Cond.code ({ cls := "java/lang/StringLatin1", name := "canEncode", desc := "(C)Z" } : Jvm.MethodName) jdk_43_method_3_code (1 : Nat) (Option.some Jvm.ClassFile.FieldType.boolean), Jvm.Cond.code ({ cls := "java/lang/StringLatin1", name := "toBytes", desc := "(C)[B" } : Jvm.MethodName) jdk_43_method_46_code (1 : Nat) (Option.some (Jvm.ClassFile.FieldType.array Jvm.ClassFile.FieldType.byte)), Jvm.Cond.code ({ cls := "java/lang/String", name := "<init>", desc := "([BB)V" } : Jvm.MethodName) jdk_42_method_151_code (3 : Nat) (Option.none : Option Jvm.ClassFile.FieldType), Jvm.Cond.code ({ cls := "java/lang/Object", name := "<init>", desc := "()V" } : Jvm.MethodName) object_method_1_code (1 : Nat) (Option.none : Option Jvm.ClassFile.FieldType), Jvm.Cond.code ({ cls := "com/example/zonewright/zonewright/storage/ServiceInstance", name := "<init>", desc := "(Ljava/lang/String;Ljava/lang/String;Ljava/lang/String;Ljava/lang/String;)V" } : Jvm.MethodName) prog_29_method_1_code (5 : Nat) (Option.none : Option Jvm.ClassFile.FieldType), Jvm.Cond.code ({ cls := "com/example/zonewright/zonewright/storage/ServiceInstanceEqualsPinLaw", name := "mk", desc := "(II)Ljava/lang/String;" } : Jvm.MethodName) method_5_code (2 : Nat) (Option.some (Jvm.ClassFile.FieldType.object "java/lang/String")), Jvm.Cond.code ({ cls := "com/example/zonewright/zonewright/storage/ServiceInstanceEqualsPinLaw", name := "same", desc := "(II)Z" } : Jvm.MethodName) method_6_code (2 : Nat) (Option.some Jvm.ClassFile.FieldType.boolean), Jvm.Cond.code ({ cls := "com/example/zonewright/zonewright/storage/ServiceInstance", name := "equals", desc := "(Ljava/lang/Object;)Z" } : Jvm.MethodName) prog_29_method_6_code (3 : Nat) (Option.some Jvm.ClassFile.FieldType.boolean), Jvm.Cond.code ({ cls := "java/lang/String", name := "equals", desc := "(Ljava/lang/Object;)Z" } : Jvm.MethodName) jdk_42_method_66_code (3 : Nat) (Option.some Jvm.ClassFile.FieldType.boolean), Jvm.Cond.code ({ cls := "java/lang/StringLatin1", name := "equals", desc := "([B[B)Z" } : Jvm.MethodName) jdk_43_method_13_code (3 : Nat) (Option.some Jvm.ClassFile.FieldType.boolean), Jvm.Cond.code ({ cls := "com/example/zonewright/zonewright/storage/ServiceInstanceEqualsPinLaw", name := "c2", desc := "(I)C" } : Jvm.MethodName) method_3_code (1 : Nat) (Option.some Jvm.ClassFile.FieldType.char), Jvm.Cond.code ({ cls := "java/lang/String", name := "<init>", desc := "([C)V" } : Jvm.MethodName) jdk_42_method_3_code (2 : Nat) (Option.none : Option Jvm.ClassFile.FieldType), Jvm.Cond.code ({ cls := "java/lang/String", name := "<init>", desc := "([CIILjava/lang/Void;)V" } : Jvm.MethodName) jdk_42_method_149_code (6 : Nat) (Option.none : Option Jvm.ClassFile.FieldType), Jvm.Cond.code ({ cls := "java/lang/StringUTF16", name := "compress", desc := "([CII)[B" } : Jvm.MethodName) jdk_52_method_16_code (6 : Nat) (Option.some (Jvm.ClassFile.FieldType.array Jvm.ClassFile.FieldType.byte)), Jvm.Cond.code ({ cls := "java/lang/StringUTF16", name := "compress", desc := "([CI[BII)I" } : Jvm.MethodName) jdk_52_method_21_code (7 : Nat) (Option.some Jvm.ClassFile.FieldType.int), Jvm.Cond.code ({ cls := "java/lang/StringUTF16", name := "coderFromArrayLen", desc := "([BI)B" } : Jvm.MethodName) jdk_52_method_15_code (2 : Nat) (Option.some Jvm.ClassFile.FieldType.byte)]
set_option maxRecDepth 65536 in
theorem codes_eq : words1.filter isCode = codes1 := rfl
theorem w_codes : ∀ c ∈ words1.filter isCode, c.before args0 about1 = true := by
  rw [codes_eq]
  intro c hc
  simp only [codes1, List.mem_cons, List.not_mem_nil, or_false] at hc
  rcases hc with rfl | rfl | rfl | rfl | rfl | rfl | rfl | rfl | rfl | rfl | rfl | rfl | rfl | rfl | rfl | rfl | rfl | rfl | rfl | rfl
  · exact w_c0
  · exact w_c1
  · exact w_c2
  · exact w_c3
  · exact w_c4
  · exact w_c5
  · exact w_c6
  · exact w_c7
  · exact w_c8
  · exact w_c9
  · exact w_c10
  · exact w_c11
  · exact w_c12
  · exact w_c13
  · exact w_c14
  · exact w_c15
  · exact w_c16
  · exact w_c17
  · exact w_c18
  · exact w_c19
set_option maxRecDepth 65536 in
theorem w_t1 : (words1.take 24).all (fun c => isCode c || c.before args0 about1) = true := by decide +kernel
set_option maxRecDepth 65536 in
theorem w_t2 : ((words1.drop 24).take 24).all (fun c => isCode c || c.before args0 about1) = true := by decide +kernel
set_option maxRecDepth 65536 in
theorem w_t3 : (((words1.drop 24).drop 24).take 24).all (fun c => isCode c || c.before args0 about1) = true := by decide +kernel
set_option maxRecDepth 65536 in
theorem w_t4 : (((words1.drop 24).drop 24).drop 24).all (fun c => isCode c || c.before args0 about1) = true := by decide +kernel
theorem w_tables : (allAtoms (Jvm.Cond.code x code maxLocals ret :: tables_1)).before args0 about1 = true := by
  rw [allAtoms_all]
  show words1.all (fun c => c.before args0 about1) = true
  refine all_split ?_ w_codes
  rw [← List.take_append_drop 24 words1, List.all_append, w_t1, ← List.take_append_drop 24 (words1.drop 24), List.all_append, w_t2, ← List.take_append_drop 24 ((words1.drop 24).drop 24), List.all_append, w_t3, w_t4]
  rfl
set_option maxRecDepth 65536 in
theorem w_rest : rest_1_c.before args0 about1 = true := by decide +kernel
set_option maxRecDepth 65536 in
theorem w_case : (Jvm.Cond.and given_1 narrow_1).before args0 about1 = true := by decide +kernel
set_option maxRecDepth 65536 in
theorem w_consts : constsHeld consts_1 about1 := Jvm.Lit.constsHeldB_iff.mp (by decide +kernel)
theorem w_applies : (headSpec (Jvm.Cond.code x code maxLocals ret :: tables_1) room_1).applies x e0.platform about1 = true :=
  (Spec.applies_iff w_frames).mpr ⟨w_running, w_runnable, w_alone, w_named, w_hears, w_ripe, w_room, w_tables⟩
theorem atStart : AtStart classFile x code maxLocals ret World_1 tables_1 room_1 Calls_1 rest_1 Pre_1 launch0 p0 e0 about1 theMethod args0 below0 :=
  ⟨lists_1, trivial, launch0.admits_env _ _ _, launch0.least_env, fairChoices_fair.cas, fairChoices_fair.clock, w_frames, w_args, w_heap, w_applies, ⟨w_consts, trivial⟩, w_rest, w_case⟩
end start1
theorem witness_1 : WitnessClaimed_1 := ⟨start1.p0, start1.e0, start1.about1, start1.theMethod, start1.args0, start1.below0, start1.atStart⟩
end Jvm.Pilot.@@N@@
