import JvmDerived
import JvmDerived.Pilot.@@N@@Statement
import JvmDerived.Pilot.@@N@@Code
set_option linter.unusedVariables false
set_option linter.unusedSimpArgs false
namespace Jvm.Pilot.@@N@@
open Jvm Jvm.ClassFile Sem Op Lib Jvm.Free Jvm.Stand Jvm.LawKit Jvm.RoadKit Bundle Jvm.Pilot.@@N@@.Jvm.D
section Own
variable {p : Program} {l : Launch} {e : Env} {R : Room} {s : State} {m : MethodId} {args : Array Value} {below : List Frame} {meth : Method} {c : Code} {T : State} {locs : List Loc} {cells slots : Nat} {Z : State} {a0 : Array Value} {h : Heap} {Φ : Outcome → State → Prop}
/-- what is left of a walk: from S the invocation ends as Φ says -/
def OGo (tb : Tables) (e : Env) (below : List Frame) (Φ : Outcome → State → Prop) (S : State) : Prop := ∃ s₂ o, Steps tb e below S s₂ ∧ s₂.status = .running ∧ Ended s₂ below o ∧ Φ o s₂
abbrev OG (p : Program) (e : Env) (below : List Frame) (Φ : Outcome → State → Prop) (T : State) (m : MethodId) (pc : Nat) (ls : Array Slot) (st : List Value) : Prop := OGo p.tables e below Φ (T.setTop (mkF m pc ls st))
theorem OGo.st {tb : Tables} {S S' : State} (h : ∀ t, Steps tb e below S' t → Steps tb e below S t) (g : OGo tb e below Φ S') : OGo tb e below Φ S := by
  obtain ⟨s₂, o, h1, r⟩ := g
  exact ⟨s₂, o, h _ h1, r⟩
theorem OGo.fin (X : Stand p l e R s m args below meth c T locs cells slots) (hlk : meth.locks = false) {v : Option Value} (hv : meth.sig.returnType = none → v = none) {g : JFrame} {k n : Nat} (hk : cells ≤ k) (hn : slots ≤ n)
    (st : ∀ fs, (∀ (f : JFrame) (acts : List Action), f.method = m → f.locked = none → f.entered = [] → (doReturn e (T.setTop f) acts v).1 = T.setFrames fs) → Steps p.tables e below (T.setTop g) (T.setFrames fs))
    (hq : ∀ U, U.heap = T.heap → FrameEnd s (.returned v) U locs k n → Φ (.returned v) U) : OGo p.tables e below Φ (T.setTop g) := by
  obtain ⟨fs, hr, hrun, hended, hW, hsame⟩ := X.leave (v := v) hv hlk
  exact ⟨_, _, st fs hr, hrun, hended, hq _ rfl ⟨⟨_, rfl⟩, hW, hsame.mono hk hn⟩⟩
/-- a contract: what every body's theorem says -/
abbrev OCon (l : Launch) (Z : State) (y : MethodName) (bytes : ByteArray) (maxL : Nat) (ret : Option FieldType) (ws : List Jvm.Cond) (rm : Room) (as' : Array Value) (h0 : Heap) (Q : Option Value → Heap → List Loc → Prop) : Prop :=
  MetFree l y (head1 (Jvm.Cond.code y bytes maxL ret :: ws) rm) (fun a U => a = as' ∧ Z.Warmed39 U.vm ∧ U.heap = h0) (fun _ _ _ _ _ => True) (fun _ U o U' => ∃ v L, o = .returned v ∧ Q v U'.heap L ∧ FrameEnd U o U' L rm.cells rm.slots)
theorem OCon.of {y : MethodName} {bytes : ByteArray} {maxL : Nat} {ret : Option FieldType} {ws : List Jvm.Cond} {rm : Room} {as' : Array Value} {h0 : Heap} {Q : Option Value → Heap → List Loc → Prop} (hpl : plainFor y = true)
    (H : ∀ (p : Program) (e : Env) (s : State) (m : MethodId) (below : List Frame) (meth : Method) (c : Code) (s₁ : State) (Φ : Outcome → State → Prop), Stand p l e rm s m as' below meth c s₁ [] 0 0 → p.tables.exec = Jvm.exec → c.code = bytes → c.maxLocals = maxL → s.vm.findClass y.cls = some m.cls → meth.name = y.name → meth.sig.returnType = ret → meth.locks = false → Z.Warmed39 s.vm → s₁.heap = h0 →
      (∀ v L U, Q v U.heap L → FrameEnd s (.returned v) U L rm.cells rm.slots → Φ (.returned v) U) → OGo p.tables e below Φ (s₁.setTop (entryFrame m as' maxL))) :
    OCon l Z y bytes maxL ret ws rm as' h0 Q := by
  refine MetFree.of_bodySF hpl hisR ?_
  intro p e s m args below meth c s₁ Bd hml0 hP hK
  obtain ⟨rfl, hZ, hh⟩ := hP
  have e0 : s₁.heap = h0 := by rw [← hh, Bd.state]; rfl
  exact H p e s m below meth c s₁ _ (Stand.of_body Bd) Bd.exec Bd.bytes hml0 (findClass_of_methodNamed Bd.named) (name_of_methodNamed Bd.named Bd.method).1 Bd.returns Bd.notSynchronized hZ e0 (fun v L U hq hf => ⟨v, L, rfl, hq, hf⟩)
theorem own_callSt (X : Stand p l e R s m args below meth c T locs cells slots) (hx : p.tables.exec = Jvm.exec) (hZ : Z.Warmed39 s.vm) {own : String} {index : Nat} {y : MethodName} {bytes : ByteArray} {maxL : Nat} {ret : Option FieldType} {rm : Room} {as' : Array Value} {Q : Option Value → Heap → List Loc → Prop}
    (hown : s.vm.findClass own = some m.cls) (w1 : (Jvm.Cond.methodLink own index y).before a0 Z = true) (w2 : (Jvm.Cond.static y).before a0 Z = true) (w3 : (Jvm.Cond.initialized y.cls).before a0 Z = true) (w4 : (Jvm.Cond.code y bytes maxL ret).before a0 Z = true) (hy : y.cls ≠ "java/lang/invoke/MethodHandle" ∧ y.cls ≠ "java/lang/invoke/VarHandle")
    (hM : OCon l Z y bytes maxL ret [] rm as' h Q) (eT : T.heap = h) {W : Nat} (hf : rm.frames + 1 ≤ R.frames) (hl : W + (maxL + 11) + rm.locals ≤ R.locals) (hcl : cells + rm.cells ≤ R.cells) (hsl : slots + rm.slots ≤ R.slots)
    {pc : Nat} {ls : Array Slot} {stk : List Value} (hsize : ls.size = c.maxLocals) {argsL rest : List Value} (hlen : ∀ sig, parseMethodDescriptor y.desc = some sig → argsL.length = sig.parameters.length) (has : argsL.toArray = as') (hstack : stk = argsL.reverse ++ rest) (hW : (rest.map fun v => v.category).sum ≤ W)
    (hd : decode c.code pc = .ok (.invokestatic index, 3)) :
    ∃ v T' L, Stand p l e R s m args below meth c T' (locs ++ L) (cells + rm.cells) (slots + rm.slots) ∧ Q v T'.heap L ∧ ∀ target, Steps p.tables e below (T'.setTop (mkF m (pc + 3) ls (v.toList ++ rest))) target → Steps p.tables e below (T.setTop (mkF m pc ls stk)) target := by
  subst has
  obtain ⟨v, vm₁, ⟨T', L', k', n'⟩, -, X', ⟨L, hQ, l1, y1, z1⟩, st⟩ := Jvm.LawKit.callS X hx (y := y) hown (mvT hZ w1) (mvT hZ w2) (mvT hZ w3) (mvT hZ w4) hy (backOf (W := W) hM hZ w4 w3 hf hl) (g := mkF m pc ls stk) rfl hsize (argsL := argsL) (rest := rest) hlen hstack (by simpa using hW) hd (fun _ _ => ⟨rfl, eT, hcl, hsl⟩)
  dsimp only [Pt.U, Pt.locs, Pt.cells, Pt.slots] at X' l1 y1 z1 st hQ
  subst l1 y1 z1
  exact ⟨v, T', L, X', hQ, st⟩
theorem own_callSp (X : Stand p l e R s m args below meth c T locs cells slots) (hx : p.tables.exec = Jvm.exec) (hZ : Z.Warmed39 s.vm) {own : String} {index : Nat} {y : MethodName} {bytes : ByteArray} {maxL : Nat} {rm : Room} {as' : Array Value} {Q : Option Value → Heap → List Loc → Prop}
    (hy1 : y.name = "<init>") (hown : s.vm.findClass own = some m.cls) (w1 : (Jvm.Cond.methodLink own index y).before a0 Z = true) (w2 : (Jvm.Cond.instanceMethod y).before a0 Z = true) (w3 : (Jvm.Cond.initialized y.cls).before a0 Z = true) (w4 : (Jvm.Cond.code y bytes maxL none).before a0 Z = true) (hy : y.cls ≠ "java/lang/invoke/MethodHandle" ∧ y.cls ≠ "java/lang/invoke/VarHandle")
    (hM : OCon l Z y bytes maxL none [] rm as' h Q) (eT : T.heap = h) {W : Nat} (hf : rm.frames + 1 ≤ R.frames) (hl : W + (maxL + 11) + rm.locals ≤ R.locals) (hcl : cells + rm.cells ≤ R.cells) (hsl : slots + rm.slots ≤ R.slots)
    {pc : Nat} {ls : Array Slot} {stk : List Value} (hsize : ls.size = c.maxLocals) {a : Addr} {argsL rest : List Value} (hlen : ∀ sig, parseMethodDescriptor y.desc = some sig → argsL.length = sig.parameters.length) (has : (.ref a :: argsL).toArray = as') (hstack : stk = argsL.reverse ++ .ref a :: rest) (hW : (rest.map fun v => v.category).sum ≤ W)
    (hd : decode c.code pc = .ok (.invokespecial index, 3)) :
    ∃ v T' L, Stand p l e R s m args below meth c T' (locs ++ L) (cells + rm.cells) (slots + rm.slots) ∧ Q v T'.heap L ∧ ∀ target, Steps p.tables e below (T'.setTop (mkF m (pc + 3) ls (v.toList ++ rest))) target → Steps p.tables e below (T.setTop (mkF m pc ls stk)) target := by
  subst has
  obtain ⟨v, vm₁, ⟨T', L', k', n'⟩, -, X', ⟨L, hQ, l1, y1, z1⟩, st⟩ := X.specialBack hx (y := y) hy1 hown (mvT hZ w1) (mvT hZ w2) (mvT hZ w4) hy (backOf (W := W) hM hZ w4 w3 hf hl) (g := mkF m pc ls stk) rfl hsize (Steps.refl _) (a := a) (argsL := argsL) (rest := rest) hlen hstack (by simpa using hW) hd (fun _ _ => ⟨rfl, eT, hcl, hsl⟩)
  dsimp only [Pt.U, Pt.locs, Pt.cells, Pt.slots] at X' l1 y1 z1 st hQ
  subst l1 y1 z1
  exact ⟨v, T', L, X', hQ, fun t k => st.trans k⟩
theorem own_callVi (X : Stand p l e R s m args below meth c T locs cells slots) (hx : p.tables.exec = Jvm.exec) (hZ : Z.Warmed39 s.vm) {own C : String} {index : Nat} {y z : MethodName} {bytes : ByteArray} {maxL : Nat} {ret : Option FieldType} {rm : Room} {as' : Array Value} {Q : Option Value → Heap → List Loc → Prop}
    (hown : s.vm.findClass own = some m.cls) (w1 : (Jvm.Cond.methodLink own index y).before a0 Z = true) (w2 : (Jvm.Cond.declares y).before a0 Z = true) (nf : NotFace s y) (w3 : (Jvm.Cond.selects C y z).before a0 Z = true) (w4 : (Jvm.Cond.instanceMethod z).before a0 Z = true) (w5 : (Jvm.Cond.initialized z.cls).before a0 Z = true) (w6 : (Jvm.Cond.code z bytes maxL ret).before a0 Z = true) (hy : y.cls ≠ "java/lang/invoke/MethodHandle" ∧ y.cls ≠ "java/lang/invoke/VarHandle")
    (hM : OCon l Z z bytes maxL ret [] rm as' h Q) (eT : T.heap = h) {W : Nat} (hf : rm.frames + 1 ≤ R.frames) (hl : W + (maxL + 11) + rm.locals ≤ R.locals) (hcl : cells + rm.cells ≤ R.cells) (hsl : slots + rm.slots ≤ R.slots) {a : Addr} (E : Exa Z h a C)
    {pc : Nat} {ls : Array Slot} {stk : List Value} (hsize : ls.size = c.maxLocals) {argsL rest : List Value} (hlen : ∀ sig, parseMethodDescriptor y.desc = some sig → argsL.length = sig.parameters.length) (has : (.ref a :: argsL).toArray = as') (hstack : stk = argsL.reverse ++ .ref a :: rest) (hW : (rest.map fun v => v.category).sum ≤ W)
    (hd : decode c.code pc = .ok (.invokevirtual index, 3)) :
    ∃ v T' L, Stand p l e R s m args below meth c T' (locs ++ L) (cells + rm.cells) (slots + rm.slots) ∧ Q v T'.heap L ∧ ∀ target, Steps p.tables e below (T'.setTop (mkF m (pc + 3) ls (v.toList ++ rest))) target → Steps p.tables e below (T.setTop (mkF m pc ls stk)) target := by
  subst has
  obtain ⟨cq, kq, qa, qb, qc⟩ := isOf hZ eT E
  obtain ⟨v, vm₁, ⟨T', L', k', n'⟩, -, X', ⟨L, hQ, l1, y1, z1⟩, st⟩ := X.virtualBack hx (y := y) (z := z) hown (mvT hZ w1) (mvT hZ w2) nf (mvT hZ w3) (mvT hZ w4) hy (backOf (W := W) hM hZ w6 w5 hf hl) qa qc (g := mkF m pc ls stk) rfl hsize (Steps.refl _) (argsL := argsL) (rest := rest) hlen hstack (by simpa using hW) hd (fun _ _ => ⟨rfl, eT, hcl, hsl⟩)
  dsimp only [Pt.U, Pt.locs, Pt.cells, Pt.slots] at X' l1 y1 z1 st hQ
  subst l1 y1 z1
  exact ⟨v, T', L, X', hQ, fun t k => st.trans k⟩
theorem own_lremM {g : JFrame} {target : State} (X : Stand p l e R s m args below meth c T locs cells slots) (hx : p.tables.exec = Jvm.exec) (hg : g.method = m) {x y : Int64} {rest : List Value} (hd : decode c.code g.pc = .ok (.lrem, 1)) (hs : g.stack = .long y :: .long x :: rest) (hy : y ≠ 0)
    (hr : Steps p.tables e below (T.setTop { g with pc := g.pc + 1, stack := .long (x % y) :: rest }) target) : Steps p.tables e below (T.setTop g) target :=
  XT.lrem X.here hx hg hd hs hy (by rw [lrem_mod]; exact hr)
theorem own_nz {x : Int32} (q : x = 0 ∨ x = 1) : narrow .boolean (.int x) = .int x := by rcases q with rfl | rfl <;> rfl
theorem own_fz {x : Int32} (q : x = 0 ∨ x = 1) : fits .boolean (.int x) = true := by rcases q with rfl | rfl <;> rfl
theorem own_irr (x : Int32) : ¬ x < x := fun q => absurd (Int32.lt_iff_toInt_lt.mp q) (Int.lt_irrefl _)
theorem own_irrL (x : Int64) : ¬ x < x := fun q => absurd (Int64.lt_iff_toInt_lt.mp q) (Int.lt_irrefl _)
/-- a small int is one of the first n -/
theorem own_small {n : Nat} (hn : n < 2 ^ 31) (x : Int32) (h0 : ¬ x < 0) (h1 : x.toInt < n) : ∃ k : Fin n, x = Int32.ofInt k.val := by
  have h2 : 0 ≤ x.toInt := by
    rcases Int.lt_or_le x.toInt 0 with q | q
    · exact absurd (Int32.lt_iff_toInt_lt.mpr q) h0
    · exact q
  refine ⟨⟨x.toInt.toNat, by omega⟩, ?_⟩
  rw [Int.toNat_of_nonneg h2, Int32.ofInt_toInt]
end Own
section OwnSta
variable {args : Array Value} {Z : State} {a : Addr} {t : Jvm.Term}
theorem own_eqV {u : Jvm.Term} {v : Value} (hu : u.eval args Z none [] Z = some v) (hv : (match v with | .retAddr _ => false | _ => true) = true) (q : (Jvm.Cond.eq t u).value args Z none Z [] = some true) : t.eval args Z none [] Z = some v := by
  obtain ⟨x, y, ex, ey, k1, k2⟩ := cmp_v (Or.inl q)
  cases hu.symm.trans ey
  rw [ex]
  cases x <;> cases v <;> simp_all [Jvm.Cond.value, Kin, Value.isRef]
theorem own_fldI {C n d : String} {k : Int32} (ev : t.eval args Z none [] Z = some (.ref a)) (q : (Jvm.Cond.eq (Jvm.Term.field t C n d) (Jvm.Term.int k)).value args Z none Z [] = some true) : Fld Z Z.heap a C n d (.int k) :=
  Fld.start ((fld_at ev).symm.trans (own_eqV (Term.int_eval k) rfl q))
theorem own_lenI {k : Int32} {cl : Cell} {ty : FieldType} (ev : t.eval args Z none [] Z = some (.ref a)) (A : Arr Z Z.heap a cl ty) (q : (Jvm.Cond.eq (Jvm.Term.length t) (Jvm.Term.int k)).value args Z none Z [] = some true) : cl.slots.size < 2 ^ 31 ∧ cl.slots.size.toInt32 = k := by
  have h := own_eqV (Term.int_eval k) rfl q
  obtain ⟨b, cell, ht, harr, hl⟩ := Term.length_spec h
  cases ev.symm.trans ht
  have ha : Z.arrayAt? a = some cl := Arr.fin (Vm.Alike.refl _) A
  cases ha.symm.trans harr
  by_cases hs : cl.slots.size < 2 ^ 31
  · exact ⟨hs, (Value.int.inj (Option.some.inj ((len_f ev ha hs).symm.trans h)))⟩
  · exfalso
    rw [Jvm.Term.eval, ev] at h
    simp [ha] at h
    omega
theorem own_elem {j : Int32} {n : Nat} {u : Jvm.Term} {v : Value} {cl : Cell} {ty : FieldType} (ev : t.eval args Z none [] Z = some (.ref a)) (A : Arr Z Z.heap a cl ty) (hu : u.eval args Z none [] Z = some v) (hv : (match v with | .retAddr _ => false | _ => true) = true) (hj : j.toNatClampNeg = n) (q : (Jvm.Cond.eq (Jvm.Term.elem t (Jvm.Term.int j)) u).value args Z none Z [] = some true) : cl.slots[n]? = some v :=
  hj ▸ (elem_in (own_eqV hu hv q) ev (Term.int_eval j) A.1).2
end OwnSta
section OwnW
open Jvm.Free.SB Jvm.Free.SBG
variable {p : Program} {l : Launch} {e : Env} {R : Room} {s : State} {m : MethodId} {args : Array Value} {below : List Frame} {meth : Method} {c : Code} {T : State} {locs : List Loc} {cells slots : Nat} {Z : State} {a0 : Array Value} {h : Heap} {Φ : Outcome → State → Prop} {EL : List (String × Nat)} {vm0 : Vm}
/-- a wide contract: the body may load String constants; sf: addresses that are none of the held constants' cells -/
abbrev OConW (l : Launch) (Z : State) (EL : List (String × Nat)) (y : MethodName) (bytes : ByteArray) (maxL : Nat) (ret : Option FieldType) (ws : List Jvm.Cond) (rm : Room) (as' : Array Value) (h0 : Heap) (sf : List Addr) (Q : Option Value → Heap → List Loc → Prop) : Prop :=
  MetFree l y (head1 (Jvm.Cond.code y bytes maxL ret :: ws) rm) (fun a U => a = as' ∧ Z.Warmed39 U.vm ∧ U.heap = h0 ∧ CHv Z EL U.vm h0 ∧ ∀ x ∈ sf, Safe Z EL U.vm h0 x) (fun _ _ _ _ _ => True) (fun _ U o U' => ∃ v L, o = .returned v ∧ Q v U'.heap L ∧ CHr Z EL U.vm U.heap U'.vm U'.heap ∧ ReturnedEndW U o U' L rm.cells rm.slots)
theorem OConW.of {y : MethodName} {bytes : ByteArray} {maxL : Nat} {ret : Option FieldType} {ws : List Jvm.Cond} {rm : Room} {as' : Array Value} {h0 : Heap} {sf : List Addr} {Q : Option Value → Heap → List Loc → Prop} (hpl : plainFor y = true)
    (H : ∀ (p : Program) (e : Env) (s : State) (m : MethodId) (below : List Frame) (meth : Method) (c : Code) (s₁ : State) (Φ : Outcome → State → Prop), Stand p l e rm (s.setVm s.vm) m as' below meth c s₁ [] 0 0 → p.tables.exec = Jvm.exec → c.code = bytes → c.maxLocals = maxL → (s.setVm s.vm).vm.findClass y.cls = some m.cls → meth.name = y.name → meth.sig.returnType = ret → meth.locks = false → Z.Warmed39 (s.setVm s.vm).vm → s₁.heap = h0 →
      s.Since s.vm 0 → 0 ≤ h0.size → CHr Z EL s.vm h0 s.vm h0 → (∀ x ∈ sf, Safe Z EL s.vm h0 x) →
      (∀ v L U, Q v U.heap L → CHr Z EL s.vm h0 U.vm U.heap → ReturnedEndW s (.returned v) U L rm.cells rm.slots → Φ (.returned v) U) → OGo p.tables e below Φ (s₁.setTop (entryFrame m as' maxL))) :
    OConW l Z EL y bytes maxL ret ws rm as' h0 sf Q := by
  refine MetFree.of_bodySF hpl hisR ?_
  intro p e s m args below meth c s₁ Bd hml0 hP hK
  obtain ⟨rfl, hZ, hh, hC, hsf⟩ := hP
  have e0 : s₁.heap = h0 := by rw [← hh, Bd.state]; rfl
  have X0 := Stand.of_body Bd
  have ev : s₁.vm = s.vm := by rw [Bd.state]; rfl
  have hWm : s.WarmedH s.vm := ev ▸ X0.warmed
  exact H p e s m below meth c s₁ _ X0 Bd.exec Bd.bytes hml0 (findClass_of_methodNamed Bd.named) (name_of_methodNamed Bd.named Bd.method).1 Bd.returns Bd.notSynchronized hZ e0 (hWm.since 0) (Nat.zero_le _) (CHr.refl hC) hsf (fun v L U hq hc hf => ⟨v, L, rfl, hq, hh ▸ hc, hf⟩)
theorem OGo.finW (X : Stand p l e R (s.setVm vm0) m args below meth c T locs cells slots) (hlk : meth.locks = false) {k0 : Nat} (hS : s.Since vm0 k0) (eT : T.heap = h) (hkk : k0 ≤ h.size) {v : Option Value} (hv : meth.sig.returnType = none → v = none) {g : JFrame} {k n : Nat} (hk : cells ≤ k) (hn : slots ≤ n) (hZ : Z.Warmed39 (s.setVm vm0).vm) (hEL : EW Z a0 EL) {vmS : Vm} {hs0 : Heap} (hC : CHr Z EL vmS hs0 vm0 h)
    (st : ∀ fs, (∀ (f : JFrame) (acts : List Action), f.method = m → f.locked = none → f.entered = [] → (doReturn e (T.setTop f) acts v).1 = T.setFrames fs) → Steps p.tables e below (T.setTop g) (T.setFrames fs))
    (hq : ∀ U, U.heap = h → CHr Z EL vmS hs0 U.vm U.heap → ReturnedEndW s (.returned v) U locs k n → Φ (.returned v) U) : OGo p.tables e below Φ (T.setTop g) := by
  obtain ⟨fs, hr, hrun, hended, hW⟩ := X.leaveW hS (eT ▸ hkk) (v := v) hv hlk
  have hc2 : CHr Z EL vmS hs0 T.vm h := hC.trans (CHv.at X hZ hEL hC.1)
  exact ⟨_, _, st fs hr, hrun, hended, hq _ eT (by show CHr Z EL vmS hs0 T.vm T.heap; rw [eT]; exact hc2) ⟨hW.1, hW.2.1, hW.2.2.1, hW.2.2.2.mono hk hn⟩⟩
theorem own_backW {y : MethodName} {bytes : ByteArray} {maxL : Nat} {ret : Option FieldType} {rm : Room} {len W : Nat} {as' : Array Value} {sf : List Addr} {Q : Option Value → Heap → List Loc → Prop} (hM : OConW l Z EL y bytes maxL ret [] rm as' h sf Q)
    (hZ : Z.Warmed39 vm0) (wc : (Jvm.Cond.code y bytes maxL ret).before a0 Z = true) (wz : (Jvm.Cond.initialized y.cls).before a0 Z = true) (hf : rm.frames + 1 ≤ R.frames) (hl : W + (maxL + 11) + rm.locals ≤ R.locals) (hEL : EW Z a0 EL) (H : CHv Z EL vm0 h) (hsf : ∀ x ∈ sf, x < h.size ∧ Safe Z EL vm0 h x) :
    BackS l R p e below (s.setVm vm0) args y len W (fun A a => a = as' ∧ A.U.heap = h ∧ A.cells + rm.cells ≤ R.cells ∧ A.slots + rm.slots ≤ R.slots)
      (fun A _ v B => ∃ L, Q v B.U.heap L ∧ B.locs = A.locs ++ L ∧ B.cells = A.cells + rm.cells ∧ B.slots = A.slots + rm.slots ∧ CHr Z EL vm0 h B.U.vm B.U.heap) := by
  refine BackS.of_freeW (bytes := bytes) (maxL := maxL) (ret := ret) (E := fun _ first o t L k n => k = rm.cells ∧ n = rm.slots ∧ (∃ v, o = .returned v ∧ Q v t.heap L) ∧ CHr Z EL first.vm first.heap t.vm t.heap) hM hf hl ?_ ?_ ?_ ?_ ?_
  · intro m meth c A a Y hp
    have hU : Z.Warmed39 A.U.vm := wtrans (s := s.setVm vm0) hZ Y.warmed
    exact ⟨by show (Jvm.Cond.and _ .tt).before a A.U = true; rw [Cond.before_and, mv hU wc]; rfl, mv hU wc, mv hU wz, hp.2.2.1, hp.2.2.2⟩
  · intro m meth c A a g mk Y hp
    exact ⟨hp.1, wtrans (s := s.setVm vm0) hZ Y.warmed, hp.2.1, (CHv.at Y hZ hEL H).1, fun x hx => (CHv.at Y hZ hEL H).safe (hsf x hx).1 (hsf x hx).2⟩
  · intros; trivial
  · rintro _ _ _ _ ⟨v, L, q1, q2, q3, q4⟩
    exact ⟨L, _, _, q4, rfl, rfl, ⟨v, q1, q2⟩, q3⟩
  · rintro m meth c A a g mk v t L k n Y hp _ _ ⟨rfl, rfl, ⟨v', q3, q4⟩, q5⟩
    cases q3
    refine ⟨L, q4, rfl, rfl, rfl, (CHv.at Y hZ hEL H).trans ?_⟩
    rw [← hp.2.1]; exact q5
theorem own_callStW (X : Stand p l e R (s.setVm vm0) m args below meth c T locs cells slots) (hx : p.tables.exec = Jvm.exec) (hZ : Z.Warmed39 (s.setVm vm0).vm) {own : String} {index : Nat} {y : MethodName} {bytes : ByteArray} {maxL : Nat} {ret : Option FieldType} {rm : Room} {as' : Array Value} {sf : List Addr} {Q : Option Value → Heap → List Loc → Prop}
    (hown : (s.setVm vm0).vm.findClass own = some m.cls) (w1 : (Jvm.Cond.methodLink own index y).before a0 Z = true) (w2 : (Jvm.Cond.static y).before a0 Z = true) (w3 : (Jvm.Cond.initialized y.cls).before a0 Z = true) (w4 : (Jvm.Cond.code y bytes maxL ret).before a0 Z = true) (hy : y.cls ≠ "java/lang/invoke/MethodHandle" ∧ y.cls ≠ "java/lang/invoke/VarHandle")
    (hM : OConW l Z EL y bytes maxL ret [] rm as' h sf Q) (eT : T.heap = h) {W : Nat} (hf : rm.frames + 1 ≤ R.frames) (hl : W + (maxL + 11) + rm.locals ≤ R.locals) (hcl : cells + rm.cells ≤ R.cells) (hsl : slots + rm.slots ≤ R.slots)
    {pc : Nat} {ls : Array Slot} {stk : List Value} (hsize : ls.size = c.maxLocals) {argsL rest : List Value} (hlen : ∀ sig, parseMethodDescriptor y.desc = some sig → argsL.length = sig.parameters.length) (has : argsL.toArray = as') (hstack : stk = argsL.reverse ++ rest) (hW : (rest.map fun v => v.category).sum ≤ W)
    (hd : decode c.code pc = .ok (.invokestatic index, 3)) {k0 : Nat} (hS : s.Since vm0 k0) (hkk : k0 ≤ h.size) (hEL : EW Z a0 EL) {vmS : Vm} {hs0 : Heap} (hC : CHr Z EL vmS hs0 vm0 h) (hsf : ∀ x ∈ sf, x < h.size ∧ Safe Z EL vm0 h x) :
    ∃ v T' L, Stand p l e R (s.setVm T'.vm) m args below meth c T' (locs ++ L) (cells + rm.cells) (slots + rm.slots) ∧ Q v T'.heap L ∧ (∀ target, Steps p.tables e below (T'.setTop (mkF m (pc + 3) ls (v.toList ++ rest))) target → Steps p.tables e below (T.setTop (mkF m pc ls stk)) target) ∧
      s.Since T'.vm T'.heap.size ∧ Z.Warmed39 (s.setVm T'.vm).vm ∧ (s.setVm T'.vm).vm.findClass own = some m.cls ∧ CHr Z EL vm0 h T'.vm T'.heap := by
  subst has
  obtain ⟨v, vm₁, ⟨T', L', k', n'⟩, -, X', S', hg, ⟨L, hQ, l1, y1, z1, hc⟩, st⟩ := callSS X hx (y := y) hown (mvT hZ w1) (mvT hZ w2) (mvT hZ w3) (mvT hZ w4) hy (own_backW (W := W) hM hZ w4 w3 hf hl hEL hC.1 hsf) (g := mkF m pc ls stk) rfl hsize (argsL := argsL) (rest := rest) hlen hstack (by simpa using hW) hd (fun _ _ => ⟨rfl, eT, hcl, hsl⟩)
  dsimp only [Pt.U, Pt.locs, Pt.cells, Pt.slots] at X' l1 y1 z1 st hQ S' hg hc
  subst l1 y1 z1
  obtain ⟨X2, S2, Z2, o2⟩ := rebS hS hkk X' S' (by rw [← eT]; exact hg) hZ hown
  exact ⟨v, T', L, X2, hQ, fun t k => st.trans k, S2, Z2, o2, hc⟩
theorem own_callSpW (X : Stand p l e R (s.setVm vm0) m args below meth c T locs cells slots) (hx : p.tables.exec = Jvm.exec) (hZ : Z.Warmed39 (s.setVm vm0).vm) {own : String} {index : Nat} {y : MethodName} {bytes : ByteArray} {maxL : Nat} {rm : Room} {as' : Array Value} {sf : List Addr} {Q : Option Value → Heap → List Loc → Prop}
    (hy1 : y.name = "<init>") (hown : (s.setVm vm0).vm.findClass own = some m.cls) (w1 : (Jvm.Cond.methodLink own index y).before a0 Z = true) (w2 : (Jvm.Cond.instanceMethod y).before a0 Z = true) (w3 : (Jvm.Cond.initialized y.cls).before a0 Z = true) (w4 : (Jvm.Cond.code y bytes maxL none).before a0 Z = true) (hy : y.cls ≠ "java/lang/invoke/MethodHandle" ∧ y.cls ≠ "java/lang/invoke/VarHandle")
    (hM : OConW l Z EL y bytes maxL none [] rm as' h sf Q) (eT : T.heap = h) {W : Nat} (hf : rm.frames + 1 ≤ R.frames) (hl : W + (maxL + 11) + rm.locals ≤ R.locals) (hcl : cells + rm.cells ≤ R.cells) (hsl : slots + rm.slots ≤ R.slots)
    {pc : Nat} {ls : Array Slot} {stk : List Value} (hsize : ls.size = c.maxLocals) {a : Addr} {argsL rest : List Value} (hlen : ∀ sig, parseMethodDescriptor y.desc = some sig → argsL.length = sig.parameters.length) (has : (.ref a :: argsL).toArray = as') (hstack : stk = argsL.reverse ++ .ref a :: rest) (hW : (rest.map fun v => v.category).sum ≤ W)
    (hd : decode c.code pc = .ok (.invokespecial index, 3)) {k0 : Nat} (hS : s.Since vm0 k0) (hkk : k0 ≤ h.size) (hEL : EW Z a0 EL) {vmS : Vm} {hs0 : Heap} (hC : CHr Z EL vmS hs0 vm0 h) (hsf : ∀ x ∈ sf, x < h.size ∧ Safe Z EL vm0 h x) :
    ∃ v T' L, Stand p l e R (s.setVm T'.vm) m args below meth c T' (locs ++ L) (cells + rm.cells) (slots + rm.slots) ∧ Q v T'.heap L ∧ (∀ target, Steps p.tables e below (T'.setTop (mkF m (pc + 3) ls (v.toList ++ rest))) target → Steps p.tables e below (T.setTop (mkF m pc ls stk)) target) ∧
      s.Since T'.vm T'.heap.size ∧ Z.Warmed39 (s.setVm T'.vm).vm ∧ (s.setVm T'.vm).vm.findClass own = some m.cls ∧ CHr Z EL vm0 h T'.vm T'.heap := by
  subst has
  obtain ⟨v, vm₁, ⟨T', L', k', n'⟩, -, X', S', hg, ⟨L, hQ, l1, y1, z1, hc⟩, st⟩ := X.specialBackS hx (y := y) hy1 hown (mvT hZ w1) (mvT hZ w2) (mvT hZ w4) hy (own_backW (W := W) hM hZ w4 w3 hf hl hEL hC.1 hsf) (g := mkF m pc ls stk) rfl hsize (Steps.refl _) (a := a) (argsL := argsL) (rest := rest) hlen hstack (by simpa using hW) hd (fun _ _ => ⟨rfl, eT, hcl, hsl⟩)
  dsimp only [Pt.U, Pt.locs, Pt.cells, Pt.slots] at X' l1 y1 z1 st hQ S' hg hc
  subst l1 y1 z1
  obtain ⟨X2, S2, Z2, o2⟩ := rebS hS hkk X' S' (by rw [← eT]; exact hg) hZ hown
  exact ⟨v, T', L, X2, hQ, fun t k => st.trans k, S2, Z2, o2, hc⟩
end OwnW
section OwnStr
variable {Z : State} {h h' : Heap} {s x : Addr} {n : Int32} {a0 : Array Value} {C : String} {k : Nat}
/-- a String of n chars, whatever its coder -/
def OStr (Z : State) (h : Heap) (s : Addr) (n : Int32) : Prop := Exa Z h s "java/lang/String" ∧ ∃ (b : Addr) (cb : ClassId) (z cd : Int32) (vs : List Value), Fld Z h s "java/lang/String" "value" "[B" (.ref b) ∧ Fld Z h s "java/lang/String" "coder" "B" (.int cd) ∧ Arv Z h b cb .byte z vs (.int 0) ∧ (cd = 0 ∨ cd = 1) ∧ (z >>> (cd &&& 31)) = n
theorem OStr.lt (F : OStr Z h s n) : s < h.size := F.1.lt
theorem OStr.ext (F : OStr Z h s n) (E : Ext h h') : OStr Z h' s n := by
  obtain ⟨E1, b, cb, z, cd, vs, F1, F2, V, r⟩ := F
  exact ⟨E1.ext E, b, cb, z, cd, vs, F1.ext E, F2.ext E, V.ext E, r⟩
theorem OStr.keep0 (F : OStr Z h s n) (K : Keep h h' []) : OStr Z h' s n := by
  obtain ⟨E1, b, cb, z, cd, vs, F1, F2, V, r⟩ := F
  exact ⟨E1.keep K, b, cb, z, cd, vs, F1.keep K nin0, F2.keep K nin0, V.keep K nin0, r⟩
theorem OStr.keep1 (F : OStr Z h s n) (K : Keep h h' [x]) (E : Exa Z h x C) (w : (Jvm.Cond.instantiable C k).before a0 Z = true) (hne : C ≠ "java/lang/String") : OStr Z h' s n := by
  obtain ⟨E1, b, cb, z, cd, vs, F1, F2, V, r⟩ := F
  have n1 : s ∉ [x] := ninS (Ne.symm (E.ne E1 hne)) nin0
  have n2 : b ∉ [x] := ninS (Ne.symm (E.neArv V w)) nin0
  exact ⟨E1.keep K, b, cb, z, cd, vs, F1.keep K n1, F2.keep K n1, V.keep K n2, r⟩
theorem own_narnar (y : Int32) : nar .char (nar .char y) = nar .char y := by
  apply Int32.toInt_inj.mp
  have q1 := c_i2c y
  have q2 := c_i2c (nar .char y)
  have e1 : (nar .char y).toInt = y.toUInt32.toUInt16.toUInt32.toInt32.toInt := rfl
  have e2 : (nar .char (nar .char y)).toInt = (nar .char y).toUInt32.toUInt16.toUInt32.toInt32.toInt := rfl
  omega
theorem own_nb {x : Int32} (q : x = 0 ∨ x = 1) : narrow .byte (.int x) = .int x := by rcases q with rfl | rfl <;> rfl
end OwnStr
theorem ow0 {Z : State} {a0 : Array Value} (hw : ∀ d ∈ tables_1, d.before a0 Z = true) : (Jvm.Cond.methodLink "com/example/zonewright/zonewright/storage/PlanIndexBytesOfPinLaw" (12 : Nat) ({ cls := "com/example/zonewright/zonewright/storage/PlanIndex", name := "bytesOf", desc := "(Lcom/example/zonewright/zonewright/plan/Plan;)J" } : Jvm.MethodName)).before a0 Z = true := hw _ (List.mem_of_getElem? (i := 0) rfl)
theorem ow1 {Z : State} {a0 : Array Value} (hw : ∀ d ∈ tables_1, d.before a0 Z = true) : (Jvm.Cond.static ({ cls := "com/example/zonewright/zonewright/storage/PlanIndex", name := "bytesOf", desc := "(Lcom/example/zonewright/zonewright/plan/Plan;)J" } : Jvm.MethodName)).before a0 Z = true := hw _ (List.mem_of_getElem? (i := 1) rfl)
theorem ow2 {Z : State} {a0 : Array Value} (hw : ∀ d ∈ tables_1, d.before a0 Z = true) : (Jvm.Cond.initialized "com/example/zonewright/zonewright/storage/PlanIndex").before a0 Z = true := hw _ (List.mem_of_getElem? (i := 2) rfl)
theorem ow3 {Z : State} {a0 : Array Value} (hw : ∀ d ∈ tables_1, d.before a0 Z = true) : (Jvm.Cond.code ({ cls := "com/example/zonewright/zonewright/storage/PlanIndex", name := "bytesOf", desc := "(Lcom/example/zonewright/zonewright/plan/Plan;)J" } : Jvm.MethodName) prog_25_method_9_code (1 : Nat) (Option.some Jvm.ClassFile.FieldType.long)).before a0 Z = true := hw _ (List.mem_of_getElem? (i := 3) rfl)
theorem ow4 {Z : State} {a0 : Array Value} (hw : ∀ d ∈ tables_1, d.before a0 Z = true) : (Jvm.Cond.classLink "com/example/zonewright/zonewright/storage/PlanIndexBytesOfPinLaw" (18 : Nat) "com/example/zonewright/zonewright/plan/Plan").before a0 Z = true := hw _ (List.mem_of_getElem? (i := 4) rfl)
theorem ow5 {Z : State} {a0 : Array Value} (hw : ∀ d ∈ tables_1, d.before a0 Z = true) : (Jvm.Cond.instantiable "com/example/zonewright/zonewright/plan/Plan" (5 : Nat)).before a0 Z = true := hw _ (List.mem_of_getElem? (i := 5) rfl)
theorem ow6 {Z : State} {a0 : Array Value} (hw : ∀ d ∈ tables_1, d.before a0 Z = true) : (Jvm.Cond.initialized "com/example/zonewright/zonewright/plan/Plan").before a0 Z = true := hw _ (List.mem_of_getElem? (i := 6) rfl)
theorem ow7 {Z : State} {a0 : Array Value} (hw : ∀ d ∈ tables_1, d.before a0 Z = true) : (Jvm.Cond.methodLink "com/example/zonewright/zonewright/storage/PlanIndexBytesOfPinLaw" (20 : Nat) ({ cls := "com/example/zonewright/zonewright/storage/PlanIndexBytesOfPinLaw", name := "str", desc := "(I)Ljava/lang/String;" } : Jvm.MethodName)).before a0 Z = true := hw _ (List.mem_of_getElem? (i := 7) rfl)
theorem ow8 {Z : State} {a0 : Array Value} (hw : ∀ d ∈ tables_1, d.before a0 Z = true) : (Jvm.Cond.static ({ cls := "com/example/zonewright/zonewright/storage/PlanIndexBytesOfPinLaw", name := "str", desc := "(I)Ljava/lang/String;" } : Jvm.MethodName)).before a0 Z = true := hw _ (List.mem_of_getElem? (i := 8) rfl)
theorem ow9 {Z : State} {a0 : Array Value} (hw : ∀ d ∈ tables_1, d.before a0 Z = true) : (Jvm.Cond.initialized "com/example/zonewright/zonewright/storage/PlanIndexBytesOfPinLaw").before a0 Z = true := hw _ (List.mem_of_getElem? (i := 9) rfl)
theorem ow10 {Z : State} {a0 : Array Value} (hw : ∀ d ∈ tables_1, d.before a0 Z = true) : (Jvm.Cond.code ({ cls := "com/example/zonewright/zonewright/storage/PlanIndexBytesOfPinLaw", name := "str", desc := "(I)Ljava/lang/String;" } : Jvm.MethodName) method_3_code (4 : Nat) (Option.some (Jvm.ClassFile.FieldType.object "java/lang/String"))).before a0 Z = true := hw _ (List.mem_of_getElem? (i := 10) rfl)
theorem ow11 {Z : State} {a0 : Array Value} (hw : ∀ d ∈ tables_1, d.before a0 Z = true) : (Jvm.Cond.classLink "com/example/zonewright/zonewright/storage/PlanIndexBytesOfPinLaw" (7 : Nat) "java/lang/String").before a0 Z = true := hw _ (List.mem_of_getElem? (i := 11) rfl)
theorem ow12 {Z : State} {a0 : Array Value} (hw : ∀ d ∈ tables_1, d.before a0 Z = true) : (Jvm.Cond.instantiable "java/lang/String" (4 : Nat)).before a0 Z = true := hw _ (List.mem_of_getElem? (i := 12) rfl)
theorem ow13 {Z : State} {a0 : Array Value} (hw : ∀ d ∈ tables_1, d.before a0 Z = true) : (Jvm.Cond.initialized "java/lang/String").before a0 Z = true := hw _ (List.mem_of_getElem? (i := 13) rfl)
theorem ow14 {Z : State} {a0 : Array Value} (hw : ∀ d ∈ tables_1, d.before a0 Z = true) : (Jvm.Cond.arrayClass Jvm.ClassFile.FieldType.char).before a0 Z = true := hw _ (List.mem_of_getElem? (i := 14) rfl)
theorem ow15 {Z : State} {a0 : Array Value} (hw : ∀ d ∈ tables_1, d.before a0 Z = true) : (Jvm.Cond.methodLink "com/example/zonewright/zonewright/storage/PlanIndexBytesOfPinLaw" (9 : Nat) ({ cls := "java/lang/String", name := "<init>", desc := "([C)V" } : Jvm.MethodName)).before a0 Z = true := hw _ (List.mem_of_getElem? (i := 15) rfl)
theorem ow16 {Z : State} {a0 : Array Value} (hw : ∀ d ∈ tables_1, d.before a0 Z = true) : (Jvm.Cond.instanceMethod ({ cls := "java/lang/String", name := "<init>", desc := "([C)V" } : Jvm.MethodName)).before a0 Z = true := hw _ (List.mem_of_getElem? (i := 16) rfl)
theorem ow17 {Z : State} {a0 : Array Value} (hw : ∀ d ∈ tables_1, d.before a0 Z = true) : (Jvm.Cond.code ({ cls := "java/lang/String", name := "<init>", desc := "([C)V" } : Jvm.MethodName) jdk_42_method_3_code (2 : Nat) (Option.none : Option Jvm.ClassFile.FieldType)).before a0 Z = true := hw _ (List.mem_of_getElem? (i := 17) rfl)
theorem ow18 {Z : State} {a0 : Array Value} (hw : ∀ d ∈ tables_1, d.before a0 Z = true) : (Jvm.Cond.methodLink "java/lang/String" (27 : Nat) ({ cls := "java/lang/String", name := "<init>", desc := "([CIILjava/lang/Void;)V" } : Jvm.MethodName)).before a0 Z = true := hw _ (List.mem_of_getElem? (i := 18) rfl)
theorem ow19 {Z : State} {a0 : Array Value} (hw : ∀ d ∈ tables_1, d.before a0 Z = true) : (Jvm.Cond.instanceMethod ({ cls := "java/lang/String", name := "<init>", desc := "([CIILjava/lang/Void;)V" } : Jvm.MethodName)).before a0 Z = true := hw _ (List.mem_of_getElem? (i := 19) rfl)
theorem ow21 {Z : State} {a0 : Array Value} (hw : ∀ d ∈ tables_1, d.before a0 Z = true) : (Jvm.Cond.code ({ cls := "java/lang/String", name := "<init>", desc := "([CIILjava/lang/Void;)V" } : Jvm.MethodName) jdk_42_method_149_code (6 : Nat) (Option.none : Option Jvm.ClassFile.FieldType)).before a0 Z = true := hw _ (List.mem_of_getElem? (i := 21) rfl)
theorem ow22 {Z : State} {a0 : Array Value} (hw : ∀ d ∈ tables_1, d.before a0 Z = true) : (Jvm.Cond.methodLink "java/lang/String" (1 : Nat) ({ cls := "java/lang/Object", name := "<init>", desc := "()V" } : Jvm.MethodName)).before a0 Z = true := hw _ (List.mem_of_getElem? (i := 22) rfl)
theorem ow23 {Z : State} {a0 : Array Value} (hw : ∀ d ∈ tables_1, d.before a0 Z = true) : (Jvm.Cond.instanceMethod ({ cls := "java/lang/Object", name := "<init>", desc := "()V" } : Jvm.MethodName)).before a0 Z = true := hw _ (List.mem_of_getElem? (i := 23) rfl)
theorem ow24 {Z : State} {a0 : Array Value} (hw : ∀ d ∈ tables_1, d.before a0 Z = true) : (Jvm.Cond.code ({ cls := "java/lang/Object", name := "<init>", desc := "()V" } : Jvm.MethodName) object_method_1_code (1 : Nat) (Option.none : Option Jvm.ClassFile.FieldType)).before a0 Z = true := hw _ (List.mem_of_getElem? (i := 24) rfl)
theorem ow25 {Z : State} {a0 : Array Value} (hw : ∀ d ∈ tables_1, d.before a0 Z = true) : (Jvm.Cond.stringLink "java/lang/String" (7 : Nat) "").before a0 Z = true := hw _ (List.mem_of_getElem? (i := 25) rfl)
theorem ow26 {Z : State} {a0 : Array Value} (hw : ∀ d ∈ tables_1, d.before a0 Z = true) : (Jvm.Cond.arrayClass Jvm.ClassFile.FieldType.byte).before a0 Z = true := hw _ (List.mem_of_getElem? (i := 26) rfl)
theorem ow27 {Z : State} {a0 : Array Value} (hw : ∀ d ∈ tables_1, d.before a0 Z = true) : (Jvm.Cond.laysFinal "java/lang/String" "java/lang/String" "value" "[B").before a0 Z = true := hw _ (List.mem_of_getElem? (i := 27) rfl)
theorem ow28 {Z : State} {a0 : Array Value} (hw : ∀ d ∈ tables_1, d.before a0 Z = true) : (Jvm.Cond.laysFinal "java/lang/String" "java/lang/String" "coder" "B").before a0 Z = true := hw _ (List.mem_of_getElem? (i := 28) rfl)
theorem ow29 {Z : State} {a0 : Array Value} (hw : ∀ d ∈ tables_1, d.before a0 Z = true) : (Jvm.Cond.soleField "java/lang/String" "value").before a0 Z = true := hw _ (List.mem_of_getElem? (i := 29) rfl)
theorem ow30 {Z : State} {a0 : Array Value} (hw : ∀ d ∈ tables_1, d.before a0 Z = true) : (Jvm.Cond.soleField "java/lang/String" "coder").before a0 Z = true := hw _ (List.mem_of_getElem? (i := 30) rfl)
theorem ow31 {Z : State} {a0 : Array Value} (hw : ∀ d ∈ tables_1, d.before a0 Z = true) : (Jvm.Cond.fieldLink "java/lang/String" (9 : Nat) "java/lang/String" "value" "[B").before a0 Z = true := hw _ (List.mem_of_getElem? (i := 31) rfl)
theorem ow32 {Z : State} {a0 : Array Value} (hw : ∀ d ∈ tables_1, d.before a0 Z = true) : (Jvm.Cond.fieldLink "java/lang/String" (15 : Nat) "java/lang/String" "coder" "B").before a0 Z = true := hw _ (List.mem_of_getElem? (i := 32) rfl)
theorem ow33 {Z : State} {a0 : Array Value} (hw : ∀ d ∈ tables_1, d.before a0 Z = true) : (Jvm.Cond.fieldLink "java/lang/String" (38 : Nat) "java/lang/String" "COMPACT_STRINGS" "Z").before a0 Z = true := hw _ (List.mem_of_getElem? (i := 33) rfl)
theorem ow34 {Z : State} {a0 : Array Value} (hw : ∀ d ∈ tables_1, d.before a0 Z = true) : (Jvm.Cond.methodLink "java/lang/String" (177 : Nat) ({ cls := "java/lang/StringUTF16", name := "compress", desc := "([CII)[B" } : Jvm.MethodName)).before a0 Z = true := hw _ (List.mem_of_getElem? (i := 34) rfl)
theorem ow35 {Z : State} {a0 : Array Value} (hw : ∀ d ∈ tables_1, d.before a0 Z = true) : (Jvm.Cond.static ({ cls := "java/lang/StringUTF16", name := "compress", desc := "([CII)[B" } : Jvm.MethodName)).before a0 Z = true := hw _ (List.mem_of_getElem? (i := 35) rfl)
theorem ow36 {Z : State} {a0 : Array Value} (hw : ∀ d ∈ tables_1, d.before a0 Z = true) : (Jvm.Cond.initialized "java/lang/StringUTF16").before a0 Z = true := hw _ (List.mem_of_getElem? (i := 36) rfl)
theorem ow37 {Z : State} {a0 : Array Value} (hw : ∀ d ∈ tables_1, d.before a0 Z = true) : (Jvm.Cond.code ({ cls := "java/lang/StringUTF16", name := "compress", desc := "([CII)[B" } : Jvm.MethodName) jdk_52_method_16_code (6 : Nat) (Option.some (Jvm.ClassFile.FieldType.array Jvm.ClassFile.FieldType.byte))).before a0 Z = true := hw _ (List.mem_of_getElem? (i := 37) rfl)
theorem ow38 {Z : State} {a0 : Array Value} (hw : ∀ d ∈ tables_1, d.before a0 Z = true) : (Jvm.Cond.methodLink "java/lang/StringUTF16" (115 : Nat) ({ cls := "java/lang/StringUTF16", name := "compress", desc := "([CI[BII)I" } : Jvm.MethodName)).before a0 Z = true := hw _ (List.mem_of_getElem? (i := 38) rfl)
theorem ow39 {Z : State} {a0 : Array Value} (hw : ∀ d ∈ tables_1, d.before a0 Z = true) : (Jvm.Cond.static ({ cls := "java/lang/StringUTF16", name := "compress", desc := "([CI[BII)I" } : Jvm.MethodName)).before a0 Z = true := hw _ (List.mem_of_getElem? (i := 39) rfl)
theorem ow40 {Z : State} {a0 : Array Value} (hw : ∀ d ∈ tables_1, d.before a0 Z = true) : (Jvm.Cond.code ({ cls := "java/lang/StringUTF16", name := "compress", desc := "([CI[BII)I" } : Jvm.MethodName) jdk_52_method_21_code (7 : Nat) (Option.some Jvm.ClassFile.FieldType.int)).before a0 Z = true := hw _ (List.mem_of_getElem? (i := 40) rfl)
theorem ow41 {Z : State} {a0 : Array Value} (hw : ∀ d ∈ tables_1, d.before a0 Z = true) : (Jvm.Cond.methodLink "java/lang/String" (47 : Nat) ({ cls := "java/lang/StringUTF16", name := "coderFromArrayLen", desc := "([BI)B" } : Jvm.MethodName)).before a0 Z = true := hw _ (List.mem_of_getElem? (i := 41) rfl)
theorem ow42 {Z : State} {a0 : Array Value} (hw : ∀ d ∈ tables_1, d.before a0 Z = true) : (Jvm.Cond.static ({ cls := "java/lang/StringUTF16", name := "coderFromArrayLen", desc := "([BI)B" } : Jvm.MethodName)).before a0 Z = true := hw _ (List.mem_of_getElem? (i := 42) rfl)
theorem ow43 {Z : State} {a0 : Array Value} (hw : ∀ d ∈ tables_1, d.before a0 Z = true) : (Jvm.Cond.code ({ cls := "java/lang/StringUTF16", name := "coderFromArrayLen", desc := "([BI)B" } : Jvm.MethodName) jdk_52_method_15_code (2 : Nat) (Option.some Jvm.ClassFile.FieldType.byte)).before a0 Z = true := hw _ (List.mem_of_getElem? (i := 43) rfl)
theorem ow44 {Z : State} {a0 : Array Value} (hw : ∀ d ∈ tables_1, d.before a0 Z = true) : (Jvm.Cond.methodLink "com/example/zonewright/zonewright/storage/PlanIndexBytesOfPinLaw" (26 : Nat) ({ cls := "com/example/zonewright/zonewright/plan/Plan", name := "<init>", desc := "(Ljava/lang/String;Ljava/lang/String;Ljava/lang/String;Ljava/lang/String;Ljava/lang/String;)V" } : Jvm.MethodName)).before a0 Z = true := hw _ (List.mem_of_getElem? (i := 44) rfl)
theorem ow45 {Z : State} {a0 : Array Value} (hw : ∀ d ∈ tables_1, d.before a0 Z = true) : (Jvm.Cond.instanceMethod ({ cls := "com/example/zonewright/zonewright/plan/Plan", name := "<init>", desc := "(Ljava/lang/String;Ljava/lang/String;Ljava/lang/String;Ljava/lang/String;Ljava/lang/String;)V" } : Jvm.MethodName)).before a0 Z = true := hw _ (List.mem_of_getElem? (i := 45) rfl)
theorem ow46 {Z : State} {a0 : Array Value} (hw : ∀ d ∈ tables_1, d.before a0 Z = true) : (Jvm.Cond.code ({ cls := "com/example/zonewright/zonewright/plan/Plan", name := "<init>", desc := "(Ljava/lang/String;Ljava/lang/String;Ljava/lang/String;Ljava/lang/String;Ljava/lang/String;)V" } : Jvm.MethodName) prog_20_method_1_code (6 : Nat) (Option.none : Option Jvm.ClassFile.FieldType)).before a0 Z = true := hw _ (List.mem_of_getElem? (i := 46) rfl)
theorem ow47 {Z : State} {a0 : Array Value} (hw : ∀ d ∈ tables_1, d.before a0 Z = true) : (Jvm.Cond.methodLink "com/example/zonewright/zonewright/plan/Plan" (1 : Nat) ({ cls := "java/lang/Object", name := "<init>", desc := "()V" } : Jvm.MethodName)).before a0 Z = true := hw _ (List.mem_of_getElem? (i := 47) rfl)
theorem ow48 {Z : State} {a0 : Array Value} (hw : ∀ d ∈ tables_1, d.before a0 Z = true) : (Jvm.Cond.fieldLink "com/example/zonewright/zonewright/plan/Plan" (7 : Nat) "com/example/zonewright/zonewright/plan/Plan" "id" "Ljava/lang/String;").before a0 Z = true := hw _ (List.mem_of_getElem? (i := 48) rfl)
theorem ow49 {Z : State} {a0 : Array Value} (hw : ∀ d ∈ tables_1, d.before a0 Z = true) : (Jvm.Cond.laysFinal "com/example/zonewright/zonewright/plan/Plan" "com/example/zonewright/zonewright/plan/Plan" "id" "Ljava/lang/String;").before a0 Z = true := hw _ (List.mem_of_getElem? (i := 49) rfl)
theorem ow50 {Z : State} {a0 : Array Value} (hw : ∀ d ∈ tables_1, d.before a0 Z = true) : (Jvm.Cond.fieldLink "com/example/zonewright/zonewright/plan/Plan" (13 : Nat) "com/example/zonewright/zonewright/plan/Plan" "name" "Ljava/lang/String;").before a0 Z = true := hw _ (List.mem_of_getElem? (i := 50) rfl)
theorem ow51 {Z : State} {a0 : Array Value} (hw : ∀ d ∈ tables_1, d.before a0 Z = true) : (Jvm.Cond.laysFinal "com/example/zonewright/zonewright/plan/Plan" "com/example/zonewright/zonewright/plan/Plan" "name" "Ljava/lang/String;").before a0 Z = true := hw _ (List.mem_of_getElem? (i := 51) rfl)
theorem ow52 {Z : State} {a0 : Array Value} (hw : ∀ d ∈ tables_1, d.before a0 Z = true) : (Jvm.Cond.fieldLink "com/example/zonewright/zonewright/plan/Plan" (16 : Nat) "com/example/zonewright/zonewright/plan/Plan" "description" "Ljava/lang/String;").before a0 Z = true := hw _ (List.mem_of_getElem? (i := 52) rfl)
theorem ow53 {Z : State} {a0 : Array Value} (hw : ∀ d ∈ tables_1, d.before a0 Z = true) : (Jvm.Cond.laysFinal "com/example/zonewright/zonewright/plan/Plan" "com/example/zonewright/zonewright/plan/Plan" "description" "Ljava/lang/String;").before a0 Z = true := hw _ (List.mem_of_getElem? (i := 53) rfl)
theorem ow54 {Z : State} {a0 : Array Value} (hw : ∀ d ∈ tables_1, d.before a0 Z = true) : (Jvm.Cond.fieldLink "com/example/zonewright/zonewright/plan/Plan" (19 : Nat) "com/example/zonewright/zonewright/plan/Plan" "authDomain" "Ljava/lang/String;").before a0 Z = true := hw _ (List.mem_of_getElem? (i := 54) rfl)
theorem ow55 {Z : State} {a0 : Array Value} (hw : ∀ d ∈ tables_1, d.before a0 Z = true) : (Jvm.Cond.laysFinal "com/example/zonewright/zonewright/plan/Plan" "com/example/zonewright/zonewright/plan/Plan" "authDomain" "Ljava/lang/String;").before a0 Z = true := hw _ (List.mem_of_getElem? (i := 55) rfl)
theorem ow56 {Z : State} {a0 : Array Value} (hw : ∀ d ∈ tables_1, d.before a0 Z = true) : (Jvm.Cond.fieldLink "com/example/zonewright/zonewright/plan/Plan" (22 : Nat) "com/example/zonewright/zonewright/plan/Plan" "instanceName" "Ljava/lang/String;").before a0 Z = true := hw _ (List.mem_of_getElem? (i := 56) rfl)
theorem ow57 {Z : State} {a0 : Array Value} (hw : ∀ d ∈ tables_1, d.before a0 Z = true) : (Jvm.Cond.laysFinal "com/example/zonewright/zonewright/plan/Plan" "com/example/zonewright/zonewright/plan/Plan" "instanceName" "Ljava/lang/String;").before a0 Z = true := hw _ (List.mem_of_getElem? (i := 57) rfl)
theorem ow58 {Z : State} {a0 : Array Value} (hw : ∀ d ∈ tables_1, d.before a0 Z = true) : (Jvm.Cond.methodLink "com/example/zonewright/zonewright/storage/PlanIndexBytesOfPinLaw" (29 : Nat) ({ cls := "com/example/zonewright/zonewright/storage/PlanIndexBytesOfPinLaw", name := "len", desc := "(I)I" } : Jvm.MethodName)).before a0 Z = true := hw _ (List.mem_of_getElem? (i := 58) rfl)
theorem ow59 {Z : State} {a0 : Array Value} (hw : ∀ d ∈ tables_1, d.before a0 Z = true) : (Jvm.Cond.static ({ cls := "com/example/zonewright/zonewright/storage/PlanIndexBytesOfPinLaw", name := "len", desc := "(I)I" } : Jvm.MethodName)).before a0 Z = true := hw _ (List.mem_of_getElem? (i := 59) rfl)
theorem ow60 {Z : State} {a0 : Array Value} (hw : ∀ d ∈ tables_1, d.before a0 Z = true) : (Jvm.Cond.code ({ cls := "com/example/zonewright/zonewright/storage/PlanIndexBytesOfPinLaw", name := "len", desc := "(I)I" } : Jvm.MethodName) method_2_code (1 : Nat) (Option.some Jvm.ClassFile.FieldType.int)).before a0 Z = true := hw _ (List.mem_of_getElem? (i := 60) rfl)
theorem ow61 {Z : State} {a0 : Array Value} (hw : ∀ d ∈ tables_1, d.before a0 Z = true) : (Jvm.Cond.constantLong "com/example/zonewright/zonewright/storage/PlanIndexBytesOfPinLaw" (33 : Nat) (544 : Int64)).before a0 Z = true := hw _ (List.mem_of_getElem? (i := 61) rfl)
theorem ow62 {Z : State} {a0 : Array Value} (hw : ∀ d ∈ tables_1, d.before a0 Z = true) : (Jvm.Cond.constantLong "com/example/zonewright/zonewright/storage/PlanIndexBytesOfPinLaw" (35 : Nat) (2 : Int64)).before a0 Z = true := hw _ (List.mem_of_getElem? (i := 62) rfl)
theorem ow63 {Z : State} {a0 : Array Value} (hw : ∀ d ∈ tables_1, d.before a0 Z = true) : (Jvm.Cond.constantLong "com/example/zonewright/zonewright/storage/PlanIndex" (106 : Nat) (224 : Int64)).before a0 Z = true := hw _ (List.mem_of_getElem? (i := 63) rfl)
theorem ow64 {Z : State} {a0 : Array Value} (hw : ∀ d ∈ tables_1, d.before a0 Z = true) : (Jvm.Cond.methodLink "com/example/zonewright/zonewright/storage/PlanIndex" (62 : Nat) ({ cls := "com/example/zonewright/zonewright/plan/Plan", name := "getId", desc := "()Ljava/lang/String;" } : Jvm.MethodName)).before a0 Z = true := hw _ (List.mem_of_getElem? (i := 64) rfl)
theorem ow65 {Z : State} {a0 : Array Value} (hw : ∀ d ∈ tables_1, d.before a0 Z = true) : (Jvm.Cond.declares ({ cls := "com/example/zonewright/zonewright/plan/Plan", name := "getId", desc := "()Ljava/lang/String;" } : Jvm.MethodName)).before a0 Z = true := hw _ (List.mem_of_getElem? (i := 65) rfl)
theorem ow66 {Z : State} {a0 : Array Value} (hw : ∀ d ∈ tables_1, d.before a0 Z = true) : (Jvm.Cond.instanceMethod ({ cls := "com/example/zonewright/zonewright/plan/Plan", name := "getId", desc := "()Ljava/lang/String;" } : Jvm.MethodName)).before a0 Z = true := hw _ (List.mem_of_getElem? (i := 66) rfl)
theorem ow67 {Z : State} {a0 : Array Value} (hw : ∀ d ∈ tables_1, d.before a0 Z = true) : (Jvm.Cond.selects "com/example/zonewright/zonewright/plan/Plan" ({ cls := "com/example/zonewright/zonewright/plan/Plan", name := "getId", desc := "()Ljava/lang/String;" } : Jvm.MethodName) ({ cls := "com/example/zonewright/zonewright/plan/Plan", name := "getId", desc := "()Ljava/lang/String;" } : Jvm.MethodName)).before a0 Z = true := hw _ (List.mem_of_getElem? (i := 67) rfl)
theorem ow68 {Z : State} {a0 : Array Value} (hw : ∀ d ∈ tables_1, d.before a0 Z = true) : (Jvm.Cond.code ({ cls := "com/example/zonewright/zonewright/plan/Plan", name := "getId", desc := "()Ljava/lang/String;" } : Jvm.MethodName) prog_20_method_2_code (1 : Nat) (Option.some (Jvm.ClassFile.FieldType.object "java/lang/String"))).before a0 Z = true := hw _ (List.mem_of_getElem? (i := 68) rfl)
theorem ow69 {Z : State} {a0 : Array Value} (hw : ∀ d ∈ tables_1, d.before a0 Z = true) : (Jvm.Cond.methodLink "com/example/zonewright/zonewright/storage/PlanIndex" (108 : Nat) ({ cls := "com/example/zonewright/zonewright/storage/PlanIndex", name := "fieldBytes", desc := "(Ljava/lang/String;)J" } : Jvm.MethodName)).before a0 Z = true := hw _ (List.mem_of_getElem? (i := 69) rfl)
theorem ow70 {Z : State} {a0 : Array Value} (hw : ∀ d ∈ tables_1, d.before a0 Z = true) : (Jvm.Cond.static ({ cls := "com/example/zonewright/zonewright/storage/PlanIndex", name := "fieldBytes", desc := "(Ljava/lang/String;)J" } : Jvm.MethodName)).before a0 Z = true := hw _ (List.mem_of_getElem? (i := 70) rfl)
theorem ow71 {Z : State} {a0 : Array Value} (hw : ∀ d ∈ tables_1, d.before a0 Z = true) : (Jvm.Cond.code ({ cls := "com/example/zonewright/zonewright/storage/PlanIndex", name := "fieldBytes", desc := "(Ljava/lang/String;)J" } : Jvm.MethodName) prog_25_method_10_code (1 : Nat) (Option.some Jvm.ClassFile.FieldType.long)).before a0 Z = true := hw _ (List.mem_of_getElem? (i := 71) rfl)
theorem ow72 {Z : State} {a0 : Array Value} (hw : ∀ d ∈ tables_1, d.before a0 Z = true) : (Jvm.Cond.constantLong "com/example/zonewright/zonewright/storage/PlanIndex" (124 : Nat) (64 : Int64)).before a0 Z = true := hw _ (List.mem_of_getElem? (i := 72) rfl)
theorem ow73 {Z : State} {a0 : Array Value} (hw : ∀ d ∈ tables_1, d.before a0 Z = true) : (Jvm.Cond.constantLong "com/example/zonewright/zonewright/storage/PlanIndex" (126 : Nat) (2 : Int64)).before a0 Z = true := hw _ (List.mem_of_getElem? (i := 73) rfl)
theorem ow74 {Z : State} {a0 : Array Value} (hw : ∀ d ∈ tables_1, d.before a0 Z = true) : (Jvm.Cond.methodLink "com/example/zonewright/zonewright/storage/PlanIndex" (128 : Nat) ({ cls := "java/lang/String", name := "length", desc := "()I" } : Jvm.MethodName)).before a0 Z = true := hw _ (List.mem_of_getElem? (i := 74) rfl)
theorem ow75 {Z : State} {a0 : Array Value} (hw : ∀ d ∈ tables_1, d.before a0 Z = true) : (Jvm.Cond.declares ({ cls := "java/lang/String", name := "length", desc := "()I" } : Jvm.MethodName)).before a0 Z = true := hw _ (List.mem_of_getElem? (i := 75) rfl)
theorem ow76 {Z : State} {a0 : Array Value} (hw : ∀ d ∈ tables_1, d.before a0 Z = true) : (Jvm.Cond.instanceMethod ({ cls := "java/lang/String", name := "length", desc := "()I" } : Jvm.MethodName)).before a0 Z = true := hw _ (List.mem_of_getElem? (i := 76) rfl)
theorem ow77 {Z : State} {a0 : Array Value} (hw : ∀ d ∈ tables_1, d.before a0 Z = true) : (Jvm.Cond.selects "java/lang/String" ({ cls := "java/lang/String", name := "length", desc := "()I" } : Jvm.MethodName) ({ cls := "java/lang/String", name := "length", desc := "()I" } : Jvm.MethodName)).before a0 Z = true := hw _ (List.mem_of_getElem? (i := 77) rfl)
theorem ow78 {Z : State} {a0 : Array Value} (hw : ∀ d ∈ tables_1, d.before a0 Z = true) : (Jvm.Cond.code ({ cls := "java/lang/String", name := "length", desc := "()I" } : Jvm.MethodName) jdk_42_method_54_code (1 : Nat) (Option.some Jvm.ClassFile.FieldType.int)).before a0 Z = true := hw _ (List.mem_of_getElem? (i := 78) rfl)
theorem ow79 {Z : State} {a0 : Array Value} (hw : ∀ d ∈ tables_1, d.before a0 Z = true) : (Jvm.Cond.methodLink "java/lang/String" (335 : Nat) ({ cls := "java/lang/String", name := "coder", desc := "()B" } : Jvm.MethodName)).before a0 Z = true := hw _ (List.mem_of_getElem? (i := 79) rfl)
theorem ow80 {Z : State} {a0 : Array Value} (hw : ∀ d ∈ tables_1, d.before a0 Z = true) : (Jvm.Cond.declares ({ cls := "java/lang/String", name := "coder", desc := "()B" } : Jvm.MethodName)).before a0 Z = true := hw _ (List.mem_of_getElem? (i := 80) rfl)
theorem ow81 {Z : State} {a0 : Array Value} (hw : ∀ d ∈ tables_1, d.before a0 Z = true) : (Jvm.Cond.instanceMethod ({ cls := "java/lang/String", name := "coder", desc := "()B" } : Jvm.MethodName)).before a0 Z = true := hw _ (List.mem_of_getElem? (i := 81) rfl)
theorem ow82 {Z : State} {a0 : Array Value} (hw : ∀ d ∈ tables_1, d.before a0 Z = true) : (Jvm.Cond.selects "java/lang/String" ({ cls := "java/lang/String", name := "coder", desc := "()B" } : Jvm.MethodName) ({ cls := "java/lang/String", name := "coder", desc := "()B" } : Jvm.MethodName)).before a0 Z = true := hw _ (List.mem_of_getElem? (i := 82) rfl)
theorem ow83 {Z : State} {a0 : Array Value} (hw : ∀ d ∈ tables_1, d.before a0 Z = true) : (Jvm.Cond.code ({ cls := "java/lang/String", name := "coder", desc := "()B" } : Jvm.MethodName) jdk_42_method_152_code (1 : Nat) (Option.some Jvm.ClassFile.FieldType.byte)).before a0 Z = true := hw _ (List.mem_of_getElem? (i := 83) rfl)
theorem ow84 {Z : State} {a0 : Array Value} (hw : ∀ d ∈ tables_1, d.before a0 Z = true) : (Jvm.Cond.methodLink "com/example/zonewright/zonewright/storage/PlanIndex" (112 : Nat) ({ cls := "com/example/zonewright/zonewright/plan/Plan", name := "getName", desc := "()Ljava/lang/String;" } : Jvm.MethodName)).before a0 Z = true := hw _ (List.mem_of_getElem? (i := 84) rfl)
theorem ow85 {Z : State} {a0 : Array Value} (hw : ∀ d ∈ tables_1, d.before a0 Z = true) : (Jvm.Cond.declares ({ cls := "com/example/zonewright/zonewright/plan/Plan", name := "getName", desc := "()Ljava/lang/String;" } : Jvm.MethodName)).before a0 Z = true := hw _ (List.mem_of_getElem? (i := 85) rfl)
theorem ow86 {Z : State} {a0 : Array Value} (hw : ∀ d ∈ tables_1, d.before a0 Z = true) : (Jvm.Cond.instanceMethod ({ cls := "com/example/zonewright/zonewright/plan/Plan", name := "getName", desc := "()Ljava/lang/String;" } : Jvm.MethodName)).before a0 Z = true := hw _ (List.mem_of_getElem? (i := 86) rfl)
theorem ow87 {Z : State} {a0 : Array Value} (hw : ∀ d ∈ tables_1, d.before a0 Z = true) : (Jvm.Cond.selects "com/example/zonewright/zonewright/plan/Plan" ({ cls := "com/example/zonewright/zonewright/plan/Plan", name := "getName", desc := "()Ljava/lang/String;" } : Jvm.MethodName) ({ cls := "com/example/zonewright/zonewright/plan/Plan", name := "getName", desc := "()Ljava/lang/String;" } : Jvm.MethodName)).before a0 Z = true := hw _ (List.mem_of_getElem? (i := 87) rfl)
theorem ow88 {Z : State} {a0 : Array Value} (hw : ∀ d ∈ tables_1, d.before a0 Z = true) : (Jvm.Cond.code ({ cls := "com/example/zonewright/zonewright/plan/Plan", name := "getName", desc := "()Ljava/lang/String;" } : Jvm.MethodName) prog_20_method_3_code (1 : Nat) (Option.some (Jvm.ClassFile.FieldType.object "java/lang/String"))).before a0 Z = true := hw _ (List.mem_of_getElem? (i := 88) rfl)
theorem ow89 {Z : State} {a0 : Array Value} (hw : ∀ d ∈ tables_1, d.before a0 Z = true) : (Jvm.Cond.methodLink "com/example/zonewright/zonewright/storage/PlanIndex" (115 : Nat) ({ cls := "com/example/zonewright/zonewright/plan/Plan", name := "getDescription", desc := "()Ljava/lang/String;" } : Jvm.MethodName)).before a0 Z = true := hw _ (List.mem_of_getElem? (i := 89) rfl)
theorem ow90 {Z : State} {a0 : Array Value} (hw : ∀ d ∈ tables_1, d.before a0 Z = true) : (Jvm.Cond.declares ({ cls := "com/example/zonewright/zonewright/plan/Plan", name := "getDescription", desc := "()Ljava/lang/String;" } : Jvm.MethodName)).before a0 Z = true := hw _ (List.mem_of_getElem? (i := 90) rfl)
theorem ow91 {Z : State} {a0 : Array Value} (hw : ∀ d ∈ tables_1, d.before a0 Z = true) : (Jvm.Cond.instanceMethod ({ cls := "com/example/zonewright/zonewright/plan/Plan", name := "getDescription", desc := "()Ljava/lang/String;" } : Jvm.MethodName)).before a0 Z = true := hw _ (List.mem_of_getElem? (i := 91) rfl)
theorem ow92 {Z : State} {a0 : Array Value} (hw : ∀ d ∈ tables_1, d.before a0 Z = true) : (Jvm.Cond.selects "com/example/zonewright/zonewright/plan/Plan" ({ cls := "com/example/zonewright/zonewright/plan/Plan", name := "getDescription", desc := "()Ljava/lang/String;" } : Jvm.MethodName) ({ cls := "com/example/zonewright/zonewright/plan/Plan", name := "getDescription", desc := "()Ljava/lang/String;" } : Jvm.MethodName)).before a0 Z = true := hw _ (List.mem_of_getElem? (i := 92) rfl)
theorem ow93 {Z : State} {a0 : Array Value} (hw : ∀ d ∈ tables_1, d.before a0 Z = true) : (Jvm.Cond.code ({ cls := "com/example/zonewright/zonewright/plan/Plan", name := "getDescription", desc := "()Ljava/lang/String;" } : Jvm.MethodName) prog_20_method_4_code (1 : Nat) (Option.some (Jvm.ClassFile.FieldType.object "java/lang/String"))).before a0 Z = true := hw _ (List.mem_of_getElem? (i := 93) rfl)
theorem ow94 {Z : State} {a0 : Array Value} (hw : ∀ d ∈ tables_1, d.before a0 Z = true) : (Jvm.Cond.methodLink "com/example/zonewright/zonewright/storage/PlanIndex" (118 : Nat) ({ cls := "com/example/zonewright/zonewright/plan/Plan", name := "getAuthDomain", desc := "()Ljava/lang/String;" } : Jvm.MethodName)).before a0 Z = true := hw _ (List.mem_of_getElem? (i := 94) rfl)
theorem ow95 {Z : State} {a0 : Array Value} (hw : ∀ d ∈ tables_1, d.before a0 Z = true) : (Jvm.Cond.declares ({ cls := "com/example/zonewright/zonewright/plan/Plan", name := "getAuthDomain", desc := "()Ljava/lang/String;" } : Jvm.MethodName)).before a0 Z = true := hw _ (List.mem_of_getElem? (i := 95) rfl)
theorem ow96 {Z : State} {a0 : Array Value} (hw : ∀ d ∈ tables_1, d.before a0 Z = true) : (Jvm.Cond.instanceMethod ({ cls := "com/example/zonewright/zonewright/plan/Plan", name := "getAuthDomain", desc := "()Ljava/lang/String;" } : Jvm.MethodName)).before a0 Z = true := hw _ (List.mem_of_getElem? (i := 96) rfl)
theorem ow97 {Z : State} {a0 : Array Value} (hw : ∀ d ∈ tables_1, d.before a0 Z = true) : (Jvm.Cond.selects "com/example/zonewright/zonewright/plan/Plan" ({ cls := "com/example/zonewright/zonewright/plan/Plan", name := "getAuthDomain", desc := "()Ljava/lang/String;" } : Jvm.MethodName) ({ cls := "com/example/zonewright/zonewright/plan/Plan", name := "getAuthDomain", desc := "()Ljava/lang/String;" } : Jvm.MethodName)).before a0 Z = true := hw _ (List.mem_of_getElem? (i := 97) rfl)
theorem ow98 {Z : State} {a0 : Array Value} (hw : ∀ d ∈ tables_1, d.before a0 Z = true) : (Jvm.Cond.code ({ cls := "com/example/zonewright/zonewright/plan/Plan", name := "getAuthDomain", desc := "()Ljava/lang/String;" } : Jvm.MethodName) prog_20_method_5_code (1 : Nat) (Option.some (Jvm.ClassFile.FieldType.object "java/lang/String"))).before a0 Z = true := hw _ (List.mem_of_getElem? (i := 98) rfl)
theorem ow99 {Z : State} {a0 : Array Value} (hw : ∀ d ∈ tables_1, d.before a0 Z = true) : (Jvm.Cond.methodLink "com/example/zonewright/zonewright/storage/PlanIndex" (121 : Nat) ({ cls := "com/example/zonewright/zonewright/plan/Plan", name := "getInstanceName", desc := "()Ljava/lang/String;" } : Jvm.MethodName)).before a0 Z = true := hw _ (List.mem_of_getElem? (i := 99) rfl)
theorem ow100 {Z : State} {a0 : Array Value} (hw : ∀ d ∈ tables_1, d.before a0 Z = true) : (Jvm.Cond.declares ({ cls := "com/example/zonewright/zonewright/plan/Plan", name := "getInstanceName", desc := "()Ljava/lang/String;" } : Jvm.MethodName)).before a0 Z = true := hw _ (List.mem_of_getElem? (i := 100) rfl)
theorem ow101 {Z : State} {a0 : Array Value} (hw : ∀ d ∈ tables_1, d.before a0 Z = true) : (Jvm.Cond.instanceMethod ({ cls := "com/example/zonewright/zonewright/plan/Plan", name := "getInstanceName", desc := "()Ljava/lang/String;" } : Jvm.MethodName)).before a0 Z = true := hw _ (List.mem_of_getElem? (i := 101) rfl)
theorem ow102 {Z : State} {a0 : Array Value} (hw : ∀ d ∈ tables_1, d.before a0 Z = true) : (Jvm.Cond.selects "com/example/zonewright/zonewright/plan/Plan" ({ cls := "com/example/zonewright/zonewright/plan/Plan", name := "getInstanceName", desc := "()Ljava/lang/String;" } : Jvm.MethodName) ({ cls := "com/example/zonewright/zonewright/plan/Plan", name := "getInstanceName", desc := "()Ljava/lang/String;" } : Jvm.MethodName)).before a0 Z = true := hw _ (List.mem_of_getElem? (i := 102) rfl)
theorem ow103 {Z : State} {a0 : Array Value} (hw : ∀ d ∈ tables_1, d.before a0 Z = true) : (Jvm.Cond.code ({ cls := "com/example/zonewright/zonewright/plan/Plan", name := "getInstanceName", desc := "()Ljava/lang/String;" } : Jvm.MethodName) prog_20_method_6_code (1 : Nat) (Option.some (Jvm.ClassFile.FieldType.object "java/lang/String"))).before a0 Z = true := hw _ (List.mem_of_getElem? (i := 103) rfl)
theorem ow104 {Z : State} {a0 : Array Value} (hw : ∀ d ∈ tables_1, d.before a0 Z = true) : (Jvm.Cond.methodLink "java/lang/StringUTF16" (119 : Nat) ({ cls := "java/lang/StringUTF16", name := "toBytes", desc := "([CII)[B" } : Jvm.MethodName)).before a0 Z = true := hw _ (List.mem_of_getElem? (i := 104) rfl)
theorem ow105 {Z : State} {a0 : Array Value} (hw : ∀ d ∈ tables_1, d.before a0 Z = true) : (Jvm.Cond.static ({ cls := "java/lang/StringUTF16", name := "toBytes", desc := "([CII)[B" } : Jvm.MethodName)).before a0 Z = true := hw _ (List.mem_of_getElem? (i := 105) rfl)
theorem ow106 {Z : State} {a0 : Array Value} (hw : ∀ d ∈ tables_1, d.before a0 Z = true) : (Jvm.Cond.code ({ cls := "java/lang/StringUTF16", name := "toBytes", desc := "([CII)[B" } : Jvm.MethodName) jdk_52_method_14_code (5 : Nat) (Option.some (Jvm.ClassFile.FieldType.array Jvm.ClassFile.FieldType.byte))).before a0 Z = true := hw _ (List.mem_of_getElem? (i := 106) rfl)
theorem ow107 {Z : State} {a0 : Array Value} (hw : ∀ d ∈ tables_1, d.before a0 Z = true) : (Jvm.Cond.methodLink "java/lang/StringUTF16" (107 : Nat) ({ cls := "java/lang/StringUTF16", name := "newBytesFor", desc := "(I)[B" } : Jvm.MethodName)).before a0 Z = true := hw _ (List.mem_of_getElem? (i := 107) rfl)
theorem ow108 {Z : State} {a0 : Array Value} (hw : ∀ d ∈ tables_1, d.before a0 Z = true) : (Jvm.Cond.static ({ cls := "java/lang/StringUTF16", name := "newBytesFor", desc := "(I)[B" } : Jvm.MethodName)).before a0 Z = true := hw _ (List.mem_of_getElem? (i := 108) rfl)
theorem ow109 {Z : State} {a0 : Array Value} (hw : ∀ d ∈ tables_1, d.before a0 Z = true) : (Jvm.Cond.code ({ cls := "java/lang/StringUTF16", name := "newBytesFor", desc := "(I)[B" } : Jvm.MethodName) jdk_52_method_2_code (1 : Nat) (Option.some (Jvm.ClassFile.FieldType.array Jvm.ClassFile.FieldType.byte))).before a0 Z = true := hw _ (List.mem_of_getElem? (i := 109) rfl)
theorem ow110 {Z : State} {a0 : Array Value} (hw : ∀ d ∈ tables_1, d.before a0 Z = true) : (Jvm.Cond.methodLink "java/lang/StringUTF16" (11 : Nat) ({ cls := "java/lang/StringUTF16", name := "newBytesLength", desc := "(I)I" } : Jvm.MethodName)).before a0 Z = true := hw _ (List.mem_of_getElem? (i := 110) rfl)
theorem ow111 {Z : State} {a0 : Array Value} (hw : ∀ d ∈ tables_1, d.before a0 Z = true) : (Jvm.Cond.static ({ cls := "java/lang/StringUTF16", name := "newBytesLength", desc := "(I)I" } : Jvm.MethodName)).before a0 Z = true := hw _ (List.mem_of_getElem? (i := 111) rfl)
theorem ow112 {Z : State} {a0 : Array Value} (hw : ∀ d ∈ tables_1, d.before a0 Z = true) : (Jvm.Cond.code ({ cls := "java/lang/StringUTF16", name := "newBytesLength", desc := "(I)I" } : Jvm.MethodName) jdk_52_method_3_code (1 : Nat) (Option.some Jvm.ClassFile.FieldType.int)).before a0 Z = true := hw _ (List.mem_of_getElem? (i := 112) rfl)
theorem ow113 {Z : State} {a0 : Array Value} (hw : ∀ d ∈ tables_1, d.before a0 Z = true) : (Jvm.Cond.constant "java/lang/StringUTF16" (20 : Nat) (1073741823 : Int32)).before a0 Z = true := hw _ (List.mem_of_getElem? (i := 113) rfl)
theorem ow114 {Z : State} {a0 : Array Value} (hw : ∀ d ∈ tables_1, d.before a0 Z = true) : (Jvm.Cond.methodLink "java/lang/StringUTF16" (111 : Nat) ({ cls := "java/lang/StringUTF16", name := "putChar", desc := "([BII)V" } : Jvm.MethodName)).before a0 Z = true := hw _ (List.mem_of_getElem? (i := 114) rfl)
theorem ow115 {Z : State} {a0 : Array Value} (hw : ∀ d ∈ tables_1, d.before a0 Z = true) : (Jvm.Cond.static ({ cls := "java/lang/StringUTF16", name := "putChar", desc := "([BII)V" } : Jvm.MethodName)).before a0 Z = true := hw _ (List.mem_of_getElem? (i := 115) rfl)
theorem ow116 {Z : State} {a0 : Array Value} (hw : ∀ d ∈ tables_1, d.before a0 Z = true) : (Jvm.Cond.code ({ cls := "java/lang/StringUTF16", name := "putChar", desc := "([BII)V" } : Jvm.MethodName) jdk_52_method_4_code (3 : Nat) (Option.none : Option Jvm.ClassFile.FieldType)).before a0 Z = true := hw _ (List.mem_of_getElem? (i := 116) rfl)
theorem ow117 {Z : State} {a0 : Array Value} (hw : ∀ d ∈ tables_1, d.before a0 Z = true) : (Jvm.Cond.fieldLink "java/lang/StringUTF16" (44 : Nat) "java/lang/StringUTF16" "$assertionsDisabled" "Z").before a0 Z = true := hw _ (List.mem_of_getElem? (i := 117) rfl)
theorem ow118 {Z : State} {a0 : Array Value} (hw : ∀ d ∈ tables_1, d.before a0 Z = true) : (Jvm.Cond.fieldLink "java/lang/StringUTF16" (59 : Nat) "java/lang/StringUTF16" "HI_BYTE_SHIFT" "I").before a0 Z = true := hw _ (List.mem_of_getElem? (i := 118) rfl)
theorem ow119 {Z : State} {a0 : Array Value} (hw : ∀ d ∈ tables_1, d.before a0 Z = true) : (Jvm.Cond.fieldLink "java/lang/StringUTF16" (63 : Nat) "java/lang/StringUTF16" "LO_BYTE_SHIFT" "I").before a0 Z = true := hw _ (List.mem_of_getElem? (i := 119) rfl)
theorem ow120 {Z : State} {a0 : Array Value} (hw : ∀ d ∈ tables_1, d.before a0 Z = true) : (Jvm.Cond.methodLink "java/lang/StringUTF16" (71 : Nat) ({ cls := "java/lang/StringUTF16", name := "getChar", desc := "([BI)C" } : Jvm.MethodName)).before a0 Z = true := hw _ (List.mem_of_getElem? (i := 120) rfl)
theorem ow121 {Z : State} {a0 : Array Value} (hw : ∀ d ∈ tables_1, d.before a0 Z = true) : (Jvm.Cond.static ({ cls := "java/lang/StringUTF16", name := "getChar", desc := "([BI)C" } : Jvm.MethodName)).before a0 Z = true := hw _ (List.mem_of_getElem? (i := 121) rfl)
theorem ow122 {Z : State} {a0 : Array Value} (hw : ∀ d ∈ tables_1, d.before a0 Z = true) : (Jvm.Cond.code ({ cls := "java/lang/StringUTF16", name := "getChar", desc := "([BI)C" } : Jvm.MethodName) jdk_52_method_5_code (2 : Nat) (Option.some Jvm.ClassFile.FieldType.char)).before a0 Z = true := hw _ (List.mem_of_getElem? (i := 122) rfl)
def own_EL : List (String × Nat) := [("java/lang/String", 7)]
theorem own_mem0 : ("java/lang/String", 7) ∈ own_EL := List.mem_of_getElem? (i := 0) rfl
theorem own_EW {Z : State} {a0 : Array Value} (hw : ∀ d ∈ tables_1, d.before a0 Z = true) : EW Z a0 own_EL := (EW.cons (ow25 hw) (by decide) EW.nil)
theorem own_sA {Z : State} {a0 : Array Value} (hw : ∀ d ∈ tables_1, d.before a0 Z = true) : ∀ a ∈ Bundle.stringAtoms, a.before a0 Z = true := by
  intro a ha
  simp only [Bundle.stringAtoms, List.mem_cons, List.not_mem_nil, or_false] at ha
  rcases ha with rfl | rfl | rfl | rfl | rfl | rfl | rfl
  · exact (ow13 hw)
  · exact (ow12 hw)
  · exact (ow26 hw)
  · exact (ow27 hw)
  · exact (ow28 hw)
  · exact (ow29 hw)
  · exact (ow30 hw)

def own_fb (n : Int32) : Int64 := (64 : Int64) + (2 : Int64) * n.toInt64
def own_len (x : Int32) : Int32 := x &&& 3
theorem own_and3 (k : Int32) : k &&& 3 = 0 ∨ k &&& 3 = 1 ∨ k &&& 3 = 2 ∨ k &&& 3 = 3 := by
  have h1 := c_mask k 3 2 (by decide) (by decide)
  have h3 : ∀ z : Int32, (k &&& 3).toInt = z.toInt → k &&& 3 = z := fun z q => Int32.toInt_inj.mp q
  have a0 : (0 : Int32).toInt = 0 := by decide
  have a1 : (1 : Int32).toInt = 1 := by decide
  have a2 : (2 : Int32).toInt = 2 := by decide
  have a3 : (3 : Int32).toInt = 3 := by decide
  have : (k &&& 3).toInt = 0 ∨ (k &&& 3).toInt = 1 ∨ (k &&& 3).toInt = 2 ∨ (k &&& 3).toInt = 3 := by omega
  rcases this with q | q | q | q
  · exact Or.inl (h3 0 (by rw [q, a0]))
  · exact Or.inr (Or.inl (h3 1 (by rw [q, a1])))
  · exact Or.inr (Or.inr (Or.inl (h3 2 (by rw [q, a2]))))
  · exact Or.inr (Or.inr (Or.inr (h3 3 (by rw [q, a3]))))

theorem own_gc (c : Int32) (h : nar .char c = c) : ((((nar .byte (c >>> ((0 : Int32) &&& 31)).toInt8.toInt32) &&& (255 : Int32)) <<< ((0 : Int32) &&& 31)) ||| (((nar .byte (c >>> ((8 : Int32) &&& 31)).toInt8.toInt32) &&& (255 : Int32)) <<< ((8 : Int32) &&& 31))).toUInt32.toUInt16.toUInt32.toInt32 = c := by
  have hr : 0 ≤ c.toInt ∧ c.toInt < 65536 := by
    have q := c_i2c c
    have e : c.toUInt32.toUInt16.toUInt32.toInt32 = c := h
    rw [e] at q; exact q.2
  apply Int32.toInt_inj.mp
  generalize hA : ((nar .byte (c >>> ((0 : Int32) &&& 31)).toInt8.toInt32) &&& (255 : Int32)) = A
  generalize hB : ((nar .byte (c >>> ((8 : Int32) &&& 31)).toInt8.toInt32) &&& (255 : Int32)) = B
  have a1 := c_ishr c 0 0 (by decide)
  have a2 := c_i2b (c >>> ((0 : Int32) &&& 31))
  have a3 := c_i2b (c >>> ((0 : Int32) &&& 31)).toInt8.toInt32
  have a4 : A.toInt = (nar .byte (c >>> ((0 : Int32) &&& 31)).toInt8.toInt32).toInt % (2 ^ 8 : Nat) := by rw [← hA]; exact c_mask _ 255 8 (by decide) (by decide)
  have a5 : (nar .byte (c >>> ((0 : Int32) &&& 31)).toInt8.toInt32).toInt = ((c >>> ((0 : Int32) &&& 31)).toInt8.toInt32).toInt8.toInt32.toInt := rfl
  have b1 := c_ishr c 8 8 (by decide)
  have b2 := c_i2b (c >>> ((8 : Int32) &&& 31))
  have b3 := c_i2b (c >>> ((8 : Int32) &&& 31)).toInt8.toInt32
  have b4 : B.toInt = (nar .byte (c >>> ((8 : Int32) &&& 31)).toInt8.toInt32).toInt % (2 ^ 8 : Nat) := by rw [← hB]; exact c_mask _ 255 8 (by decide) (by decide)
  have b5 : (nar .byte (c >>> ((8 : Int32) &&& 31)).toInt8.toInt32).toInt = ((c >>> ((8 : Int32) &&& 31)).toInt8.toInt32).toInt8.toInt32.toInt := rfl
  have hA2 : A.toInt = c.toInt % 256 := by omega
  have hB2 : B.toInt = c.toInt / 256 := by omega
  have s1 := c_ishl A 0 0 (by decide)
  have s2 := c_ishl B 8 8 (by decide)
  have r1 := rng32 (A <<< ((0 : Int32) &&& 31))
  have r2 := rng32 (B <<< ((8 : Int32) &&& 31))
  have o1 := c_or' (A <<< ((0 : Int32) &&& 31)) (B <<< ((8 : Int32) &&& 31)) 8 (by decide) 256 (by decide) (by omega) (by omega) (by omega)
  have r3 := rng32 ((A <<< ((0 : Int32) &&& 31)) ||| (B <<< ((8 : Int32) &&& 31)))
  have i1 := c_i2c ((A <<< ((0 : Int32) &&& 31)) ||| (B <<< ((8 : Int32) &&& 31)))
  omega

theorem pn0 : plainName "java/lang/String" = true := by first | (simp [plainName, overriddenIn]; done) | decide +kernel
theorem d4_0 : decode jdk_42_method_149_code 0 = .ok (.aload_n 0, 1) := by decide +kernel
theorem d4_1 : decode jdk_42_method_149_code 1 = .ok (.invokespecial 1, 3) := by decide +kernel
theorem d4_4 : decode jdk_42_method_149_code 4 = .ok (.iload_n 3, 1) := by decide +kernel
theorem d4_5 : decode jdk_42_method_149_code 5 = .ok (.ifCond .ne 22, 3) := by decide +kernel
theorem d4_8 : decode jdk_42_method_149_code 8 = .ok (.aload_n 0, 1) := by decide +kernel
theorem d4_9 : decode jdk_42_method_149_code 9 = .ok (.ldc 7, 2) := by decide +kernel
theorem d4_11 : decode jdk_42_method_149_code 11 = .ok (.getfield 9, 3) := by decide +kernel
theorem d4_14 : decode jdk_42_method_149_code 14 = .ok (.putfield 9, 3) := by decide +kernel
theorem d4_17 : decode jdk_42_method_149_code 17 = .ok (.aload_n 0, 1) := by decide +kernel
theorem d4_18 : decode jdk_42_method_149_code 18 = .ok (.ldc 7, 2) := by decide +kernel
theorem d4_20 : decode jdk_42_method_149_code 20 = .ok (.getfield 15, 3) := by decide +kernel
theorem d4_23 : decode jdk_42_method_149_code 23 = .ok (.putfield 15, 3) := by decide +kernel
theorem d4_26 : decode jdk_42_method_149_code 26 = .ok (.return_, 1) := by decide +kernel
theorem ef_rsee4 (m : MethodId) (x0 : Addr) (x1 : Addr) (x2 : Int32) (x3 : Int32) : entryFrame m #[(.ref x0), (.ref x1), (.int x2), (.int x3), .null] 6 = mkF m 0 #[.val (.ref x0), .val (.ref x1), .val (.int x2), .val (.int x3), .val .null, .unset] [] := by first | (simp [entryFrame, mkF, argsToLocals, Value.category]; done) | rfl
def Q_rsee4 (Z : State) (s_ : Addr) (a : Addr) (ca : ClassId) (h0 : Heap) (n0 : Nat) (v : Option Value) (h : Heap) (L : List Loc) : Prop := v = none ∧ Fr n0 L ∧ Keep h0 h [s_] ∧ Exa Z h s_ "java/lang/String" ∧ ∃ b cb, Fld Z h s_ "java/lang/String" "value" "[B" (.ref b) ∧ Fld Z h s_ "java/lang/String" "coder" "B" (.int (0 : Int32)) ∧ Arv Z h b cb .byte (0 : Int32) [] (.int (0 : Int32))
set_option maxRecDepth 65536 in
set_option maxHeartbeats 40000000 in
theorem rsee4 (l : Launch) (Z : State) (a0 : Array Value) (hw : ∀ d ∈ tables_1, d.before a0 Z = true) (ws : List Jvm.Cond) (s_ : Addr) (a : Addr) (ca : ClassId) (h0 : Heap) (n0 : Nat) (Z0 : n0 ≤ h0.size) (E_s : Exa Z h0 s_ "java/lang/String") (g_s : n0 ≤ s_) (F_v : Fld Z h0 s_ "java/lang/String" "value" "[B" .null) (F_c : Fld Z h0 s_ "java/lang/String" "coder" "B" (.int (0 : Int32))) (V_a : Arv Z h0 a ca .char (0 : Int32) [] (.int (0 : Int32))) (nsa : s_ ≠ a) :
    OConW l Z own_EL (⟨"java/lang/String", "<init>", "([CIILjava/lang/Void;)V"⟩ : MethodName) jdk_42_method_149_code 6 none ws ({ frames := 1, cells := 2, slots := 4, locals := 12 } : Room) #[(.ref s_), (.ref a), (.int (0 : Int32)), (.int (0 : Int32)), .null] h0 [s_] (Q_rsee4 Z s_ a ca h0 n0) := by
  refine OConW.of (plainFor_of_name pn0) ?_
  intro p e s m below meth c s₁ Φ X0 hx hby hml hown hnm hret hlk hZ e0 hS hkk hC hsf hΦ
  have sf_s_ := hsf s_ (List.mem_of_getElem? (i := 0) rfl)
  have N0 := Fr.nil n0
  refine OGo.st (fun _ kz => castTop (ef_rsee4 m s_ a (0 : Int32) (0 : Int32)) kz) ?_
  have K0 := Keep.refl h0 [s_]
  show OG p e below Φ s₁ m 0 #[rv s_, rv a, iv 0, iv 0, .val .null, .unset] []
  refine OGo.st (fun _ kz => XS.aloadN X0.here hx rfl (hb hby d4_0) rfl rfl kz) ?_
  show OG p e below Φ s₁ m 1 #[rv s_, rv a, iv 0, iv 0, .val .null, .unset] [(.ref s_)]
  obtain ⟨T1, X1, e1, st1⟩ := initO X0 hx hZ hown (ow22 hw) (ow23 hw) (ow24 hw) e0 (g := (mkF m 1 #[rv s_, rv a, iv 0, iv 0, .val .null, .unset] [(.ref s_)])) rfl (by rw [hml]; rfl) rfl (hb hby d4_1) (by decide) (W := 0) (Nat.le_of_eq rfl) (by decide)
  refine OGo.st st1 ?_
  show OG p e below Φ T1 m 4 #[rv s_, rv a, iv 0, iv 0, .val .null, .unset] []
  refine OGo.st (fun _ kz => XS.iloadN X1.here hx rfl (hb hby d4_4) rfl kz) ?_
  show OG p e below Φ T1 m 5 #[rv s_, rv a, iv 0, iv 0, .val .null, .unset] [(.int 0)]
  refine OGo.st (fun _ kz => XS.ifNo X1.here hx rfl (hb hby d4_5) rfl (XT.i0_ne_f (by decide)) kz) ?_
  show OG p e below Φ T1 m 8 #[rv s_, rv a, iv 0, iv 0, .val .null, .unset] []
  refine OGo.st (fun _ kz => XS.aloadN X1.here hx rfl (hb hby d4_8) rfl rfl kz) ?_
  show OG p e below Φ T1 m 9 #[rv s_, rv a, iv 0, iv 0, .val .null, .unset] [(.ref s_)]
  obtain ⟨a2, T2, h2, kq2, b2, cb2, X2, e2, E2, hS, hkk, hZ, hown, Ex2, Fc2, Fv2, Vb2, -, -, hB2, Li2, ne2, st2⟩ := ldcCH X1 hx hZ hown (ow25 hw) (own_sA hw) e1 hS hkk (own_EW hw) (own_mem0) hC.1 (vs := []) (z := 0) ⟨by decide, by decide⟩ (by decide) (by decide) (g := (mkF m 9 #[rv s_, rv a, iv 0, iv 0, .val .null, .unset] [(.ref s_)])) rfl (hb hby d4_9) (n := 0) (by decide) (by decide) (by decide) (by decide)
  have F3 := E_s.ext E2
  have F4 := F_v.ext E2
  have F5 := F_c.ext E2
  have F6 := V_a.ext E2
  have K2 := K0.ext E2
  have Zs2 : n0 ≤ h2.size := Nat.le_trans Z0 E2.1
  have hA7 := hB2
  have sf_s_ := hA7.safe E_s.lt sf_s_
  have hkk := hkk
  have hC := hC.trans hA7
  have nl2_s_ := ne2 s_ sf_s_
  refine OGo.st st2 ?_
  show OG p e below Φ T2 m 11 #[rv s_, rv a, iv 0, iv 0, .val .null, .unset] [(.ref a2), (.ref s_)]
  obtain ⟨T8, X8, e8, st8⟩ := getF X2 hx hZ hown (host := "") (Or.inl (ow31 hw)) Via.refl e2 Fv2 (g := (mkF m 11 #[rv s_, rv a, iv 0, iv 0, .val .null, .unset] [(.ref a2), (.ref s_)])) rfl rfl (hb hby d4_11)
  refine OGo.st st8 ?_
  show OG p e below Φ T8 m 14 #[rv s_, rv a, iv 0, iv 0, .val .null, .unset] [(.ref b2), (.ref s_)]
  obtain ⟨T9, h9, X9, e9, W9, st9⟩ := putF X8 hx hZ hown (host := "") (Or.inl (ow31 hw)) Via.refl e8 F4 F3 (Or.inr ⟨(ow27 hw), rfl, hnm⟩) (ow12 hw) (ty := (.array .byte)) (by decide) rfl rfl (g := (mkF m 14 #[rv s_, rv a, iv 0, iv 0, .val .null, .unset] [(.ref b2), (.ref s_)])) rfl rfl (hb hby d4_14)
  have F10 := F3.wr W9
  have F11 := F4.same W9
  have F12 := F5.other W9 (Or.inr (slot_ne (Or.inr (ow28 hw)) (Or.inr (ow27 hw)) (by decide) (t := .byte) (t' := (.array .byte)) (by decide) (by decide)))
  have F13 := F6.other W9 (Ne.symm nsa)
  have F14 := Ex2.wr W9
  have F15 := Fc2.other W9 (Or.inl (Ne.symm nl2_s_.1))
  have F16 := Fv2.other W9 (Or.inl (Ne.symm nl2_s_.1))
  have F17 := Vb2.other W9 (Ne.symm nl2_s_.2)
  have K9 := K2.wr W9 (Or.inl (List.mem_of_getElem? (i := 0) rfl))
  have N9 := Fr.snoc X9 N0 g_s
  have Zs9 : n0 ≤ h9.size := by rw [W9.size]; exact Zs2
  have hA18 := CHr.wr W9 sf_s_ hC.1
  have sf_s_ := hA18.safe F3.lt sf_s_
  have hkk := Nat.le_trans hkk hA18.2.1
  have hC := hC.trans hA18
  refine OGo.st st9 ?_
  show OG p e below Φ T9 m 17 #[rv s_, rv a, iv 0, iv 0, .val .null, .unset] []
  refine OGo.st (fun _ kz => XS.aloadN X9.here hx rfl (hb hby d4_17) rfl rfl kz) ?_
  show OG p e below Φ T9 m 18 #[rv s_, rv a, iv 0, iv 0, .val .null, .unset] [(.ref s_)]
  refine OGo.st (ldcAgain X9 hx hZ hown (ow25 hw) Li2 (g := (mkF m 18 #[rv s_, rv a, iv 0, iv 0, .val .null, .unset] [(.ref s_)])) rfl (hb hby d4_18)) ?_
  show OG p e below Φ T9 m 20 #[rv s_, rv a, iv 0, iv 0, .val .null, .unset] [(.ref a2), (.ref s_)]
  obtain ⟨T19, X19, e19, st19⟩ := getF X9 hx hZ hown (host := "") (Or.inl (ow32 hw)) Via.refl e9 F15 (g := (mkF m 20 #[rv s_, rv a, iv 0, iv 0, .val .null, .unset] [(.ref a2), (.ref s_)])) rfl rfl (hb hby d4_20)
  refine OGo.st st19 ?_
  show OG p e below Φ T19 m 23 #[rv s_, rv a, iv 0, iv 0, .val .null, .unset] [(.int 0), (.ref s_)]
  obtain ⟨T20, h20, X20, e20, W20, st20⟩ := putF X19 hx hZ hown (host := "") (Or.inl (ow32 hw)) Via.refl e19 F12 F10 (Or.inr ⟨(ow28 hw), rfl, hnm⟩) (ow12 hw) (ty := .byte) (by decide) (by decide) (by decide) (g := (mkF m 23 #[rv s_, rv a, iv 0, iv 0, .val .null, .unset] [(.int 0), (.ref s_)])) rfl rfl (hb hby d4_23)
  have F21 := F10.wr W20
  have F22 := F11.other W20 (Or.inr (slot_ne (Or.inr (ow27 hw)) (Or.inr (ow28 hw)) (by decide) (t := (.array .byte)) (t' := .byte) (by decide) (by decide)))
  have F23 := F12.same W20
  have F24 := F13.other W20 (Ne.symm nsa)
  have F25 := F14.wr W20
  have F26 := F15.other W20 (Or.inl (Ne.symm nl2_s_.1))
  have F27 := F16.other W20 (Or.inl (Ne.symm nl2_s_.1))
  have F28 := F17.other W20 (Ne.symm nl2_s_.2)
  have K20 := K9.wr W20 (Or.inl (List.mem_of_getElem? (i := 0) rfl))
  have N20 := Fr.snoc X20 N9 g_s
  have Zs20 : n0 ≤ h20.size := by rw [W20.size]; exact Zs9
  have hA29 := CHr.wr W20 sf_s_ hC.1
  have sf_s_ := hA29.safe F10.lt sf_s_
  have hkk := Nat.le_trans hkk hA29.2.1
  have hC := hC.trans hA29
  refine OGo.st st20 ?_
  show OG p e below Φ T20 m 26 #[rv s_, rv a, iv 0, iv 0, .val .null, .unset] []
  refine OGo.finW X20 hlk hS e20 hkk (v := none) (fun _ => rfl) (by decide) (by decide) hZ (own_EW hw) hC (fun fs hr => X20.returnOut hx hret (hb hby d4_26) hr) fun U eU hc hF => hΦ _ _ _ ?_ hc hF
  rw [eU]
  show Q_rsee4 Z s_ a ca h0 n0 _ _ _
  exact ⟨rfl, N20, K20, F21, _, _, F22, F23, F28⟩

theorem d3_0 : decode jdk_42_method_3_code 0 = .ok (.aload_n 0, 1) := by decide +kernel
theorem d3_1 : decode jdk_42_method_3_code 1 = .ok (.aload_n 1, 1) := by decide +kernel
theorem d3_2 : decode jdk_42_method_3_code 2 = .ok (.iconst 0, 1) := by decide +kernel
theorem d3_3 : decode jdk_42_method_3_code 3 = .ok (.aload_n 1, 1) := by decide +kernel
theorem d3_4 : decode jdk_42_method_3_code 4 = .ok (.arraylength, 1) := by decide +kernel
theorem d3_5 : decode jdk_42_method_3_code 5 = .ok (.aconst_null, 1) := by decide +kernel
theorem d3_6 : decode jdk_42_method_3_code 6 = .ok (.invokespecial 27, 3) := by decide +kernel
theorem pd0 : parseMethodDescriptor "([CIILjava/lang/Void;)V" = some ⟨[(.array .char), .int, .int, (.object "java/lang/Void")], none⟩ := by decide +kernel
theorem d3_9 : decode jdk_42_method_3_code 9 = .ok (.return_, 1) := by decide +kernel
theorem ef_rsee1 (m : MethodId) (x0 : Addr) (x1 : Addr) : entryFrame m #[(.ref x0), (.ref x1)] 2 = mkF m 0 #[.val (.ref x0), .val (.ref x1)] [] := by first | (simp [entryFrame, mkF, argsToLocals, Value.category]; done) | rfl
def Q_rsee1 (Z : State) (s_ : Addr) (a : Addr) (ca : ClassId) (h0 : Heap) (n0 : Nat) (v : Option Value) (h : Heap) (L : List Loc) : Prop := v = none ∧ Fr n0 L ∧ Keep h0 h [s_] ∧ Exa Z h s_ "java/lang/String" ∧ ∃ b cb, Fld Z h s_ "java/lang/String" "value" "[B" (.ref b) ∧ Fld Z h s_ "java/lang/String" "coder" "B" (.int (0 : Int32)) ∧ Arv Z h b cb .byte (0 : Int32) [] (.int (0 : Int32))
set_option maxRecDepth 65536 in
set_option maxHeartbeats 40000000 in
theorem rsee1 (l : Launch) (Z : State) (a0 : Array Value) (hw : ∀ d ∈ tables_1, d.before a0 Z = true) (ws : List Jvm.Cond) (s_ : Addr) (a : Addr) (ca : ClassId) (h0 : Heap) (n0 : Nat) (Z0 : n0 ≤ h0.size) (E_s : Exa Z h0 s_ "java/lang/String") (g_s : n0 ≤ s_) (F_v : Fld Z h0 s_ "java/lang/String" "value" "[B" .null) (F_c : Fld Z h0 s_ "java/lang/String" "coder" "B" (.int (0 : Int32))) (V_a : Arv Z h0 a ca .char (0 : Int32) [] (.int (0 : Int32))) (nsa : s_ ≠ a) :
    OConW l Z own_EL (⟨"java/lang/String", "<init>", "([C)V"⟩ : MethodName) jdk_42_method_3_code 2 none ws ({ frames := 2, cells := 2, slots := 4, locals := 29 } : Room) #[(.ref s_), (.ref a)] h0 [s_] (Q_rsee1 Z s_ a ca h0 n0) := by
  refine OConW.of (plainFor_of_name pn0) ?_
  intro p e s m below meth c s₁ Φ X0 hx hby hml hown hnm hret hlk hZ e0 hS hkk hC hsf hΦ
  have sf_s_ := hsf s_ (List.mem_of_getElem? (i := 0) rfl)
  have N0 := Fr.nil n0
  refine OGo.st (fun _ kz => castTop (ef_rsee1 m s_ a) kz) ?_
  have K0 := Keep.refl h0 [s_]
  show OG p e below Φ s₁ m 0 #[rv s_, rv a] []
  refine OGo.st (fun _ kz => XS.aloadN X0.here hx rfl (hb hby d3_0) rfl rfl kz) ?_
  show OG p e below Φ s₁ m 1 #[rv s_, rv a] [(.ref s_)]
  refine OGo.st (fun _ kz => XS.aloadN X0.here hx rfl (hb hby d3_1) rfl rfl kz) ?_
  show OG p e below Φ s₁ m 2 #[rv s_, rv a] [(.ref a), (.ref s_)]
  refine OGo.st (fun _ kz => XS.iconst X0.here hx rfl (hb hby d3_2) kz) ?_
  show OG p e below Φ s₁ m 3 #[rv s_, rv a] [(.int 0), (.ref a), (.ref s_)]
  refine OGo.st (fun _ kz => XS.aloadN X0.here hx rfl (hb hby d3_3) rfl rfl kz) ?_
  show OG p e below Φ s₁ m 4 #[rv s_, rv a] [(.ref a), (.int 0), (.ref a), (.ref s_)]
  obtain ⟨cl1, Aq1, -, S1, M1, -, -⟩ := id V_a
  refine OGo.st (fun _ kz => X0.arraylength hx (by rw [e0]; exact Aq1.1) (State.isArrayOf_alike hZ.alike Aq1.2.1) (g := (mkF m 4 #[rv s_, rv a] [(.ref a), (.int 0), (.ref a), (.ref s_)])) rfl rfl (hb hby d3_4) _ kz) ?_
  rw [len_of S1 M1]
  show OG p e below Φ s₁ m 5 #[rv s_, rv a] [(.int 0), (.int 0), (.ref a), (.ref s_)]
  refine OGo.st (fun _ kz => XS.aconstNull X0.here hx rfl (hb hby d3_5) kz) ?_
  show OG p e below Φ s₁ m 6 #[rv s_, rv a] [.null, (.int 0), (.int 0), (.ref a), (.ref s_)]
  obtain ⟨_, T2, L2, X2, hQ2, st2, hS, hZ, hown, hB2⟩ := own_callSpW X0 hx hZ rfl hown (ow18 hw) (ow19 hw) (ow13 hw) (ow21 hw) (by decide) (rsee4 l Z a0 hw [] s_ a ca h0 n0 Z0 E_s g_s F_v F_c V_a nsa) e0 (W := 0) (by decide) (by decide) (by decide) (by decide) (pc := 6) (ls := #[rv s_, rv a]) (stk := [.null, (.int 0), (.int 0), (.ref a), (.ref s_)]) (by rw [hml]; rfl) (a := s_) (argsL := [(.ref a), (.int 0), (.int 0), .null]) (rest := []) (lenOf pd0 rfl) rfl rfl (Nat.le_of_eq rfl) (hb hby d3_6) hS hkk (own_EW hw) hC (allS ⟨E_s.lt, sf_s_⟩ all0)
  obtain ⟨rfl, Nq2, Kq2, Eq2, b2, cb2, Fv2, Fc2, Vq2⟩ := hQ2
  have N2 := Fr.app N0 Nq2
  have Zs2 : n0 ≤ T2.heap.size := Nat.le_trans Z0 Kq2.1
  have F3 := V_a.keep Kq2 (ninS (Ne.symm nsa) nin0)
  have K2 := K0.trans Kq2 (allS (Or.inl (List.mem_of_getElem? (i := 0) rfl)) all0)
  have hA4 := hB2
  have sf_s_ := hA4.safe E_s.lt sf_s_
  have hkk := Nat.le_refl T2.heap.size
  have hC := hC.trans hA4
  refine OGo.st st2 ?_
  show OG p e below Φ T2 m 9 #[rv s_, rv a] []
  refine OGo.finW X2 hlk hS rfl hkk (v := none) (fun _ => rfl) (by decide) (by decide) hZ (own_EW hw) hC (fun fs hr => X2.returnOut hx hret (hb hby d3_9) hr) fun U eU hc hF => hΦ _ _ _ ?_ hc hF
  rw [eU]
  show Q_rsee1 Z s_ a ca h0 n0 _ _ _
  exact ⟨rfl, N2, K2, Eq2, _, _, Fv2, Fc2, Vq2⟩

theorem pn1 : plainName "java/lang/StringUTF16" = true := by first | (simp [plainName, overriddenIn]; done) | decide +kernel
theorem d7_0 : decode jdk_52_method_21_code 0 = .ok (.iconst 0, 1) := by decide +kernel
theorem d7_1 : decode jdk_52_method_21_code 1 = .ok (.istore 5, 2) := by decide +kernel
theorem d7_3 : decode jdk_52_method_21_code 3 = .ok (.iload 5, 2) := by decide +kernel
theorem d7_5 : decode jdk_52_method_21_code 5 = .ok (.iload 4, 2) := by decide +kernel
theorem d7_7 : decode jdk_52_method_21_code 7 = .ok (.if_icmp .ge 37, 3) := by decide +kernel
theorem d7_10 : decode jdk_52_method_21_code 10 = .ok (.aload_n 0, 1) := by decide +kernel
theorem d7_11 : decode jdk_52_method_21_code 11 = .ok (.iload_n 1, 1) := by decide +kernel
theorem d7_12 : decode jdk_52_method_21_code 12 = .ok (.caload, 1) := by decide +kernel
theorem d7_13 : decode jdk_52_method_21_code 13 = .ok (.istore 6, 2) := by decide +kernel
theorem d7_15 : decode jdk_52_method_21_code 15 = .ok (.iload 6, 2) := by decide +kernel
theorem d7_17 : decode jdk_52_method_21_code 17 = .ok (.sipush 255, 3) := by decide +kernel
theorem d7_20 : decode jdk_52_method_21_code 20 = .ok (.if_icmp .le 6, 3) := by decide +kernel
theorem d7_26 : decode jdk_52_method_21_code 26 = .ok (.aload_n 2, 1) := by decide +kernel
theorem d7_27 : decode jdk_52_method_21_code 27 = .ok (.iload_n 3, 1) := by decide +kernel
theorem d7_28 : decode jdk_52_method_21_code 28 = .ok (.iload 6, 2) := by decide +kernel
theorem d7_30 : decode jdk_52_method_21_code 30 = .ok (.i2b, 1) := by decide +kernel
theorem d7_31 : decode jdk_52_method_21_code 31 = .ok (.bastore, 1) := by decide +kernel
theorem d7_32 : decode jdk_52_method_21_code 32 = .ok (.iinc 1 1, 3) := by decide +kernel
theorem d7_35 : decode jdk_52_method_21_code 35 = .ok (.iinc 3 1, 3) := by decide +kernel
theorem d7_38 : decode jdk_52_method_21_code 38 = .ok (.iinc 5 1, 3) := by decide +kernel
theorem d7_41 : decode jdk_52_method_21_code 41 = .ok (.goto (-38), 3) := by decide +kernel
theorem d7_44 : decode jdk_52_method_21_code 44 = .ok (.iload 4, 2) := by decide +kernel
theorem d7_46 : decode jdk_52_method_21_code 46 = .ok (.ireturn, 1) := by decide +kernel
theorem ef_rsl1c2 (m : MethodId) (x0 : Addr) (x1 : Int32) (x2 : Addr) (x3 : Int32) (x4 : Int32) : entryFrame m #[(.ref x0), (.int x1), (.ref x2), (.int x3), (.int x4)] 7 = mkF m 0 #[.val (.ref x0), .val (.int x1), .val (.ref x2), .val (.int x3), .val (.int x4), .unset, .unset] [] := by first | (simp [entryFrame, mkF, argsToLocals, Value.category]; done) | rfl
def Q_rsl1c2 (Z : State) (a : Addr) (ca : ClassId) (b : Addr) (cb : ClassId) (c0_ : Int32) (h0 : Heap) (n0 : Nat) (v : Option Value) (h : Heap) (L : List Loc) : Prop := v = some (.int (1 : Int32)) ∧ Fr n0 L ∧ Keep h0 h [b] ∧ Arv Z h b cb .byte (1 : Int32) [(.int (nar .byte (c0_.toInt8.toInt32)))] (.int (0 : Int32))
set_option maxRecDepth 65536 in
set_option maxHeartbeats 40000000 in
theorem rsl1c2 (l : Launch) (Z : State) (a0 : Array Value) (hw : ∀ d ∈ tables_1, d.before a0 Z = true) (ws : List Jvm.Cond) (a : Addr) (ca : ClassId) (b : Addr) (cb : ClassId) (c0_ : Int32) (h0 : Heap) (n0 : Nat) (Z0 : n0 ≤ h0.size) (V_a : Arv Z h0 a ca .char (1 : Int32) [(.int c0_)] (.int (0 : Int32))) (V_b : Arv Z h0 b cb .byte (1 : Int32) [(.int (0 : Int32))] (.int (0 : Int32))) (nab : a ≠ b) (g_b : n0 ≤ b) (hl0 : ¬ (255 : Int32) < c0_) :
    OCon l Z (⟨"java/lang/StringUTF16", "compress", "([CI[BII)I"⟩ : MethodName) jdk_52_method_21_code 7 (some .int) ws ({ frames := 0, cells := 0, slots := 0, locals := 0 } : Room) #[(.ref a), (.int (0 : Int32)), (.ref b), (.int (0 : Int32)), (.int (1 : Int32))] h0 (Q_rsl1c2 Z a ca b cb c0_ h0 n0) := by
  refine OCon.of (plainFor_of_name pn1) ?_
  intro p e s m below meth c s₁ Φ X0 hx hby hml hown hnm hret hlk hZ e0 hΦ
  have N0 := Fr.nil n0
  refine OGo.st (fun _ kz => castTop (ef_rsl1c2 m a (0 : Int32) b (0 : Int32) (1 : Int32)) kz) ?_
  have K0 := Keep.refl h0 [b]
  show OG p e below Φ s₁ m 0 #[rv a, iv 0, rv b, iv 0, iv 1, .unset, .unset] []
  refine OGo.st (fun _ kz => XS.iconst X0.here hx rfl (hb hby d7_0) kz) ?_
  show OG p e below Φ s₁ m 1 #[rv a, iv 0, rv b, iv 0, iv 1, .unset, .unset] [(.int 0)]
  refine OGo.st (fun _ kz => XS.istore X0.here hx rfl (hb hby d7_1) rfl (l' := #[rv a, iv 0, rv b, iv 0, iv 1, iv 0, .unset]) rfl kz) ?_
  show OG p e below Φ s₁ m 3 #[rv a, iv 0, rv b, iv 0, iv 1, iv 0, .unset] []
  refine OGo.st (fun _ kz => XS.iload X0.here hx rfl (hb hby d7_3) rfl kz) ?_
  show OG p e below Φ s₁ m 5 #[rv a, iv 0, rv b, iv 0, iv 1, iv 0, .unset] [(.int 0)]
  refine OGo.st (fun _ kz => XS.iload X0.here hx rfl (hb hby d7_5) rfl kz) ?_
  show OG p e below Φ s₁ m 7 #[rv a, iv 0, rv b, iv 0, iv 1, iv 0, .unset] [(.int 1), (.int 0)]
  refine OGo.st (fun _ kz => XS.icmpNo X0.here hx rfl (hb hby d7_7) rfl (XT.ii_ge_f (by decide)) kz) ?_
  show OG p e below Φ s₁ m 10 #[rv a, iv 0, rv b, iv 0, iv 1, iv 0, .unset] []
  refine OGo.st (fun _ kz => XS.aloadN X0.here hx rfl (hb hby d7_10) rfl rfl kz) ?_
  show OG p e below Φ s₁ m 11 #[rv a, iv 0, rv b, iv 0, iv 1, iv 0, .unset] [(.ref a)]
  refine OGo.st (fun _ kz => XS.iloadN X0.here hx rfl (hb hby d7_11) rfl kz) ?_
  show OG p e below Φ s₁ m 12 #[rv a, iv 0, rv b, iv 0, iv 1, iv 0, .unset] [(.int 0), (.ref a)]
  obtain ⟨cl1, Aq1, -, S1, M1, H1, -⟩ := id V_a
  have in1 : ¬ ((0 : Int32) < 0 ∨ cl1.slots.size ≤ (0 : Int32).toNatClampNeg) := inb_of S1 ⟨by decide, by decide⟩
  have at1 : cl1.slots[(0 : Int32).toNatClampNeg]? = some (.int c0_) := H1.at in1 rfl
  refine OGo.st (fun _ kz => X0.caload hx (by rw [e0]; exact Aq1.1) (State.isArrayOf_alike hZ.alike Aq1.2.1) Aq1.2.2 in1 at1 (g := (mkF m 12 #[rv a, iv 0, rv b, iv 0, iv 1, iv 0, .unset] [(.int 0), (.ref a)])) rfl rfl (hb hby d7_12) _ kz) ?_
  show OG p e below Φ s₁ m 13 #[rv a, iv 0, rv b, iv 0, iv 1, iv 0, .unset] [(.int c0_)]
  refine OGo.st (fun _ kz => XS.istore X0.here hx rfl (hb hby d7_13) rfl (l' := #[rv a, iv 0, rv b, iv 0, iv 1, iv 0, iv c0_]) rfl kz) ?_
  show OG p e below Φ s₁ m 15 #[rv a, iv 0, rv b, iv 0, iv 1, iv 0, iv c0_] []
  refine OGo.st (fun _ kz => XS.iload X0.here hx rfl (hb hby d7_15) rfl kz) ?_
  show OG p e below Φ s₁ m 17 #[rv a, iv 0, rv b, iv 0, iv 1, iv 0, iv c0_] [(.int c0_)]
  refine OGo.st (fun _ kz => XS.sipush X0.here hx rfl (hb hby d7_17) kz) ?_
  show OG p e below Φ s₁ m 20 #[rv a, iv 0, rv b, iv 0, iv 1, iv 0, iv c0_] [(.int 255), (.int c0_)]
  refine OGo.st (fun _ kz => XS.icmpYes X0.here hx rfl (pc0 := 20) (pc' := 26) rfl (hb hby d7_20) rfl (XT.ii_le_t hl0) (by decide) (by decide) kz) ?_
  show OG p e below Φ s₁ m 26 #[rv a, iv 0, rv b, iv 0, iv 1, iv 0, iv c0_] []
  refine OGo.st (fun _ kz => XS.aloadN X0.here hx rfl (hb hby d7_26) rfl rfl kz) ?_
  show OG p e below Φ s₁ m 27 #[rv a, iv 0, rv b, iv 0, iv 1, iv 0, iv c0_] [(.ref b)]
  refine OGo.st (fun _ kz => XS.iloadN X0.here hx rfl (hb hby d7_27) rfl kz) ?_
  show OG p e below Φ s₁ m 28 #[rv a, iv 0, rv b, iv 0, iv 1, iv 0, iv c0_] [(.int 0), (.ref b)]
  refine OGo.st (fun _ kz => XS.iload X0.here hx rfl (hb hby d7_28) rfl kz) ?_
  show OG p e below Φ s₁ m 30 #[rv a, iv 0, rv b, iv 0, iv 1, iv 0, iv c0_] [(.int c0_), (.int 0), (.ref b)]
  refine OGo.st (fun _ kz => XT.i2b X0.here hx rfl (hb hby d7_30) rfl kz) ?_
  show OG p e below Φ s₁ m 31 #[rv a, iv 0, rv b, iv 0, iv 1, iv 0, iv c0_] [(.int (c0_.toInt8.toInt32)), (.int 0), (.ref b)]
  obtain ⟨cl2, Aq2, Cq2, S2, M2, H2, G2⟩ := id V_b
  have in2 : ¬ ((0 : Int32) < 0 ∨ cl2.slots.size ≤ (0 : Int32).toNatClampNeg) := inb_of S2 ⟨by decide, by decide⟩
  obtain ⟨T2, h2, X2, e2, W2, st2⟩ := stB X0 hx hZ e0 Aq2 in2 (g := (mkF m 31 #[rv a, iv 0, rv b, iv 0, iv 1, iv 0, iv c0_] [(.int (c0_.toInt8.toInt32)), (.int 0), (.ref b)])) rfl rfl (hb hby d7_31)
  have W2 : Wr h0 h2 b (0 : Int32).toNatClampNeg (.int (nar .byte (c0_.toInt8.toInt32))) := W2
  have F3 := V_a.other W2 nab
  have V2 : Arv Z h2 b cb .byte (1 : Int32) [(.int (nar .byte (c0_.toInt8.toInt32)))] (.int (0 : Int32)) := Arv.set Aq2 Cq2 S2 M2 H2 G2 (fits_nar_byte _) W2 0 (by decide) (by show 0 < 1; decide)
  have K2 := K0.wr W2 (Or.inl (List.mem_of_getElem? (i := 0) rfl))
  have N2 := Fr.snoc X2 N0 g_b
  have Zs2 : n0 ≤ h2.size := by rw [W2.size]; exact Z0
  refine OGo.st st2 ?_
  show OG p e below Φ T2 m 32 #[rv a, iv 0, rv b, iv 0, iv 1, iv 0, iv c0_] []
  refine OGo.st (fun _ kz => XS.iinc X2.here hx rfl (hb hby d7_32) rfl (l' := #[rv a, iv ((0 : Int32) + (1 : Int32)), rv b, iv 0, iv 1, iv 0, iv c0_]) rfl kz) ?_
  show OG p e below Φ T2 m 35 #[rv a, iv 1, rv b, iv 0, iv 1, iv 0, iv c0_] []
  refine OGo.st (fun _ kz => XS.iinc X2.here hx rfl (hb hby d7_35) rfl (l' := #[rv a, iv 1, rv b, iv ((0 : Int32) + (1 : Int32)), iv 1, iv 0, iv c0_]) rfl kz) ?_
  show OG p e below Φ T2 m 38 #[rv a, iv 1, rv b, iv 1, iv 1, iv 0, iv c0_] []
  refine OGo.st (fun _ kz => XS.iinc X2.here hx rfl (hb hby d7_38) rfl (l' := #[rv a, iv 1, rv b, iv 1, iv 1, iv ((0 : Int32) + (1 : Int32)), iv c0_]) rfl kz) ?_
  show OG p e below Φ T2 m 41 #[rv a, iv 1, rv b, iv 1, iv 1, iv 1, iv c0_] []
  refine OGo.st (fun _ kz => XS.goto X2.here hx rfl (pc0 := 41) (pc' := 3) rfl (hb hby d7_41) (by decide) (by decide) kz) ?_
  show OG p e below Φ T2 m 3 #[rv a, iv 1, rv b, iv 1, iv 1, iv 1, iv c0_] []
  refine OGo.st (fun _ kz => XS.iload X2.here hx rfl (hb hby d7_3) rfl kz) ?_
  show OG p e below Φ T2 m 5 #[rv a, iv 1, rv b, iv 1, iv 1, iv 1, iv c0_] [(.int 1)]
  refine OGo.st (fun _ kz => XS.iload X2.here hx rfl (hb hby d7_5) rfl kz) ?_
  show OG p e below Φ T2 m 7 #[rv a, iv 1, rv b, iv 1, iv 1, iv 1, iv c0_] [(.int 1), (.int 1)]
  refine OGo.st (fun _ kz => XS.icmpYes X2.here hx rfl (pc0 := 7) (pc' := 44) rfl (hb hby d7_7) rfl (XT.ii_ge_t (by decide)) (by decide) (by decide) kz) ?_
  show OG p e below Φ T2 m 44 #[rv a, iv 1, rv b, iv 1, iv 1, iv 1, iv c0_] []
  refine OGo.st (fun _ kz => XS.iload X2.here hx rfl (hb hby d7_44) rfl kz) ?_
  show OG p e below Φ T2 m 46 #[rv a, iv 1, rv b, iv 1, iv 1, iv 1, iv c0_] [(.int 1)]
  refine OGo.fin X2 hlk (v := (some (.int 1))) (fun h => by rw [hret] at h; cases h) (by decide) (by decide) (fun fs hr => X2.ireturnOut hx hret rfl (by simp) (hb hby d7_46) hr) fun U eU hF => hΦ _ _ _ ?_ hF
  rw [eU, e2]
  show Q_rsl1c2 Z a ca b cb c0_ h0 n0 _ _ _
  exact ⟨rfl, N2, K2, V2⟩

theorem d6_0 : decode jdk_52_method_16_code 0 = .ok (.iload_n 2, 1) := by decide +kernel
theorem d6_1 : decode jdk_52_method_16_code 1 = .ok (.newarray .byte, 2) := by decide +kernel
theorem d6_3 : decode jdk_52_method_16_code 3 = .ok (.astore_n 3, 1) := by decide +kernel
theorem d6_4 : decode jdk_52_method_16_code 4 = .ok (.aload_n 0, 1) := by decide +kernel
theorem d6_5 : decode jdk_52_method_16_code 5 = .ok (.iload_n 1, 1) := by decide +kernel
theorem d6_6 : decode jdk_52_method_16_code 6 = .ok (.aload_n 3, 1) := by decide +kernel
theorem d6_7 : decode jdk_52_method_16_code 7 = .ok (.iconst 0, 1) := by decide +kernel
theorem d6_8 : decode jdk_52_method_16_code 8 = .ok (.iload_n 2, 1) := by decide +kernel
theorem d6_9 : decode jdk_52_method_16_code 9 = .ok (.invokestatic 115, 3) := by decide +kernel
theorem pd1 : parseMethodDescriptor "([CI[BII)I" = some ⟨[(.array .char), .int, (.array .byte), .int, .int], some .int⟩ := by decide +kernel
theorem d6_12 : decode jdk_52_method_16_code 12 = .ok (.istore 4, 2) := by decide +kernel
theorem d6_14 : decode jdk_52_method_16_code 14 = .ok (.iload 4, 2) := by decide +kernel
theorem d6_16 : decode jdk_52_method_16_code 16 = .ok (.iload_n 2, 1) := by decide +kernel
theorem d6_17 : decode jdk_52_method_16_code 17 = .ok (.if_icmp .eq 40, 3) := by decide +kernel
theorem d6_57 : decode jdk_52_method_16_code 57 = .ok (.aload_n 3, 1) := by decide +kernel
theorem d6_58 : decode jdk_52_method_16_code 58 = .ok (.areturn, 1) := by decide +kernel
theorem ef_rsl1c3 (m : MethodId) (x0 : Addr) (x1 : Int32) (x2 : Int32) : entryFrame m #[(.ref x0), (.int x1), (.int x2)] 6 = mkF m 0 #[.val (.ref x0), .val (.int x1), .val (.int x2), .unset, .unset, .unset] [] := by first | (simp [entryFrame, mkF, argsToLocals, Value.category]; done) | rfl
def Q_rsl1c3 (Z : State) (a : Addr) (ca : ClassId) (c0_ : Int32) (h0 : Heap) (n0 : Nat) (v : Option Value) (h : Heap) (L : List Loc) : Prop := ∃ b cb, v = some (.ref b) ∧ Fr n0 L ∧ Keep h0 h [] ∧ Arv Z h b cb .byte (1 : Int32) [(.int (nar .byte (c0_.toInt8.toInt32)))] (.int (0 : Int32)) ∧ h0.size ≤ b
set_option maxRecDepth 65536 in
set_option maxHeartbeats 40000000 in
theorem rsl1c3 (l : Launch) (Z : State) (a0 : Array Value) (hw : ∀ d ∈ tables_1, d.before a0 Z = true) (ws : List Jvm.Cond) (a : Addr) (ca : ClassId) (c0_ : Int32) (h0 : Heap) (n0 : Nat) (Z0 : n0 ≤ h0.size) (V_a : Arv Z h0 a ca .char (1 : Int32) [(.int c0_)] (.int (0 : Int32))) (hl0 : ¬ (255 : Int32) < c0_) :
    OCon l Z (⟨"java/lang/StringUTF16", "compress", "([CII)[B"⟩ : MethodName) jdk_52_method_16_code 6 (some (.array .byte)) ws ({ frames := 1, cells := 1, slots := 1, locals := 18 } : Room) #[(.ref a), (.int (0 : Int32)), (.int (1 : Int32))] h0 (Q_rsl1c3 Z a ca c0_ h0 n0) := by
  refine OCon.of (plainFor_of_name pn1) ?_
  intro p e s m below meth c s₁ Φ X0 hx hby hml hown hnm hret hlk hZ e0 hΦ
  have N0 := Fr.nil n0
  refine OGo.st (fun _ kz => castTop (ef_rsl1c3 m a (0 : Int32) (1 : Int32)) kz) ?_
  have K0 := Keep.refl h0 []
  show OG p e below Φ s₁ m 0 #[rv a, iv 0, iv 1, .unset, .unset, .unset] []
  refine OGo.st (fun _ kz => XS.iloadN X0.here hx rfl (hb hby d6_0) rfl kz) ?_
  show OG p e below Φ s₁ m 1 #[rv a, iv 0, iv 1, .unset, .unset, .unset] [(.int 1)]
  obtain ⟨T1, h1, c1, X1, e1, E1, Ar1, st1⟩ := newP (aty := .byte) X0 hx hZ (ow26 hw) e0 (g := (mkF m 1 #[rv a, iv 0, iv 1, .unset, .unset, .unset] [(.int 1)])) rfl (hb hby d6_1) rfl (by decide) (cap := 1) (by decide) (by decide) (by decide) (by decide)
  obtain ⟨b1, g1⟩ : ∃ z, z = h0.size := ⟨_, rfl⟩
  rw [← g1] at Ar1 st1
  have ne1_a : a ≠ b1 := by rw [g1]; exact Nat.ne_of_lt V_a.lt
  have F2 := V_a.ext E1
  have gb1 : n0 ≤ b1 := Nat.le_trans Z0 (Nat.le_of_eq g1.symm)
  have sz1 : h0.size ≤ b1 := Nat.le_trans K0.1 (Nat.le_of_eq g1.symm)
  have K1 := K0.ext E1
  have Zs1 : n0 ≤ h1.size := Nat.le_trans Z0 E1.1
  have V1 : Arv Z h1 b1 c1 .byte (1 : Int32) [(.int (0 : Int32))] (.int (0 : Int32)) := (Arv.new Ar1 (by decide)).pad (pad_rep [] _ 1)
  refine OGo.st st1 ?_
  show OG p e below Φ T1 m 3 #[rv a, iv 0, iv 1, .unset, .unset, .unset] [(.ref b1)]
  refine OGo.st (fun _ kz => XS.astoreN X1.here hx rfl (hb hby d6_3) rfl rfl (l' := #[rv a, iv 0, iv 1, rv b1, .unset, .unset]) rfl kz) ?_
  show OG p e below Φ T1 m 4 #[rv a, iv 0, iv 1, rv b1, .unset, .unset] []
  refine OGo.st (fun _ kz => XS.aloadN X1.here hx rfl (hb hby d6_4) rfl rfl kz) ?_
  show OG p e below Φ T1 m 5 #[rv a, iv 0, iv 1, rv b1, .unset, .unset] [(.ref a)]
  refine OGo.st (fun _ kz => XS.iloadN X1.here hx rfl (hb hby d6_5) rfl kz) ?_
  show OG p e below Φ T1 m 6 #[rv a, iv 0, iv 1, rv b1, .unset, .unset] [(.int 0), (.ref a)]
  refine OGo.st (fun _ kz => XS.aloadN X1.here hx rfl (hb hby d6_6) rfl rfl kz) ?_
  show OG p e below Φ T1 m 7 #[rv a, iv 0, iv 1, rv b1, .unset, .unset] [(.ref b1), (.int 0), (.ref a)]
  refine OGo.st (fun _ kz => XS.iconst X1.here hx rfl (hb hby d6_7) kz) ?_
  show OG p e below Φ T1 m 8 #[rv a, iv 0, iv 1, rv b1, .unset, .unset] [(.int 0), (.ref b1), (.int 0), (.ref a)]
  refine OGo.st (fun _ kz => XS.iloadN X1.here hx rfl (hb hby d6_8) rfl kz) ?_
  show OG p e below Φ T1 m 9 #[rv a, iv 0, iv 1, rv b1, .unset, .unset] [(.int 1), (.int 0), (.ref b1), (.int 0), (.ref a)]
  obtain ⟨_, T3, L3, X3, hQ3, st3⟩ := own_callSt X1 hx hZ hown (ow38 hw) (ow39 hw) (ow36 hw) (ow40 hw) (by decide) (rsl1c2 l Z a0 hw [] a ca b1 c1 c0_ h1 n0 Zs1 F2 V1 ne1_a gb1 hl0) e1 (W := 0) (by decide) (by decide) (by decide) (by decide) (pc := 9) (ls := #[rv a, iv 0, iv 1, rv b1, .unset, .unset]) (stk := [(.int 1), (.int 0), (.ref b1), (.int 0), (.ref a)]) (by rw [hml]; rfl) (argsL := [(.ref a), (.int 0), (.ref b1), (.int 0), (.int 1)]) (rest := []) (lenOf pd1 rfl) rfl rfl (Nat.le_of_eq rfl) (hb hby d6_9)
  obtain ⟨rfl, Nq3, Kq3, Vq3⟩ := hQ3
  have N3 := Fr.app N0 Nq3
  have Zs3 : n0 ≤ T3.heap.size := Nat.le_trans Zs1 Kq3.1
  have F4 := F2.keep Kq3 (ninS ne1_a nin0)
  have K3 := K1.trans Kq3 (allS (Or.inr sz1) all0)
  refine OGo.st st3 ?_
  show OG p e below Φ T3 m 12 #[rv a, iv 0, iv 1, rv b1, .unset, .unset] [(.int 1)]
  refine OGo.st (fun _ kz => XS.istore X3.here hx rfl (hb hby d6_12) rfl (l' := #[rv a, iv 0, iv 1, rv b1, iv 1, .unset]) rfl kz) ?_
  show OG p e below Φ T3 m 14 #[rv a, iv 0, iv 1, rv b1, iv 1, .unset] []
  refine OGo.st (fun _ kz => XS.iload X3.here hx rfl (hb hby d6_14) rfl kz) ?_
  show OG p e below Φ T3 m 16 #[rv a, iv 0, iv 1, rv b1, iv 1, .unset] [(.int 1)]
  refine OGo.st (fun _ kz => XS.iloadN X3.here hx rfl (hb hby d6_16) rfl kz) ?_
  show OG p e below Φ T3 m 17 #[rv a, iv 0, iv 1, rv b1, iv 1, .unset] [(.int 1), (.int 1)]
  refine OGo.st (fun _ kz => XS.icmpYes X3.here hx rfl (pc0 := 17) (pc' := 57) rfl (hb hby d6_17) rfl (XT.ii_eq_t (by decide)) (by decide) (by decide) kz) ?_
  show OG p e below Φ T3 m 57 #[rv a, iv 0, iv 1, rv b1, iv 1, .unset] []
  refine OGo.st (fun _ kz => XS.aloadN X3.here hx rfl (hb hby d6_57) rfl rfl kz) ?_
  show OG p e below Φ T3 m 58 #[rv a, iv 0, iv 1, rv b1, iv 1, .unset] [(.ref b1)]
  refine OGo.fin X3 hlk (v := (some (.ref b1))) (fun h => by rw [hret] at h; cases h) (by decide) (by decide) (fun fs hr => X3.areturnOut hx rfl hret rfl (hb hby d6_58) hr) fun U eU hF => hΦ _ _ _ ?_ hF
  rw [eU]
  show Q_rsl1c3 Z a ca c0_ h0 n0 _ _ _
  exact ⟨_, _, rfl, N3, K3, Vq3, sz1⟩

theorem d8_0 : decode jdk_52_method_15_code 0 = .ok (.iload_n 1, 1) := by decide +kernel
theorem d8_1 : decode jdk_52_method_15_code 1 = .ok (.aload_n 0, 1) := by decide +kernel
theorem d8_2 : decode jdk_52_method_15_code 2 = .ok (.arraylength, 1) := by decide +kernel
theorem d8_3 : decode jdk_52_method_15_code 3 = .ok (.isub, 1) := by decide +kernel
theorem d8_4 : decode jdk_52_method_15_code 4 = .ok (.bipush 31, 2) := by decide +kernel
theorem d8_6 : decode jdk_52_method_15_code 6 = .ok (.iushr, 1) := by decide +kernel
theorem d8_7 : decode jdk_52_method_15_code 7 = .ok (.i2b, 1) := by decide +kernel
theorem d8_8 : decode jdk_52_method_15_code 8 = .ok (.ireturn, 1) := by decide +kernel
theorem ef_rsl1cf (m : MethodId) (x0 : Addr) (x1 : Int32) : entryFrame m #[(.ref x0), (.int x1)] 2 = mkF m 0 #[.val (.ref x0), .val (.int x1)] [] := by first | (simp [entryFrame, mkF, argsToLocals, Value.category]; done) | rfl
def Q_rsl1cf (Z : State) (b : Addr) (cb : ClassId) (c0_ : Int32) (h0 : Heap) (n0 : Nat) (v : Option Value) (h : Heap) (L : List Loc) : Prop := v = some (.int (0 : Int32)) ∧ Fr n0 L ∧ h = h0
set_option maxRecDepth 65536 in
set_option maxHeartbeats 40000000 in
theorem rsl1cf (l : Launch) (Z : State) (a0 : Array Value) (hw : ∀ d ∈ tables_1, d.before a0 Z = true) (ws : List Jvm.Cond) (b : Addr) (cb : ClassId) (c0_ : Int32) (h0 : Heap) (n0 : Nat) (Z0 : n0 ≤ h0.size) (V_b : Arv Z h0 b cb .byte (1 : Int32) [(.int (nar .byte (c0_.toInt8.toInt32)))] (.int (0 : Int32))) :
    OCon l Z (⟨"java/lang/StringUTF16", "coderFromArrayLen", "([BI)B"⟩ : MethodName) jdk_52_method_15_code 2 (some .byte) ws ({ frames := 0, cells := 0, slots := 0, locals := 0 } : Room) #[(.ref b), (.int (1 : Int32))] h0 (Q_rsl1cf Z b cb c0_ h0 n0) := by
  refine OCon.of (plainFor_of_name pn1) ?_
  intro p e s m below meth c s₁ Φ X0 hx hby hml hown hnm hret hlk hZ e0 hΦ
  have N0 := Fr.nil n0
  refine OGo.st (fun _ kz => castTop (ef_rsl1cf m b (1 : Int32)) kz) ?_
  show OG p e below Φ s₁ m 0 #[rv b, iv 1] []
  refine OGo.st (fun _ kz => XS.iloadN X0.here hx rfl (hb hby d8_0) rfl kz) ?_
  show OG p e below Φ s₁ m 1 #[rv b, iv 1] [(.int 1)]
  refine OGo.st (fun _ kz => XS.aloadN X0.here hx rfl (hb hby d8_1) rfl rfl kz) ?_
  show OG p e below Φ s₁ m 2 #[rv b, iv 1] [(.ref b), (.int 1)]
  obtain ⟨cl1, Aq1, -, S1, M1, -, -⟩ := id V_b
  refine OGo.st (fun _ kz => X0.arraylength hx (by rw [e0]; exact Aq1.1) (State.isArrayOf_alike hZ.alike Aq1.2.1) (g := (mkF m 2 #[rv b, iv 1] [(.ref b), (.int 1)])) rfl rfl (hb hby d8_2) _ kz) ?_
  rw [len_of S1 M1]
  show OG p e below Φ s₁ m 3 #[rv b, iv 1] [(.int 1), (.int 1)]
  refine OGo.st (fun _ kz => XS.isub X0.here hx rfl (hb hby d8_3) rfl kz) ?_
  show OG p e below Φ s₁ m 4 #[rv b, iv 1] [(.int 0)]
  refine OGo.st (fun _ kz => XS.bipush X0.here hx rfl (hb hby d8_4) kz) ?_
  show OG p e below Φ s₁ m 6 #[rv b, iv 1] [(.int 31), (.int 0)]
  refine OGo.st (fun _ kz => XT.iushr X0.here hx rfl (hb hby d8_6) rfl kz) ?_
  show OG p e below Φ s₁ m 7 #[rv b, iv 1] [(.int 0)]
  refine OGo.st (fun _ kz => XT.i2b X0.here hx rfl (hb hby d8_7) rfl kz) ?_
  show OG p e below Φ s₁ m 8 #[rv b, iv 1] [(.int 0)]
  refine OGo.fin X0 hlk (v := (some (.int 0))) (fun h => by rw [hret] at h; cases h) (by decide) (by decide) (fun fs hr => X0.ireturnOut hx hret rfl (by simp) (hb hby d8_8) hr) fun U eU hF => hΦ _ _ _ ?_ hF
  rw [eU, e0]
  show Q_rsl1cf Z b cb c0_ h0 n0 _ _ _
  exact ⟨rfl, N0, rfl⟩

theorem d4_27 : decode jdk_42_method_149_code 27 = .ok (.getstatic 38, 3) := by decide +kernel
theorem d4_30 : decode jdk_42_method_149_code 30 = .ok (.ifCond .eq 28, 3) := by decide +kernel
theorem d4_33 : decode jdk_42_method_149_code 33 = .ok (.aload_n 1, 1) := by decide +kernel
theorem d4_34 : decode jdk_42_method_149_code 34 = .ok (.iload_n 2, 1) := by decide +kernel
theorem d4_35 : decode jdk_42_method_149_code 35 = .ok (.iload_n 3, 1) := by decide +kernel
theorem d4_36 : decode jdk_42_method_149_code 36 = .ok (.invokestatic 177, 3) := by decide +kernel
theorem pd2 : parseMethodDescriptor "([CII)[B" = some ⟨[(.array .char), .int, .int], some (.array .byte)⟩ := by decide +kernel
theorem d4_39 : decode jdk_42_method_149_code 39 = .ok (.astore 5, 2) := by decide +kernel
theorem d4_41 : decode jdk_42_method_149_code 41 = .ok (.aload_n 0, 1) := by decide +kernel
theorem d4_42 : decode jdk_42_method_149_code 42 = .ok (.aload 5, 2) := by decide +kernel
theorem d4_44 : decode jdk_42_method_149_code 44 = .ok (.iload_n 3, 1) := by decide +kernel
theorem d4_45 : decode jdk_42_method_149_code 45 = .ok (.invokestatic 47, 3) := by decide +kernel
theorem pd3 : parseMethodDescriptor "([BI)B" = some ⟨[(.array .byte), .int], some .byte⟩ := by decide +kernel
theorem d4_48 : decode jdk_42_method_149_code 48 = .ok (.putfield 15, 3) := by decide +kernel
theorem d4_51 : decode jdk_42_method_149_code 51 = .ok (.aload_n 0, 1) := by decide +kernel
theorem d4_52 : decode jdk_42_method_149_code 52 = .ok (.aload 5, 2) := by decide +kernel
theorem d4_54 : decode jdk_42_method_149_code 54 = .ok (.putfield 9, 3) := by decide +kernel
theorem d4_57 : decode jdk_42_method_149_code 57 = .ok (.return_, 1) := by decide +kernel
theorem ef_rsl1i4 (m : MethodId) (x0 : Addr) (x1 : Addr) (x2 : Int32) (x3 : Int32) : entryFrame m #[(.ref x0), (.ref x1), (.int x2), (.int x3), .null] 6 = mkF m 0 #[.val (.ref x0), .val (.ref x1), .val (.int x2), .val (.int x3), .val .null, .unset] [] := by first | (simp [entryFrame, mkF, argsToLocals, Value.category]; done) | rfl
def Q_rsl1i4 (Z : State) (s_ : Addr) (a : Addr) (ca : ClassId) (qc : Int32) (c0_ : Int32) (h0 : Heap) (n0 : Nat) (v : Option Value) (h : Heap) (L : List Loc) : Prop := v = none ∧ Fr n0 L ∧ Keep h0 h [s_] ∧ Exa Z h s_ "java/lang/String" ∧ ∃ b cb, Fld Z h s_ "java/lang/String" "value" "[B" (.ref b) ∧ Fld Z h s_ "java/lang/String" "coder" "B" (.int (0 : Int32)) ∧ Arv Z h b cb .byte (1 : Int32) [(.int (nar .byte (c0_.toInt8.toInt32)))] (.int (0 : Int32)) ∧ h0.size ≤ b
set_option maxRecDepth 65536 in
set_option maxHeartbeats 40000000 in
theorem rsl1i4 (l : Launch) (Z : State) (a0 : Array Value) (hw : ∀ d ∈ tables_1, d.before a0 Z = true) (ws : List Jvm.Cond) (s_ : Addr) (a : Addr) (ca : ClassId) (qc : Int32) (c0_ : Int32) (h0 : Heap) (n0 : Nat) (Z0 : n0 ≤ h0.size) (E_s : Exa Z h0 s_ "java/lang/String") (g_s : n0 ≤ s_) (F_v : Fld Z h0 s_ "java/lang/String" "value" "[B" .null) (F_c : Fld Z h0 s_ "java/lang/String" "coder" "B" (.int (0 : Int32))) (V_a : Arv Z h0 a ca .char (1 : Int32) [(.int c0_)] (.int (0 : Int32))) (nsa : s_ ≠ a) (S_q : Sta Z h0 "java/lang/String" "COMPACT_STRINGS" "Z" (.int qc)) (hq : ¬ qc = 0) (hl0 : ¬ (255 : Int32) < c0_) :
    OCon l Z (⟨"java/lang/String", "<init>", "([CIILjava/lang/Void;)V"⟩ : MethodName) jdk_42_method_149_code 6 none ws ({ frames := 2, cells := 1, slots := 1, locals := 35 } : Room) #[(.ref s_), (.ref a), (.int (0 : Int32)), (.int (1 : Int32)), .null] h0 (Q_rsl1i4 Z s_ a ca qc c0_ h0 n0) := by
  refine OCon.of (plainFor_of_name pn0) ?_
  intro p e s m below meth c s₁ Φ X0 hx hby hml hown hnm hret hlk hZ e0 hΦ
  have N0 := Fr.nil n0
  refine OGo.st (fun _ kz => castTop (ef_rsl1i4 m s_ a (0 : Int32) (1 : Int32)) kz) ?_
  have K0 := Keep.refl h0 [s_]
  show OG p e below Φ s₁ m 0 #[rv s_, rv a, iv 0, iv 1, .val .null, .unset] []
  refine OGo.st (fun _ kz => XS.aloadN X0.here hx rfl (hb hby d4_0) rfl rfl kz) ?_
  show OG p e below Φ s₁ m 1 #[rv s_, rv a, iv 0, iv 1, .val .null, .unset] [(.ref s_)]
  obtain ⟨T1, X1, e1, st1⟩ := initO X0 hx hZ hown (ow22 hw) (ow23 hw) (ow24 hw) e0 (g := (mkF m 1 #[rv s_, rv a, iv 0, iv 1, .val .null, .unset] [(.ref s_)])) rfl (by rw [hml]; rfl) rfl (hb hby d4_1) (by decide) (W := 0) (Nat.le_of_eq rfl) (by decide)
  refine OGo.st st1 ?_
  show OG p e below Φ T1 m 4 #[rv s_, rv a, iv 0, iv 1, .val .null, .unset] []
  refine OGo.st (fun _ kz => XS.iloadN X1.here hx rfl (hb hby d4_4) rfl kz) ?_
  show OG p e below Φ T1 m 5 #[rv s_, rv a, iv 0, iv 1, .val .null, .unset] [(.int 1)]
  refine OGo.st (fun _ kz => XS.ifYes X1.here hx rfl (pc0 := 5) (pc' := 27) rfl (hb hby d4_5) rfl (XT.i0_ne_t (by decide)) (by decide) (by decide) kz) ?_
  show OG p e below Φ T1 m 27 #[rv s_, rv a, iv 0, iv 1, .val .null, .unset] []
  obtain ⟨T2, X2, e2, st2⟩ := getS2 X1 hx hZ hown (host := "") (Or.inl (ow33 hw)) Via.refl e1 S_q (g := (mkF m 27 #[rv s_, rv a, iv 0, iv 1, .val .null, .unset] [])) rfl (hb hby d4_27)
  refine OGo.st st2 ?_
  show OG p e below Φ T2 m 30 #[rv s_, rv a, iv 0, iv 1, .val .null, .unset] [(.int qc)]
  refine OGo.st (fun _ kz => XS.ifNo X2.here hx rfl (hb hby d4_30) rfl (XT.i0_eq_f hq) kz) ?_
  show OG p e below Φ T2 m 33 #[rv s_, rv a, iv 0, iv 1, .val .null, .unset] []
  refine OGo.st (fun _ kz => XS.aloadN X2.here hx rfl (hb hby d4_33) rfl rfl kz) ?_
  show OG p e below Φ T2 m 34 #[rv s_, rv a, iv 0, iv 1, .val .null, .unset] [(.ref a)]
  refine OGo.st (fun _ kz => XS.iloadN X2.here hx rfl (hb hby d4_34) rfl kz) ?_
  show OG p e below Φ T2 m 35 #[rv s_, rv a, iv 0, iv 1, .val .null, .unset] [(.int 0), (.ref a)]
  refine OGo.st (fun _ kz => XS.iloadN X2.here hx rfl (hb hby d4_35) rfl kz) ?_
  show OG p e below Φ T2 m 36 #[rv s_, rv a, iv 0, iv 1, .val .null, .unset] [(.int 1), (.int 0), (.ref a)]
  obtain ⟨_, T3, L3, X3, hQ3, st3⟩ := own_callSt X2 hx hZ hown (ow34 hw) (ow35 hw) (ow36 hw) (ow37 hw) (by decide) (rsl1c3 l Z a0 hw [] a ca c0_ h0 n0 Z0 V_a hl0) e2 (W := 0) (by decide) (by decide) (by decide) (by decide) (pc := 36) (ls := #[rv s_, rv a, iv 0, iv 1, .val .null, .unset]) (stk := [(.int 1), (.int 0), (.ref a)]) (by rw [hml]; rfl) (argsL := [(.ref a), (.int 0), (.int 1)]) (rest := []) (lenOf pd2 rfl) rfl rfl (Nat.le_of_eq rfl) (hb hby d4_36)
  obtain ⟨b3, cb3, rfl, Nq3, Kq3, Vq3, hz3⟩ := hQ3
  have nq3_a : a ≠ b3 := Nat.ne_of_lt (Nat.lt_of_lt_of_le V_a.lt hz3)
  have nq3_s_ : s_ ≠ b3 := Nat.ne_of_lt (Nat.lt_of_lt_of_le E_s.lt hz3)
  have gq3 : n0 ≤ b3 := Nat.le_trans Z0 hz3
  have sq3 : h0.size ≤ b3 := Nat.le_trans K0.1 hz3
  have N3 := Fr.app N0 Nq3
  have Zs3 : n0 ≤ T3.heap.size := Nat.le_trans Z0 Kq3.1
  have F4 := E_s.keep Kq3
  have F5 := F_v.keep Kq3 nin0
  have F6 := F_c.keep Kq3 nin0
  have F7 := V_a.keep Kq3 nin0
  have K3 := K0.trans Kq3 all0
  refine OGo.st st3 ?_
  show OG p e below Φ T3 m 39 #[rv s_, rv a, iv 0, iv 1, .val .null, .unset] [(.ref b3)]
  refine OGo.st (fun _ kz => XS.astore X3.here hx rfl (hb hby d4_39) rfl rfl (l' := #[rv s_, rv a, iv 0, iv 1, .val .null, rv b3]) rfl kz) ?_
  show OG p e below Φ T3 m 41 #[rv s_, rv a, iv 0, iv 1, .val .null, rv b3] []
  refine OGo.st (fun _ kz => XS.aloadN X3.here hx rfl (hb hby d4_41) rfl rfl kz) ?_
  show OG p e below Φ T3 m 42 #[rv s_, rv a, iv 0, iv 1, .val .null, rv b3] [(.ref s_)]
  refine OGo.st (fun _ kz => XS.aload X3.here hx rfl (hb hby d4_42) rfl rfl kz) ?_
  show OG p e below Φ T3 m 44 #[rv s_, rv a, iv 0, iv 1, .val .null, rv b3] [(.ref b3), (.ref s_)]
  refine OGo.st (fun _ kz => XS.iloadN X3.here hx rfl (hb hby d4_44) rfl kz) ?_
  show OG p e below Φ T3 m 45 #[rv s_, rv a, iv 0, iv 1, .val .null, rv b3] [(.int 1), (.ref b3), (.ref s_)]
  obtain ⟨_, T8, L8, X8, hQ8, st8⟩ := own_callSt X3 hx hZ hown (ow41 hw) (ow42 hw) (ow36 hw) (ow43 hw) (by decide) (rsl1cf l Z a0 hw [] b3 cb3 c0_ T3.heap n0 Zs3 Vq3) rfl (W := 1) (by decide) (by decide) (by decide) (by decide) (pc := 45) (ls := #[rv s_, rv a, iv 0, iv 1, .val .null, rv b3]) (stk := [(.int 1), (.ref b3), (.ref s_)]) (by rw [hml]; rfl) (argsL := [(.ref b3), (.int 1)]) (rest := [(.ref s_)]) (lenOf pd3 rfl) rfl rfl (Nat.le_of_eq rfl) (hb hby d4_45)
  obtain ⟨rfl, Nq8, e8⟩ := hQ8
  have N8 := Fr.app N3 Nq8
  refine OGo.st st8 ?_
  show OG p e below Φ T8 m 48 #[rv s_, rv a, iv 0, iv 1, .val .null, rv b3] [(.int 0), (.ref s_)]
  obtain ⟨T9, h9, X9, e9, W9, st9⟩ := putF X8 hx hZ hown (host := "") (Or.inl (ow32 hw)) Via.refl e8 F6 F4 (Or.inr ⟨(ow28 hw), rfl, hnm⟩) (ow12 hw) (ty := .byte) (by decide) (by decide) (by decide) (g := (mkF m 48 #[rv s_, rv a, iv 0, iv 1, .val .null, rv b3] [(.int 0), (.ref s_)])) rfl rfl (hb hby d4_48)
  have F10 := F4.wr W9
  have F11 := F5.other W9 (Or.inr (slot_ne (Or.inr (ow27 hw)) (Or.inr (ow28 hw)) (by decide) (t := (.array .byte)) (t' := .byte) (by decide) (by decide)))
  have F12 := F6.same W9
  have F13 := F7.other W9 (Ne.symm nsa)
  have F14 := Vq3.other W9 (Ne.symm nq3_s_)
  have K9 := K3.wr W9 (Or.inl (List.mem_of_getElem? (i := 0) rfl))
  have N9 := Fr.snoc X9 N8 g_s
  have Zs9 : n0 ≤ h9.size := by rw [W9.size]; exact Zs3
  refine OGo.st st9 ?_
  show OG p e below Φ T9 m 51 #[rv s_, rv a, iv 0, iv 1, .val .null, rv b3] []
  refine OGo.st (fun _ kz => XS.aloadN X9.here hx rfl (hb hby d4_51) rfl rfl kz) ?_
  show OG p e below Φ T9 m 52 #[rv s_, rv a, iv 0, iv 1, .val .null, rv b3] [(.ref s_)]
  refine OGo.st (fun _ kz => XS.aload X9.here hx rfl (hb hby d4_52) rfl rfl kz) ?_
  show OG p e below Φ T9 m 54 #[rv s_, rv a, iv 0, iv 1, .val .null, rv b3] [(.ref b3), (.ref s_)]
  obtain ⟨T15, h15, X15, e15, W15, st15⟩ := putF X9 hx hZ hown (host := "") (Or.inl (ow31 hw)) Via.refl e9 F11 F10 (Or.inr ⟨(ow27 hw), rfl, hnm⟩) (ow12 hw) (ty := (.array .byte)) (by decide) rfl rfl (g := (mkF m 54 #[rv s_, rv a, iv 0, iv 1, .val .null, rv b3] [(.ref b3), (.ref s_)])) rfl rfl (hb hby d4_54)
  have F16 := F10.wr W15
  have F17 := F11.same W15
  have F18 := F12.other W15 (Or.inr (slot_ne (Or.inr (ow28 hw)) (Or.inr (ow27 hw)) (by decide) (t := .byte) (t' := (.array .byte)) (by decide) (by decide)))
  have F19 := F13.other W15 (Ne.symm nsa)
  have F20 := F14.other W15 (Ne.symm nq3_s_)
  have K15 := K9.wr W15 (Or.inl (List.mem_of_getElem? (i := 0) rfl))
  have N15 := Fr.snoc X15 N9 g_s
  have Zs15 : n0 ≤ h15.size := by rw [W15.size]; exact Zs9
  refine OGo.st st15 ?_
  show OG p e below Φ T15 m 57 #[rv s_, rv a, iv 0, iv 1, .val .null, rv b3] []
  refine OGo.fin X15 hlk (v := none) (fun _ => rfl) (by decide) (by decide) (fun fs hr => X15.returnOut hx hret (hb hby d4_57) hr) fun U eU hF => hΦ _ _ _ ?_ hF
  rw [eU, e15]
  show Q_rsl1i4 Z s_ a ca qc c0_ h0 n0 _ _ _
  exact ⟨rfl, N15, K15, F16, _, _, F17, F18, F20, sq3⟩

theorem ef_rsl1i1 (m : MethodId) (x0 : Addr) (x1 : Addr) : entryFrame m #[(.ref x0), (.ref x1)] 2 = mkF m 0 #[.val (.ref x0), .val (.ref x1)] [] := by first | (simp [entryFrame, mkF, argsToLocals, Value.category]; done) | rfl
def Q_rsl1i1 (Z : State) (s_ : Addr) (a : Addr) (ca : ClassId) (qc : Int32) (c0_ : Int32) (h0 : Heap) (n0 : Nat) (v : Option Value) (h : Heap) (L : List Loc) : Prop := v = none ∧ Fr n0 L ∧ Keep h0 h [s_] ∧ Exa Z h s_ "java/lang/String" ∧ ∃ b cb, Fld Z h s_ "java/lang/String" "value" "[B" (.ref b) ∧ Fld Z h s_ "java/lang/String" "coder" "B" (.int (0 : Int32)) ∧ Arv Z h b cb .byte (1 : Int32) [(.int (nar .byte (c0_.toInt8.toInt32)))] (.int (0 : Int32)) ∧ h0.size ≤ b
set_option maxRecDepth 65536 in
set_option maxHeartbeats 40000000 in
theorem rsl1i1 (l : Launch) (Z : State) (a0 : Array Value) (hw : ∀ d ∈ tables_1, d.before a0 Z = true) (ws : List Jvm.Cond) (s_ : Addr) (a : Addr) (ca : ClassId) (qc : Int32) (c0_ : Int32) (h0 : Heap) (n0 : Nat) (Z0 : n0 ≤ h0.size) (E_s : Exa Z h0 s_ "java/lang/String") (g_s : n0 ≤ s_) (F_v : Fld Z h0 s_ "java/lang/String" "value" "[B" .null) (F_c : Fld Z h0 s_ "java/lang/String" "coder" "B" (.int (0 : Int32))) (V_a : Arv Z h0 a ca .char (1 : Int32) [(.int c0_)] (.int (0 : Int32))) (nsa : s_ ≠ a) (S_q : Sta Z h0 "java/lang/String" "COMPACT_STRINGS" "Z" (.int qc)) (hq : ¬ qc = 0) (hl0 : ¬ (255 : Int32) < c0_) :
    OCon l Z (⟨"java/lang/String", "<init>", "([C)V"⟩ : MethodName) jdk_42_method_3_code 2 none ws ({ frames := 3, cells := 1, slots := 1, locals := 52 } : Room) #[(.ref s_), (.ref a)] h0 (Q_rsl1i1 Z s_ a ca qc c0_ h0 n0) := by
  refine OCon.of (plainFor_of_name pn0) ?_
  intro p e s m below meth c s₁ Φ X0 hx hby hml hown hnm hret hlk hZ e0 hΦ
  have N0 := Fr.nil n0
  refine OGo.st (fun _ kz => castTop (ef_rsl1i1 m s_ a) kz) ?_
  have K0 := Keep.refl h0 [s_]
  show OG p e below Φ s₁ m 0 #[rv s_, rv a] []
  refine OGo.st (fun _ kz => XS.aloadN X0.here hx rfl (hb hby d3_0) rfl rfl kz) ?_
  show OG p e below Φ s₁ m 1 #[rv s_, rv a] [(.ref s_)]
  refine OGo.st (fun _ kz => XS.aloadN X0.here hx rfl (hb hby d3_1) rfl rfl kz) ?_
  show OG p e below Φ s₁ m 2 #[rv s_, rv a] [(.ref a), (.ref s_)]
  refine OGo.st (fun _ kz => XS.iconst X0.here hx rfl (hb hby d3_2) kz) ?_
  show OG p e below Φ s₁ m 3 #[rv s_, rv a] [(.int 0), (.ref a), (.ref s_)]
  refine OGo.st (fun _ kz => XS.aloadN X0.here hx rfl (hb hby d3_3) rfl rfl kz) ?_
  show OG p e below Φ s₁ m 4 #[rv s_, rv a] [(.ref a), (.int 0), (.ref a), (.ref s_)]
  obtain ⟨cl1, Aq1, -, S1, M1, -, -⟩ := id V_a
  refine OGo.st (fun _ kz => X0.arraylength hx (by rw [e0]; exact Aq1.1) (State.isArrayOf_alike hZ.alike Aq1.2.1) (g := (mkF m 4 #[rv s_, rv a] [(.ref a), (.int 0), (.ref a), (.ref s_)])) rfl rfl (hb hby d3_4) _ kz) ?_
  rw [len_of S1 M1]
  show OG p e below Φ s₁ m 5 #[rv s_, rv a] [(.int 1), (.int 0), (.ref a), (.ref s_)]
  refine OGo.st (fun _ kz => XS.aconstNull X0.here hx rfl (hb hby d3_5) kz) ?_
  show OG p e below Φ s₁ m 6 #[rv s_, rv a] [.null, (.int 1), (.int 0), (.ref a), (.ref s_)]
  obtain ⟨_, T2, L2, X2, hQ2, st2⟩ := own_callSp X0 hx hZ rfl hown (ow18 hw) (ow19 hw) (ow13 hw) (ow21 hw) (by decide) (rsl1i4 l Z a0 hw [] s_ a ca qc c0_ h0 n0 Z0 E_s g_s F_v F_c V_a nsa S_q hq hl0) e0 (W := 0) (by decide) (by decide) (by decide) (by decide) (pc := 6) (ls := #[rv s_, rv a]) (stk := [.null, (.int 1), (.int 0), (.ref a), (.ref s_)]) (by rw [hml]; rfl) (a := s_) (argsL := [(.ref a), (.int 0), (.int 1), .null]) (rest := []) (lenOf pd0 rfl) rfl rfl (Nat.le_of_eq rfl) (hb hby d3_6)
  obtain ⟨rfl, Nq2, Kq2, Eq2, b2, cb2, Fv2, Fc2, Vq2, hz2⟩ := hQ2
  have nq2_a : a ≠ b2 := Nat.ne_of_lt (Nat.lt_of_lt_of_le V_a.lt hz2)
  have nq2_s_ : s_ ≠ b2 := Nat.ne_of_lt (Nat.lt_of_lt_of_le E_s.lt hz2)
  have gq2 : n0 ≤ b2 := Nat.le_trans Z0 hz2
  have sq2 : h0.size ≤ b2 := Nat.le_trans K0.1 hz2
  have N2 := Fr.app N0 Nq2
  have Zs2 : n0 ≤ T2.heap.size := Nat.le_trans Z0 Kq2.1
  have F3 := V_a.keep Kq2 (ninS (Ne.symm nsa) nin0)
  have K2 := K0.trans Kq2 (allS (Or.inl (List.mem_of_getElem? (i := 0) rfl)) all0)
  refine OGo.st st2 ?_
  show OG p e below Φ T2 m 9 #[rv s_, rv a] []
  refine OGo.fin X2 hlk (v := none) (fun _ => rfl) (by decide) (by decide) (fun fs hr => X2.returnOut hx hret (hb hby d3_9) hr) fun U eU hF => hΦ _ _ _ ?_ hF
  rw [eU]
  show Q_rsl1i1 Z s_ a ca qc c0_ h0 n0 _ _ _
  exact ⟨rfl, N2, K2, Eq2, _, _, Fv2, Fc2, Vq2, sq2⟩

theorem d7_23 : decode jdk_52_method_21_code 23 = .ok (.iload 5, 2) := by decide +kernel
theorem d7_25 : decode jdk_52_method_21_code 25 = .ok (.ireturn, 1) := by decide +kernel
theorem ef_rsb1_0c2 (m : MethodId) (x0 : Addr) (x1 : Int32) (x2 : Addr) (x3 : Int32) (x4 : Int32) : entryFrame m #[(.ref x0), (.int x1), (.ref x2), (.int x3), (.int x4)] 7 = mkF m 0 #[.val (.ref x0), .val (.int x1), .val (.ref x2), .val (.int x3), .val (.int x4), .unset, .unset] [] := by first | (simp [entryFrame, mkF, argsToLocals, Value.category]; done) | rfl
def Q_rsb1_0c2 (Z : State) (a : Addr) (ca : ClassId) (b : Addr) (cb : ClassId) (c0_ : Int32) (h0 : Heap) (n0 : Nat) (v : Option Value) (h : Heap) (L : List Loc) : Prop := v = some (.int (0 : Int32)) ∧ Fr n0 L ∧ Keep h0 h [b]
set_option maxRecDepth 65536 in
set_option maxHeartbeats 40000000 in
theorem rsb1_0c2 (l : Launch) (Z : State) (a0 : Array Value) (hw : ∀ d ∈ tables_1, d.before a0 Z = true) (ws : List Jvm.Cond) (a : Addr) (ca : ClassId) (b : Addr) (cb : ClassId) (c0_ : Int32) (h0 : Heap) (n0 : Nat) (Z0 : n0 ≤ h0.size) (V_a : Arv Z h0 a ca .char (1 : Int32) [(.int c0_)] (.int (0 : Int32))) (V_b : Arv Z h0 b cb .byte (1 : Int32) [(.int (0 : Int32))] (.int (0 : Int32))) (nab : a ≠ b) (g_b : n0 ≤ b) (hb0 : (255 : Int32) < c0_) :
    OCon l Z (⟨"java/lang/StringUTF16", "compress", "([CI[BII)I"⟩ : MethodName) jdk_52_method_21_code 7 (some .int) ws ({ frames := 0, cells := 0, slots := 0, locals := 0 } : Room) #[(.ref a), (.int (0 : Int32)), (.ref b), (.int (0 : Int32)), (.int (1 : Int32))] h0 (Q_rsb1_0c2 Z a ca b cb c0_ h0 n0) := by
  refine OCon.of (plainFor_of_name pn1) ?_
  intro p e s m below meth c s₁ Φ X0 hx hby hml hown hnm hret hlk hZ e0 hΦ
  have N0 := Fr.nil n0
  refine OGo.st (fun _ kz => castTop (ef_rsb1_0c2 m a (0 : Int32) b (0 : Int32) (1 : Int32)) kz) ?_
  have K0 := Keep.refl h0 [b]
  show OG p e below Φ s₁ m 0 #[rv a, iv 0, rv b, iv 0, iv 1, .unset, .unset] []
  refine OGo.st (fun _ kz => XS.iconst X0.here hx rfl (hb hby d7_0) kz) ?_
  show OG p e below Φ s₁ m 1 #[rv a, iv 0, rv b, iv 0, iv 1, .unset, .unset] [(.int 0)]
  refine OGo.st (fun _ kz => XS.istore X0.here hx rfl (hb hby d7_1) rfl (l' := #[rv a, iv 0, rv b, iv 0, iv 1, iv 0, .unset]) rfl kz) ?_
  show OG p e below Φ s₁ m 3 #[rv a, iv 0, rv b, iv 0, iv 1, iv 0, .unset] []
  refine OGo.st (fun _ kz => XS.iload X0.here hx rfl (hb hby d7_3) rfl kz) ?_
  show OG p e below Φ s₁ m 5 #[rv a, iv 0, rv b, iv 0, iv 1, iv 0, .unset] [(.int 0)]
  refine OGo.st (fun _ kz => XS.iload X0.here hx rfl (hb hby d7_5) rfl kz) ?_
  show OG p e below Φ s₁ m 7 #[rv a, iv 0, rv b, iv 0, iv 1, iv 0, .unset] [(.int 1), (.int 0)]
  refine OGo.st (fun _ kz => XS.icmpNo X0.here hx rfl (hb hby d7_7) rfl (XT.ii_ge_f (by decide)) kz) ?_
  show OG p e below Φ s₁ m 10 #[rv a, iv 0, rv b, iv 0, iv 1, iv 0, .unset] []
  refine OGo.st (fun _ kz => XS.aloadN X0.here hx rfl (hb hby d7_10) rfl rfl kz) ?_
  show OG p e below Φ s₁ m 11 #[rv a, iv 0, rv b, iv 0, iv 1, iv 0, .unset] [(.ref a)]
  refine OGo.st (fun _ kz => XS.iloadN X0.here hx rfl (hb hby d7_11) rfl kz) ?_
  show OG p e below Φ s₁ m 12 #[rv a, iv 0, rv b, iv 0, iv 1, iv 0, .unset] [(.int 0), (.ref a)]
  obtain ⟨cl1, Aq1, -, S1, M1, H1, -⟩ := id V_a
  have in1 : ¬ ((0 : Int32) < 0 ∨ cl1.slots.size ≤ (0 : Int32).toNatClampNeg) := inb_of S1 ⟨by decide, by decide⟩
  have at1 : cl1.slots[(0 : Int32).toNatClampNeg]? = some (.int c0_) := H1.at in1 rfl
  refine OGo.st (fun _ kz => X0.caload hx (by rw [e0]; exact Aq1.1) (State.isArrayOf_alike hZ.alike Aq1.2.1) Aq1.2.2 in1 at1 (g := (mkF m 12 #[rv a, iv 0, rv b, iv 0, iv 1, iv 0, .unset] [(.int 0), (.ref a)])) rfl rfl (hb hby d7_12) _ kz) ?_
  show OG p e below Φ s₁ m 13 #[rv a, iv 0, rv b, iv 0, iv 1, iv 0, .unset] [(.int c0_)]
  refine OGo.st (fun _ kz => XS.istore X0.here hx rfl (hb hby d7_13) rfl (l' := #[rv a, iv 0, rv b, iv 0, iv 1, iv 0, iv c0_]) rfl kz) ?_
  show OG p e below Φ s₁ m 15 #[rv a, iv 0, rv b, iv 0, iv 1, iv 0, iv c0_] []
  refine OGo.st (fun _ kz => XS.iload X0.here hx rfl (hb hby d7_15) rfl kz) ?_
  show OG p e below Φ s₁ m 17 #[rv a, iv 0, rv b, iv 0, iv 1, iv 0, iv c0_] [(.int c0_)]
  refine OGo.st (fun _ kz => XS.sipush X0.here hx rfl (hb hby d7_17) kz) ?_
  show OG p e below Φ s₁ m 20 #[rv a, iv 0, rv b, iv 0, iv 1, iv 0, iv c0_] [(.int 255), (.int c0_)]
  refine OGo.st (fun _ kz => XS.icmpNo X0.here hx rfl (hb hby d7_20) rfl (XT.ii_le_f hb0) kz) ?_
  show OG p e below Φ s₁ m 23 #[rv a, iv 0, rv b, iv 0, iv 1, iv 0, iv c0_] []
  refine OGo.st (fun _ kz => XS.iload X0.here hx rfl (hb hby d7_23) rfl kz) ?_
  show OG p e below Φ s₁ m 25 #[rv a, iv 0, rv b, iv 0, iv 1, iv 0, iv c0_] [(.int 0)]
  refine OGo.fin X0 hlk (v := (some (.int 0))) (fun h => by rw [hret] at h; cases h) (by decide) (by decide) (fun fs hr => X0.ireturnOut hx hret rfl (by simp) (hb hby d7_25) hr) fun U eU hF => hΦ _ _ _ ?_ hF
  rw [eU, e0]
  show Q_rsb1_0c2 Z a ca b cb c0_ h0 n0 _ _ _
  exact ⟨rfl, N0, K0⟩

theorem d21_0 : decode jdk_52_method_3_code 0 = .ok (.iload_n 0, 1) := by decide +kernel
theorem d21_1 : decode jdk_52_method_3_code 1 = .ok (.ifCond .ge 11, 3) := by decide +kernel
theorem d21_12 : decode jdk_52_method_3_code 12 = .ok (.iload_n 0, 1) := by decide +kernel
theorem d21_13 : decode jdk_52_method_3_code 13 = .ok (.ldc 20, 2) := by decide +kernel
theorem d21_15 : decode jdk_52_method_3_code 15 = .ok (.if_icmp .lt 40, 3) := by decide +kernel
theorem d21_55 : decode jdk_52_method_3_code 55 = .ok (.iload_n 0, 1) := by decide +kernel
theorem d21_56 : decode jdk_52_method_3_code 56 = .ok (.iconst 1, 1) := by decide +kernel
theorem d21_57 : decode jdk_52_method_3_code 57 = .ok (.ishl, 1) := by decide +kernel
theorem d21_58 : decode jdk_52_method_3_code 58 = .ok (.ireturn, 1) := by decide +kernel
theorem ef_rsb1_0nl (m : MethodId) (x0 : Int32) : entryFrame m #[(.int x0)] 1 = mkF m 0 #[.val (.int x0)] [] := by first | (simp [entryFrame, mkF, argsToLocals, Value.category]; done) | rfl
def Q_rsb1_0nl (Z : State)  (h0 : Heap) (n0 : Nat) (v : Option Value) (h : Heap) (L : List Loc) : Prop := v = some (.int (2 : Int32)) ∧ Fr n0 L ∧ h = h0
set_option maxRecDepth 65536 in
set_option maxHeartbeats 40000000 in
theorem rsb1_0nl (l : Launch) (Z : State) (a0 : Array Value) (hw : ∀ d ∈ tables_1, d.before a0 Z = true) (ws : List Jvm.Cond)  (h0 : Heap) (n0 : Nat) (Z0 : n0 ≤ h0.size)  :
    OCon l Z (⟨"java/lang/StringUTF16", "newBytesLength", "(I)I"⟩ : MethodName) jdk_52_method_3_code 1 (some .int) ws ({ frames := 0, cells := 0, slots := 0, locals := 0 } : Room) #[(.int (1 : Int32))] h0 (Q_rsb1_0nl Z  h0 n0) := by
  refine OCon.of (plainFor_of_name pn1) ?_
  intro p e s m below meth c s₁ Φ X0 hx hby hml hown hnm hret hlk hZ e0 hΦ
  have N0 := Fr.nil n0
  refine OGo.st (fun _ kz => castTop (ef_rsb1_0nl m (1 : Int32)) kz) ?_
  show OG p e below Φ s₁ m 0 #[iv 1] []
  refine OGo.st (fun _ kz => XS.iloadN X0.here hx rfl (hb hby d21_0) rfl kz) ?_
  show OG p e below Φ s₁ m 1 #[iv 1] [(.int 1)]
  refine OGo.st (fun _ kz => XS.ifYes X0.here hx rfl (pc0 := 1) (pc' := 12) rfl (hb hby d21_1) rfl (XT.i0_ge_t (by decide)) (by decide) (by decide) kz) ?_
  show OG p e below Φ s₁ m 12 #[iv 1] []
  refine OGo.st (fun _ kz => XS.iloadN X0.here hx rfl (hb hby d21_12) rfl kz) ?_
  show OG p e below Φ s₁ m 13 #[iv 1] [(.int 1)]
  refine OGo.st (fun _ kz => X0.ldcI hx hown (mvT hZ (ow113 hw)) rfl (hb hby d21_13) kz) ?_
  show OG p e below Φ s₁ m 15 #[iv 1] [(.int 1073741823), (.int 1)]
  refine OGo.st (fun _ kz => XS.icmpYes X0.here hx rfl (pc0 := 15) (pc' := 55) rfl (hb hby d21_15) rfl (XT.ii_lt_t (by decide)) (by decide) (by decide) kz) ?_
  show OG p e below Φ s₁ m 55 #[iv 1] []
  refine OGo.st (fun _ kz => XS.iloadN X0.here hx rfl (hb hby d21_55) rfl kz) ?_
  show OG p e below Φ s₁ m 56 #[iv 1] [(.int 1)]
  refine OGo.st (fun _ kz => XS.iconst X0.here hx rfl (hb hby d21_56) kz) ?_
  show OG p e below Φ s₁ m 57 #[iv 1] [(.int 1), (.int 1)]
  refine OGo.st (fun _ kz => XT.ishl X0.here hx rfl (hb hby d21_57) rfl kz) ?_
  show OG p e below Φ s₁ m 58 #[iv 1] [(.int 2)]
  refine OGo.fin X0 hlk (v := (some (.int 2))) (fun h => by rw [hret] at h; cases h) (by decide) (by decide) (fun fs hr => X0.ireturnOut hx hret rfl (by simp) (hb hby d21_58) hr) fun U eU hF => hΦ _ _ _ ?_ hF
  rw [eU, e0]
  show Q_rsb1_0nl Z  h0 n0 _ _ _
  exact ⟨rfl, N0, rfl⟩

theorem d20_0 : decode jdk_52_method_2_code 0 = .ok (.iload_n 0, 1) := by decide +kernel
theorem d20_1 : decode jdk_52_method_2_code 1 = .ok (.invokestatic 11, 3) := by decide +kernel
theorem pd4 : parseMethodDescriptor "(I)I" = some ⟨[.int], some .int⟩ := by decide +kernel
theorem d20_4 : decode jdk_52_method_2_code 4 = .ok (.newarray .byte, 2) := by decide +kernel
theorem d20_6 : decode jdk_52_method_2_code 6 = .ok (.areturn, 1) := by decide +kernel
theorem ef_rsb1_0nf (m : MethodId) (x0 : Int32) : entryFrame m #[(.int x0)] 1 = mkF m 0 #[.val (.int x0)] [] := by first | (simp [entryFrame, mkF, argsToLocals, Value.category]; done) | rfl
def Q_rsb1_0nf (Z : State)  (h0 : Heap) (n0 : Nat) (v : Option Value) (h : Heap) (L : List Loc) : Prop := ∃ b cb, v = some (.ref b) ∧ Fr n0 L ∧ Keep h0 h [] ∧ Arv Z h b cb .byte (2 : Int32) [(.int (0 : Int32)), (.int (0 : Int32))] (.int (0 : Int32)) ∧ h0.size ≤ b
set_option maxRecDepth 65536 in
set_option maxHeartbeats 40000000 in
theorem rsb1_0nf (l : Launch) (Z : State) (a0 : Array Value) (hw : ∀ d ∈ tables_1, d.before a0 Z = true) (ws : List Jvm.Cond)  (h0 : Heap) (n0 : Nat) (Z0 : n0 ≤ h0.size)  :
    OCon l Z (⟨"java/lang/StringUTF16", "newBytesFor", "(I)[B"⟩ : MethodName) jdk_52_method_2_code 1 (some (.array .byte)) ws ({ frames := 1, cells := 1, slots := 2, locals := 12 } : Room) #[(.int (1 : Int32))] h0 (Q_rsb1_0nf Z  h0 n0) := by
  refine OCon.of (plainFor_of_name pn1) ?_
  intro p e s m below meth c s₁ Φ X0 hx hby hml hown hnm hret hlk hZ e0 hΦ
  have N0 := Fr.nil n0
  refine OGo.st (fun _ kz => castTop (ef_rsb1_0nf m (1 : Int32)) kz) ?_
  have K0 := Keep.refl h0 []
  show OG p e below Φ s₁ m 0 #[iv 1] []
  refine OGo.st (fun _ kz => XS.iloadN X0.here hx rfl (hb hby d20_0) rfl kz) ?_
  show OG p e below Φ s₁ m 1 #[iv 1] [(.int 1)]
  obtain ⟨_, T1, L1, X1, hQ1, st1⟩ := own_callSt X0 hx hZ hown (ow110 hw) (ow111 hw) (ow36 hw) (ow112 hw) (by decide) (rsb1_0nl l Z a0 hw []  h0 n0 Z0 ) e0 (W := 0) (by decide) (by decide) (by decide) (by decide) (pc := 1) (ls := #[iv 1]) (stk := [(.int 1)]) (by rw [hml]; rfl) (argsL := [(.int 1)]) (rest := []) (lenOf pd4 rfl) rfl rfl (Nat.le_of_eq rfl) (hb hby d20_1)
  obtain ⟨rfl, Nq1, e1⟩ := hQ1
  have N1 := Fr.app N0 Nq1
  refine OGo.st st1 ?_
  show OG p e below Φ T1 m 4 #[iv 1] [(.int 2)]
  obtain ⟨T2, h2, c2, X2, e2, E2, Ar2, st2⟩ := newP (aty := .byte) X1 hx hZ (ow26 hw) e1 (g := (mkF m 4 #[iv 1] [(.int 2)])) rfl (hb hby d20_4) rfl (by decide) (cap := 2) (by decide) (by decide) (by decide) (by decide)
  obtain ⟨b2, g2⟩ : ∃ z, z = h0.size := ⟨_, rfl⟩
  rw [← g2] at Ar2 st2
  have gb2 : n0 ≤ b2 := Nat.le_trans Z0 (Nat.le_of_eq g2.symm)
  have sz2 : h0.size ≤ b2 := Nat.le_trans K0.1 (Nat.le_of_eq g2.symm)
  have K2 := K0.ext E2
  have Zs2 : n0 ≤ h2.size := Nat.le_trans Z0 E2.1
  have V2 : Arv Z h2 b2 c2 .byte (2 : Int32) [(.int (0 : Int32)), (.int (0 : Int32))] (.int (0 : Int32)) := (Arv.new Ar2 (by decide)).pad (pad_rep [] _ 2)
  refine OGo.st st2 ?_
  show OG p e below Φ T2 m 6 #[iv 1] [(.ref b2)]
  refine OGo.fin X2 hlk (v := (some (.ref b2))) (fun h => by rw [hret] at h; cases h) (by decide) (by decide) (fun fs hr => X2.areturnOut hx rfl hret rfl (hb hby d20_6) hr) fun U eU hF => hΦ _ _ _ ?_ hF
  rw [eU, e2]
  show Q_rsb1_0nf Z  h0 n0 _ _ _
  exact ⟨_, _, rfl, N1, K2, V2, sz2⟩

theorem d22_0 : decode jdk_52_method_4_code 0 = .ok (.getstatic 44, 3) := by decide +kernel
theorem d22_3 : decode jdk_52_method_4_code 3 = .ok (.ifCond .ne 25, 3) := by decide +kernel
theorem d22_28 : decode jdk_52_method_4_code 28 = .ok (.iload_n 1, 1) := by decide +kernel
theorem d22_29 : decode jdk_52_method_4_code 29 = .ok (.iconst 1, 1) := by decide +kernel
theorem d22_30 : decode jdk_52_method_4_code 30 = .ok (.ishl, 1) := by decide +kernel
theorem d22_31 : decode jdk_52_method_4_code 31 = .ok (.istore_n 1, 1) := by decide +kernel
theorem d22_32 : decode jdk_52_method_4_code 32 = .ok (.aload_n 0, 1) := by decide +kernel
theorem d22_33 : decode jdk_52_method_4_code 33 = .ok (.iload_n 1, 1) := by decide +kernel
theorem d22_34 : decode jdk_52_method_4_code 34 = .ok (.iinc 1 1, 3) := by decide +kernel
theorem d22_37 : decode jdk_52_method_4_code 37 = .ok (.iload_n 2, 1) := by decide +kernel
theorem d22_38 : decode jdk_52_method_4_code 38 = .ok (.getstatic 59, 3) := by decide +kernel
theorem d22_41 : decode jdk_52_method_4_code 41 = .ok (.ishr, 1) := by decide +kernel
theorem d22_42 : decode jdk_52_method_4_code 42 = .ok (.i2b, 1) := by decide +kernel
theorem d22_43 : decode jdk_52_method_4_code 43 = .ok (.bastore, 1) := by decide +kernel
theorem d22_44 : decode jdk_52_method_4_code 44 = .ok (.aload_n 0, 1) := by decide +kernel
theorem d22_45 : decode jdk_52_method_4_code 45 = .ok (.iload_n 1, 1) := by decide +kernel
theorem d22_46 : decode jdk_52_method_4_code 46 = .ok (.iload_n 2, 1) := by decide +kernel
theorem d22_47 : decode jdk_52_method_4_code 47 = .ok (.getstatic 63, 3) := by decide +kernel
theorem d22_50 : decode jdk_52_method_4_code 50 = .ok (.ishr, 1) := by decide +kernel
theorem d22_51 : decode jdk_52_method_4_code 51 = .ok (.i2b, 1) := by decide +kernel
theorem d22_52 : decode jdk_52_method_4_code 52 = .ok (.bastore, 1) := by decide +kernel
theorem d22_53 : decode jdk_52_method_4_code 53 = .ok (.return_, 1) := by decide +kernel
theorem ef_rsb1_0pc0 (m : MethodId) (x0 : Addr) (x1 : Int32) (x2 : Int32) : entryFrame m #[(.ref x0), (.int x1), (.int x2)] 3 = mkF m 0 #[.val (.ref x0), .val (.int x1), .val (.int x2)] [] := by first | (simp [entryFrame, mkF, argsToLocals, Value.category]; done) | rfl
def Q_rsb1_0pc0 (Z : State) (b : Addr) (cb : ClassId) (c0_ : Int32) (h0 : Heap) (n0 : Nat) (v : Option Value) (h : Heap) (L : List Loc) : Prop := v = none ∧ Fr n0 L ∧ Keep h0 h [b] ∧ Arv Z h b cb .byte (2 : Int32) [(.int (nar .byte (c0_ >>> (0 &&& 31)).toInt8.toInt32)), (.int (nar .byte (c0_ >>> (8 &&& 31)).toInt8.toInt32))] (.int (0 : Int32))
set_option maxRecDepth 65536 in
set_option maxHeartbeats 40000000 in
theorem rsb1_0pc0 (l : Launch) (Z : State) (a0 : Array Value) (hw : ∀ d ∈ tables_1, d.before a0 Z = true) (ws : List Jvm.Cond) (b : Addr) (cb : ClassId) (c0_ : Int32) (h0 : Heap) (n0 : Nat) (Z0 : n0 ≤ h0.size) (V_b : Arv Z h0 b cb .byte (2 : Int32) [(.int (0 : Int32)), (.int (0 : Int32))] (.int (0 : Int32))) (g_b : n0 ≤ b) (S_ad : Sta Z h0 "java/lang/StringUTF16" "$assertionsDisabled" "Z" (.int (1 : Int32))) (S_hb : Sta Z h0 "java/lang/StringUTF16" "HI_BYTE_SHIFT" "I" (.int (0 : Int32))) (S_lb : Sta Z h0 "java/lang/StringUTF16" "LO_BYTE_SHIFT" "I" (.int (8 : Int32))) :
    OCon l Z (⟨"java/lang/StringUTF16", "putChar", "([BII)V"⟩ : MethodName) jdk_52_method_4_code 3 none ws ({ frames := 0, cells := 0, slots := 0, locals := 0 } : Room) #[(.ref b), (.int (0 : Int32)), (.int c0_)] h0 (Q_rsb1_0pc0 Z b cb c0_ h0 n0) := by
  refine OCon.of (plainFor_of_name pn1) ?_
  intro p e s m below meth c s₁ Φ X0 hx hby hml hown hnm hret hlk hZ e0 hΦ
  have N0 := Fr.nil n0
  refine OGo.st (fun _ kz => castTop (ef_rsb1_0pc0 m b (0 : Int32) c0_) kz) ?_
  have K0 := Keep.refl h0 [b]
  show OG p e below Φ s₁ m 0 #[rv b, iv 0, iv c0_] []
  obtain ⟨T1, X1, e1, st1⟩ := getS2 X0 hx hZ hown (host := "") (Or.inl (ow117 hw)) Via.refl e0 S_ad (g := (mkF m 0 #[rv b, iv 0, iv c0_] [])) rfl (hb hby d22_0)
  refine OGo.st st1 ?_
  show OG p e below Φ T1 m 3 #[rv b, iv 0, iv c0_] [(.int 1)]
  refine OGo.st (fun _ kz => XS.ifYes X1.here hx rfl (pc0 := 3) (pc' := 28) rfl (hb hby d22_3) rfl (XT.i0_ne_t (by decide)) (by decide) (by decide) kz) ?_
  show OG p e below Φ T1 m 28 #[rv b, iv 0, iv c0_] []
  refine OGo.st (fun _ kz => XS.iloadN X1.here hx rfl (hb hby d22_28) rfl kz) ?_
  show OG p e below Φ T1 m 29 #[rv b, iv 0, iv c0_] [(.int 0)]
  refine OGo.st (fun _ kz => XS.iconst X1.here hx rfl (hb hby d22_29) kz) ?_
  show OG p e below Φ T1 m 30 #[rv b, iv 0, iv c0_] [(.int 1), (.int 0)]
  refine OGo.st (fun _ kz => XT.ishl X1.here hx rfl (hb hby d22_30) rfl kz) ?_
  show OG p e below Φ T1 m 31 #[rv b, iv 0, iv c0_] [(.int 0)]
  refine OGo.st (fun _ kz => XS.istoreN X1.here hx rfl (hb hby d22_31) rfl (l' := #[rv b, iv 0, iv c0_]) rfl kz) ?_
  show OG p e below Φ T1 m 32 #[rv b, iv 0, iv c0_] []
  refine OGo.st (fun _ kz => XS.aloadN X1.here hx rfl (hb hby d22_32) rfl rfl kz) ?_
  show OG p e below Φ T1 m 33 #[rv b, iv 0, iv c0_] [(.ref b)]
  refine OGo.st (fun _ kz => XS.iloadN X1.here hx rfl (hb hby d22_33) rfl kz) ?_
  show OG p e below Φ T1 m 34 #[rv b, iv 0, iv c0_] [(.int 0), (.ref b)]
  refine OGo.st (fun _ kz => XS.iinc X1.here hx rfl (hb hby d22_34) rfl (l' := #[rv b, iv ((0 : Int32) + (1 : Int32)), iv c0_]) rfl kz) ?_
  show OG p e below Φ T1 m 37 #[rv b, iv 1, iv c0_] [(.int 0), (.ref b)]
  refine OGo.st (fun _ kz => XS.iloadN X1.here hx rfl (hb hby d22_37) rfl kz) ?_
  show OG p e below Φ T1 m 38 #[rv b, iv 1, iv c0_] [(.int c0_), (.int 0), (.ref b)]
  obtain ⟨T2, X2, e2, st2⟩ := getS2 X1 hx hZ hown (host := "") (Or.inl (ow118 hw)) Via.refl e1 S_hb (g := (mkF m 38 #[rv b, iv 1, iv c0_] [(.int c0_), (.int 0), (.ref b)])) rfl (hb hby d22_38)
  refine OGo.st st2 ?_
  show OG p e below Φ T2 m 41 #[rv b, iv 1, iv c0_] [(.int 0), (.int c0_), (.int 0), (.ref b)]
  refine OGo.st (fun _ kz => XT.ishr X2.here hx rfl (hb hby d22_41) rfl kz) ?_
  show OG p e below Φ T2 m 42 #[rv b, iv 1, iv c0_] [(.int (c0_ >>> ((0 : Int32) &&& 31))), (.int 0), (.ref b)]
  refine OGo.st (fun _ kz => XT.i2b X2.here hx rfl (hb hby d22_42) rfl kz) ?_
  show OG p e below Φ T2 m 43 #[rv b, iv 1, iv c0_] [(.int ((c0_ >>> ((0 : Int32) &&& 31)).toInt8.toInt32)), (.int 0), (.ref b)]
  obtain ⟨cl3, Aq3, Cq3, S3, M3, H3, G3⟩ := id V_b
  have in3 : ¬ ((0 : Int32) < 0 ∨ cl3.slots.size ≤ (0 : Int32).toNatClampNeg) := inb_of S3 ⟨by decide, by decide⟩
  obtain ⟨T3, h3, X3, e3, W3, st3⟩ := stB X2 hx hZ e2 Aq3 in3 (g := (mkF m 43 #[rv b, iv 1, iv c0_] [(.int ((c0_ >>> ((0 : Int32) &&& 31)).toInt8.toInt32)), (.int 0), (.ref b)])) rfl rfl (hb hby d22_43)
  have W3 : Wr h0 h3 b (0 : Int32).toNatClampNeg (.int (nar .byte ((c0_ >>> ((0 : Int32) &&& 31)).toInt8.toInt32))) := W3
  have F4 := S_ad.wr W3
  have F5 := S_hb.wr W3
  have F6 := S_lb.wr W3
  have V3 : Arv Z h3 b cb .byte (2 : Int32) [(.int (nar .byte ((c0_ >>> ((0 : Int32) &&& 31)).toInt8.toInt32))), (.int (0 : Int32))] (.int (0 : Int32)) := Arv.set Aq3 Cq3 S3 M3 H3 G3 (fits_nar_byte _) W3 0 (by decide) (by show 0 < 2; decide)
  have K3 := K0.wr W3 (Or.inl (List.mem_of_getElem? (i := 0) rfl))
  have N3 := Fr.snoc X3 N0 g_b
  have Zs3 : n0 ≤ h3.size := by rw [W3.size]; exact Z0
  refine OGo.st st3 ?_
  show OG p e below Φ T3 m 44 #[rv b, iv 1, iv c0_] []
  refine OGo.st (fun _ kz => XS.aloadN X3.here hx rfl (hb hby d22_44) rfl rfl kz) ?_
  show OG p e below Φ T3 m 45 #[rv b, iv 1, iv c0_] [(.ref b)]
  refine OGo.st (fun _ kz => XS.iloadN X3.here hx rfl (hb hby d22_45) rfl kz) ?_
  show OG p e below Φ T3 m 46 #[rv b, iv 1, iv c0_] [(.int 1), (.ref b)]
  refine OGo.st (fun _ kz => XS.iloadN X3.here hx rfl (hb hby d22_46) rfl kz) ?_
  show OG p e below Φ T3 m 47 #[rv b, iv 1, iv c0_] [(.int c0_), (.int 1), (.ref b)]
  obtain ⟨T7, X7, e7, st7⟩ := getS2 X3 hx hZ hown (host := "") (Or.inl (ow119 hw)) Via.refl e3 F6 (g := (mkF m 47 #[rv b, iv 1, iv c0_] [(.int c0_), (.int 1), (.ref b)])) rfl (hb hby d22_47)
  refine OGo.st st7 ?_
  show OG p e below Φ T7 m 50 #[rv b, iv 1, iv c0_] [(.int 8), (.int c0_), (.int 1), (.ref b)]
  refine OGo.st (fun _ kz => XT.ishr X7.here hx rfl (hb hby d22_50) rfl kz) ?_
  show OG p e below Φ T7 m 51 #[rv b, iv 1, iv c0_] [(.int (c0_ >>> ((8 : Int32) &&& 31))), (.int 1), (.ref b)]
  refine OGo.st (fun _ kz => XT.i2b X7.here hx rfl (hb hby d22_51) rfl kz) ?_
  show OG p e below Φ T7 m 52 #[rv b, iv 1, iv c0_] [(.int ((c0_ >>> ((8 : Int32) &&& 31)).toInt8.toInt32)), (.int 1), (.ref b)]
  obtain ⟨cl8, Aq8, Cq8, S8, M8, H8, G8⟩ := id V3
  have in8 : ¬ ((1 : Int32) < 0 ∨ cl8.slots.size ≤ (1 : Int32).toNatClampNeg) := inb_of S8 ⟨by decide, by decide⟩
  obtain ⟨T8, h8, X8, e8, W8, st8⟩ := stB X7 hx hZ e7 Aq8 in8 (g := (mkF m 52 #[rv b, iv 1, iv c0_] [(.int ((c0_ >>> ((8 : Int32) &&& 31)).toInt8.toInt32)), (.int 1), (.ref b)])) rfl rfl (hb hby d22_52)
  have W8 : Wr h3 h8 b (1 : Int32).toNatClampNeg (.int (nar .byte ((c0_ >>> ((8 : Int32) &&& 31)).toInt8.toInt32))) := W8
  have F9 := F4.wr W8
  have F10 := F5.wr W8
  have F11 := F6.wr W8
  have V8 : Arv Z h8 b cb .byte (2 : Int32) [(.int (nar .byte ((c0_ >>> ((0 : Int32) &&& 31)).toInt8.toInt32))), (.int (nar .byte ((c0_ >>> ((8 : Int32) &&& 31)).toInt8.toInt32)))] (.int (0 : Int32)) := Arv.set Aq8 Cq8 S8 M8 H8 G8 (fits_nar_byte _) W8 1 (by decide) (by show 1 < 2; decide)
  have K8 := K3.wr W8 (Or.inl (List.mem_of_getElem? (i := 0) rfl))
  have N8 := Fr.snoc X8 N3 g_b
  have Zs8 : n0 ≤ h8.size := by rw [W8.size]; exact Zs3
  refine OGo.st st8 ?_
  show OG p e below Φ T8 m 53 #[rv b, iv 1, iv c0_] []
  refine OGo.fin X8 hlk (v := none) (fun _ => rfl) (by decide) (by decide) (fun fs hr => X8.returnOut hx hret (hb hby d22_53) hr) fun U eU hF => hΦ _ _ _ ?_ hF
  rw [eU, e8]
  show Q_rsb1_0pc0 Z b cb c0_ h0 n0 _ _ _
  exact ⟨rfl, N8, K8, V8⟩

theorem d19_0 : decode jdk_52_method_14_code 0 = .ok (.iload_n 2, 1) := by decide +kernel
theorem d19_1 : decode jdk_52_method_14_code 1 = .ok (.invokestatic 107, 3) := by decide +kernel
theorem pd5 : parseMethodDescriptor "(I)[B" = some ⟨[.int], some (.array .byte)⟩ := by decide +kernel
theorem d19_4 : decode jdk_52_method_14_code 4 = .ok (.astore_n 3, 1) := by decide +kernel
theorem d19_5 : decode jdk_52_method_14_code 5 = .ok (.iconst 0, 1) := by decide +kernel
theorem d19_6 : decode jdk_52_method_14_code 6 = .ok (.istore 4, 2) := by decide +kernel
theorem d19_8 : decode jdk_52_method_14_code 8 = .ok (.iload 4, 2) := by decide +kernel
theorem d19_10 : decode jdk_52_method_14_code 10 = .ok (.iload_n 2, 1) := by decide +kernel
theorem d19_11 : decode jdk_52_method_14_code 11 = .ok (.if_icmp .ge 21, 3) := by decide +kernel
theorem d19_14 : decode jdk_52_method_14_code 14 = .ok (.aload_n 3, 1) := by decide +kernel
theorem d19_15 : decode jdk_52_method_14_code 15 = .ok (.iload 4, 2) := by decide +kernel
theorem d19_17 : decode jdk_52_method_14_code 17 = .ok (.aload_n 0, 1) := by decide +kernel
theorem d19_18 : decode jdk_52_method_14_code 18 = .ok (.iload_n 1, 1) := by decide +kernel
theorem d19_19 : decode jdk_52_method_14_code 19 = .ok (.caload, 1) := by decide +kernel
theorem d19_20 : decode jdk_52_method_14_code 20 = .ok (.invokestatic 111, 3) := by decide +kernel
theorem pd6 : parseMethodDescriptor "([BII)V" = some ⟨[(.array .byte), .int, .int], none⟩ := by decide +kernel
theorem d19_23 : decode jdk_52_method_14_code 23 = .ok (.iinc 1 1, 3) := by decide +kernel
theorem d19_26 : decode jdk_52_method_14_code 26 = .ok (.iinc 4 1, 3) := by decide +kernel
theorem d19_29 : decode jdk_52_method_14_code 29 = .ok (.goto (-21), 3) := by decide +kernel
theorem d19_32 : decode jdk_52_method_14_code 32 = .ok (.aload_n 3, 1) := by decide +kernel
theorem d19_33 : decode jdk_52_method_14_code 33 = .ok (.areturn, 1) := by decide +kernel
theorem ef_rsb1_0tb (m : MethodId) (x0 : Addr) (x1 : Int32) (x2 : Int32) : entryFrame m #[(.ref x0), (.int x1), (.int x2)] 5 = mkF m 0 #[.val (.ref x0), .val (.int x1), .val (.int x2), .unset, .unset] [] := by first | (simp [entryFrame, mkF, argsToLocals, Value.category]; done) | rfl
def Q_rsb1_0tb (Z : State) (a : Addr) (ca : ClassId) (c0_ : Int32) (h0 : Heap) (n0 : Nat) (v : Option Value) (h : Heap) (L : List Loc) : Prop := ∃ b cb, v = some (.ref b) ∧ Fr n0 L ∧ Keep h0 h [] ∧ Arv Z h b cb .byte (2 : Int32) [(.int (nar .byte (c0_ >>> (0 &&& 31)).toInt8.toInt32)), (.int (nar .byte (c0_ >>> (8 &&& 31)).toInt8.toInt32))] (.int (0 : Int32)) ∧ h0.size ≤ b
set_option maxRecDepth 65536 in
set_option maxHeartbeats 40000000 in
theorem rsb1_0tb (l : Launch) (Z : State) (a0 : Array Value) (hw : ∀ d ∈ tables_1, d.before a0 Z = true) (ws : List Jvm.Cond) (a : Addr) (ca : ClassId) (c0_ : Int32) (h0 : Heap) (n0 : Nat) (Z0 : n0 ≤ h0.size) (V_a : Arv Z h0 a ca .char (1 : Int32) [(.int c0_)] (.int (0 : Int32))) (O_0 : Old Z n0 h0) (S_ad : Sta Z Z.heap "java/lang/StringUTF16" "$assertionsDisabled" "Z" (.int (1 : Int32))) (S_hb : Sta Z Z.heap "java/lang/StringUTF16" "HI_BYTE_SHIFT" "I" (.int (0 : Int32))) (S_lb : Sta Z Z.heap "java/lang/StringUTF16" "LO_BYTE_SHIFT" "I" (.int (8 : Int32))) :
    OCon l Z (⟨"java/lang/StringUTF16", "toBytes", "([CII)[B"⟩ : MethodName) jdk_52_method_14_code 5 (some (.array .byte)) ws ({ frames := 2, cells := 1, slots := 2, locals := 24 } : Room) #[(.ref a), (.int (0 : Int32)), (.int (1 : Int32))] h0 (Q_rsb1_0tb Z a ca c0_ h0 n0) := by
  refine OCon.of (plainFor_of_name pn1) ?_
  intro p e s m below meth c s₁ Φ X0 hx hby hml hown hnm hret hlk hZ e0 hΦ
  have N0 := Fr.nil n0
  refine OGo.st (fun _ kz => castTop (ef_rsb1_0tb m a (0 : Int32) (1 : Int32)) kz) ?_
  have K0 := Keep.refl h0 []
  show OG p e below Φ s₁ m 0 #[rv a, iv 0, iv 1, .unset, .unset] []
  refine OGo.st (fun _ kz => XS.iloadN X0.here hx rfl (hb hby d19_0) rfl kz) ?_
  show OG p e below Φ s₁ m 1 #[rv a, iv 0, iv 1, .unset, .unset] [(.int 1)]
  obtain ⟨_, T1, L1, X1, hQ1, st1⟩ := own_callSt X0 hx hZ hown (ow107 hw) (ow108 hw) (ow36 hw) (ow109 hw) (by decide) (rsb1_0nf l Z a0 hw []  h0 n0 Z0 ) e0 (W := 0) (by decide) (by decide) (by decide) (by decide) (pc := 1) (ls := #[rv a, iv 0, iv 1, .unset, .unset]) (stk := [(.int 1)]) (by rw [hml]; rfl) (argsL := [(.int 1)]) (rest := []) (lenOf pd5 rfl) rfl rfl (Nat.le_of_eq rfl) (hb hby d19_1)
  obtain ⟨b1, cb1, rfl, Nq1, Kq1, Vq1, hz1⟩ := hQ1
  have nq1_a : a ≠ b1 := Nat.ne_of_lt (Nat.lt_of_lt_of_le V_a.lt hz1)
  have gq1 : n0 ≤ b1 := Nat.le_trans Z0 hz1
  have sq1 : h0.size ≤ b1 := Nat.le_trans K0.1 hz1
  have N1 := Fr.app N0 Nq1
  have Zs1 : n0 ≤ T1.heap.size := Nat.le_trans Z0 Kq1.1
  have F2 := V_a.keep Kq1 nin0
  have F3 := O_0.keep Kq1 all0
  have K1 := K0.trans Kq1 all0
  refine OGo.st st1 ?_
  show OG p e below Φ T1 m 4 #[rv a, iv 0, iv 1, .unset, .unset] [(.ref b1)]
  refine OGo.st (fun _ kz => XS.astoreN X1.here hx rfl (hb hby d19_4) rfl rfl (l' := #[rv a, iv 0, iv 1, rv b1, .unset]) rfl kz) ?_
  show OG p e below Φ T1 m 5 #[rv a, iv 0, iv 1, rv b1, .unset] []
  refine OGo.st (fun _ kz => XS.iconst X1.here hx rfl (hb hby d19_5) kz) ?_
  show OG p e below Φ T1 m 6 #[rv a, iv 0, iv 1, rv b1, .unset] [(.int 0)]
  refine OGo.st (fun _ kz => XS.istore X1.here hx rfl (hb hby d19_6) rfl (l' := #[rv a, iv 0, iv 1, rv b1, iv 0]) rfl kz) ?_
  show OG p e below Φ T1 m 8 #[rv a, iv 0, iv 1, rv b1, iv 0] []
  refine OGo.st (fun _ kz => XS.iload X1.here hx rfl (hb hby d19_8) rfl kz) ?_
  show OG p e below Φ T1 m 10 #[rv a, iv 0, iv 1, rv b1, iv 0] [(.int 0)]
  refine OGo.st (fun _ kz => XS.iloadN X1.here hx rfl (hb hby d19_10) rfl kz) ?_
  show OG p e below Φ T1 m 11 #[rv a, iv 0, iv 1, rv b1, iv 0] [(.int 1), (.int 0)]
  refine OGo.st (fun _ kz => XS.icmpNo X1.here hx rfl (hb hby d19_11) rfl (XT.ii_ge_f (by decide)) kz) ?_
  show OG p e below Φ T1 m 14 #[rv a, iv 0, iv 1, rv b1, iv 0] []
  refine OGo.st (fun _ kz => XS.aloadN X1.here hx rfl (hb hby d19_14) rfl rfl kz) ?_
  show OG p e below Φ T1 m 15 #[rv a, iv 0, iv 1, rv b1, iv 0] [(.ref b1)]
  refine OGo.st (fun _ kz => XS.iload X1.here hx rfl (hb hby d19_15) rfl kz) ?_
  show OG p e below Φ T1 m 17 #[rv a, iv 0, iv 1, rv b1, iv 0] [(.int 0), (.ref b1)]
  refine OGo.st (fun _ kz => XS.aloadN X1.here hx rfl (hb hby d19_17) rfl rfl kz) ?_
  show OG p e below Φ T1 m 18 #[rv a, iv 0, iv 1, rv b1, iv 0] [(.ref a), (.int 0), (.ref b1)]
  refine OGo.st (fun _ kz => XS.iloadN X1.here hx rfl (hb hby d19_18) rfl kz) ?_
  show OG p e below Φ T1 m 19 #[rv a, iv 0, iv 1, rv b1, iv 0] [(.int 0), (.ref a), (.int 0), (.ref b1)]
  obtain ⟨cl4, Aq4, -, S4, M4, H4, -⟩ := id F2
  have in4 : ¬ ((0 : Int32) < 0 ∨ cl4.slots.size ≤ (0 : Int32).toNatClampNeg) := inb_of S4 ⟨by decide, by decide⟩
  have at4 : cl4.slots[(0 : Int32).toNatClampNeg]? = some (.int c0_) := H4.at in4 rfl
  refine OGo.st (fun _ kz => X1.caload hx Aq4.1 (State.isArrayOf_alike hZ.alike Aq4.2.1) Aq4.2.2 in4 at4 (g := (mkF m 19 #[rv a, iv 0, iv 1, rv b1, iv 0] [(.int 0), (.ref a), (.int 0), (.ref b1)])) rfl rfl (hb hby d19_19) _ kz) ?_
  show OG p e below Φ T1 m 20 #[rv a, iv 0, iv 1, rv b1, iv 0] [(.int c0_), (.int 0), (.ref b1)]
  obtain ⟨_, T5, L5, X5, hQ5, st5⟩ := own_callSt X1 hx hZ hown (ow114 hw) (ow115 hw) (ow36 hw) (ow116 hw) (by decide) (rsb1_0pc0 l Z a0 hw [] b1 cb1 c0_ T1.heap n0 Zs1 Vq1 gq1 (S_ad.ext F3.2) (S_hb.ext F3.2) (S_lb.ext F3.2)) rfl (W := 0) (by decide) (by decide) (by decide) (by decide) (pc := 20) (ls := #[rv a, iv 0, iv 1, rv b1, iv 0]) (stk := [(.int c0_), (.int 0), (.ref b1)]) (by rw [hml]; rfl) (argsL := [(.ref b1), (.int 0), (.int c0_)]) (rest := []) (lenOf pd6 rfl) rfl rfl (Nat.le_of_eq rfl) (hb hby d19_20)
  obtain ⟨rfl, Nq5, Kq5, Vq5⟩ := hQ5
  have N5 := Fr.app N1 Nq5
  have Zs5 : n0 ≤ T5.heap.size := Nat.le_trans Zs1 Kq5.1
  have F6 := F2.keep Kq5 (ninS nq1_a nin0)
  have F7 := F3.keep Kq5 (allS gq1 all0)
  have K5 := K1.trans Kq5 (allS (Or.inr sq1) all0)
  refine OGo.st st5 ?_
  show OG p e below Φ T5 m 23 #[rv a, iv 0, iv 1, rv b1, iv 0] []
  refine OGo.st (fun _ kz => XS.iinc X5.here hx rfl (hb hby d19_23) rfl (l' := #[rv a, iv ((0 : Int32) + (1 : Int32)), iv 1, rv b1, iv 0]) rfl kz) ?_
  show OG p e below Φ T5 m 26 #[rv a, iv 1, iv 1, rv b1, iv 0] []
  refine OGo.st (fun _ kz => XS.iinc X5.here hx rfl (hb hby d19_26) rfl (l' := #[rv a, iv 1, iv 1, rv b1, iv ((0 : Int32) + (1 : Int32))]) rfl kz) ?_
  show OG p e below Φ T5 m 29 #[rv a, iv 1, iv 1, rv b1, iv 1] []
  refine OGo.st (fun _ kz => XS.goto X5.here hx rfl (pc0 := 29) (pc' := 8) rfl (hb hby d19_29) (by decide) (by decide) kz) ?_
  show OG p e below Φ T5 m 8 #[rv a, iv 1, iv 1, rv b1, iv 1] []
  refine OGo.st (fun _ kz => XS.iload X5.here hx rfl (hb hby d19_8) rfl kz) ?_
  show OG p e below Φ T5 m 10 #[rv a, iv 1, iv 1, rv b1, iv 1] [(.int 1)]
  refine OGo.st (fun _ kz => XS.iloadN X5.here hx rfl (hb hby d19_10) rfl kz) ?_
  show OG p e below Φ T5 m 11 #[rv a, iv 1, iv 1, rv b1, iv 1] [(.int 1), (.int 1)]
  refine OGo.st (fun _ kz => XS.icmpYes X5.here hx rfl (pc0 := 11) (pc' := 32) rfl (hb hby d19_11) rfl (XT.ii_ge_t (by decide)) (by decide) (by decide) kz) ?_
  show OG p e below Φ T5 m 32 #[rv a, iv 1, iv 1, rv b1, iv 1] []
  refine OGo.st (fun _ kz => XS.aloadN X5.here hx rfl (hb hby d19_32) rfl rfl kz) ?_
  show OG p e below Φ T5 m 33 #[rv a, iv 1, iv 1, rv b1, iv 1] [(.ref b1)]
  refine OGo.fin X5 hlk (v := (some (.ref b1))) (fun h => by rw [hret] at h; cases h) (by decide) (by decide) (fun fs hr => X5.areturnOut hx rfl hret rfl (hb hby d19_33) hr) fun U eU hF => hΦ _ _ _ ?_ hF
  rw [eU]
  show Q_rsb1_0tb Z a ca c0_ h0 n0 _ _ _
  exact ⟨_, _, rfl, N5, K5, Vq5, sq1⟩

theorem d23_0 : decode jdk_52_method_5_code 0 = .ok (.getstatic 44, 3) := by decide +kernel
theorem d23_3 : decode jdk_52_method_5_code 3 = .ok (.ifCond .ne 25, 3) := by decide +kernel
theorem d23_28 : decode jdk_52_method_5_code 28 = .ok (.iload_n 1, 1) := by decide +kernel
theorem d23_29 : decode jdk_52_method_5_code 29 = .ok (.iconst 1, 1) := by decide +kernel
theorem d23_30 : decode jdk_52_method_5_code 30 = .ok (.ishl, 1) := by decide +kernel
theorem d23_31 : decode jdk_52_method_5_code 31 = .ok (.istore_n 1, 1) := by decide +kernel
theorem d23_32 : decode jdk_52_method_5_code 32 = .ok (.aload_n 0, 1) := by decide +kernel
theorem d23_33 : decode jdk_52_method_5_code 33 = .ok (.iload_n 1, 1) := by decide +kernel
theorem d23_34 : decode jdk_52_method_5_code 34 = .ok (.iinc 1 1, 3) := by decide +kernel
theorem d23_37 : decode jdk_52_method_5_code 37 = .ok (.baload, 1) := by decide +kernel
theorem d23_38 : decode jdk_52_method_5_code 38 = .ok (.sipush 255, 3) := by decide +kernel
theorem d23_41 : decode jdk_52_method_5_code 41 = .ok (.iand, 1) := by decide +kernel
theorem d23_42 : decode jdk_52_method_5_code 42 = .ok (.getstatic 59, 3) := by decide +kernel
theorem d23_45 : decode jdk_52_method_5_code 45 = .ok (.ishl, 1) := by decide +kernel
theorem d23_46 : decode jdk_52_method_5_code 46 = .ok (.aload_n 0, 1) := by decide +kernel
theorem d23_47 : decode jdk_52_method_5_code 47 = .ok (.iload_n 1, 1) := by decide +kernel
theorem d23_48 : decode jdk_52_method_5_code 48 = .ok (.baload, 1) := by decide +kernel
theorem d23_49 : decode jdk_52_method_5_code 49 = .ok (.sipush 255, 3) := by decide +kernel
theorem d23_52 : decode jdk_52_method_5_code 52 = .ok (.iand, 1) := by decide +kernel
theorem d23_53 : decode jdk_52_method_5_code 53 = .ok (.getstatic 63, 3) := by decide +kernel
theorem d23_56 : decode jdk_52_method_5_code 56 = .ok (.ishl, 1) := by decide +kernel
theorem d23_57 : decode jdk_52_method_5_code 57 = .ok (.ior, 1) := by decide +kernel
theorem d23_58 : decode jdk_52_method_5_code 58 = .ok (.i2c, 1) := by decide +kernel
theorem d23_59 : decode jdk_52_method_5_code 59 = .ok (.ireturn, 1) := by decide +kernel
theorem ef_rsb1_0gc (m : MethodId) (x0 : Addr) (x1 : Int32) : entryFrame m #[(.ref x0), (.int x1)] 2 = mkF m 0 #[.val (.ref x0), .val (.int x1)] [] := by first | (simp [entryFrame, mkF, argsToLocals, Value.category]; done) | rfl
def Q_rsb1_0gc (Z : State) (b : Addr) (cb : ClassId) (c0_ : Int32) (h0 : Heap) (n0 : Nat) (v : Option Value) (h : Heap) (L : List Loc) : Prop := v = some (.int c0_) ∧ Fr n0 L ∧ h = h0
set_option maxRecDepth 65536 in
set_option maxHeartbeats 40000000 in
theorem rsb1_0gc (l : Launch) (Z : State) (a0 : Array Value) (hw : ∀ d ∈ tables_1, d.before a0 Z = true) (ws : List Jvm.Cond) (b : Addr) (cb : ClassId) (c0_ : Int32) (h0 : Heap) (n0 : Nat) (Z0 : n0 ≤ h0.size) (V_b : Arv Z h0 b cb .byte (2 : Int32) [(.int (nar .byte (c0_ >>> (0 &&& 31)).toInt8.toInt32)), (.int (nar .byte (c0_ >>> (8 &&& 31)).toInt8.toInt32))] (.int (0 : Int32))) (S_ad : Sta Z h0 "java/lang/StringUTF16" "$assertionsDisabled" "Z" (.int (1 : Int32))) (S_hb : Sta Z h0 "java/lang/StringUTF16" "HI_BYTE_SHIFT" "I" (.int (0 : Int32))) (S_lb : Sta Z h0 "java/lang/StringUTF16" "LO_BYTE_SHIFT" "I" (.int (8 : Int32))) (hr0 : nar .char c0_ = c0_) :
    OCon l Z (⟨"java/lang/StringUTF16", "getChar", "([BI)C"⟩ : MethodName) jdk_52_method_5_code 2 (some .char) ws ({ frames := 0, cells := 0, slots := 0, locals := 0 } : Room) #[(.ref b), (.int (0 : Int32))] h0 (Q_rsb1_0gc Z b cb c0_ h0 n0) := by
  refine OCon.of (plainFor_of_name pn1) ?_
  intro p e s m below meth c s₁ Φ X0 hx hby hml hown hnm hret hlk hZ e0 hΦ
  have N0 := Fr.nil n0
  refine OGo.st (fun _ kz => castTop (ef_rsb1_0gc m b (0 : Int32)) kz) ?_
  show OG p e below Φ s₁ m 0 #[rv b, iv 0] []
  obtain ⟨T1, X1, e1, st1⟩ := getS2 X0 hx hZ hown (host := "") (Or.inl (ow117 hw)) Via.refl e0 S_ad (g := (mkF m 0 #[rv b, iv 0] [])) rfl (hb hby d23_0)
  refine OGo.st st1 ?_
  show OG p e below Φ T1 m 3 #[rv b, iv 0] [(.int 1)]
  refine OGo.st (fun _ kz => XS.ifYes X1.here hx rfl (pc0 := 3) (pc' := 28) rfl (hb hby d23_3) rfl (XT.i0_ne_t (by decide)) (by decide) (by decide) kz) ?_
  show OG p e below Φ T1 m 28 #[rv b, iv 0] []
  refine OGo.st (fun _ kz => XS.iloadN X1.here hx rfl (hb hby d23_28) rfl kz) ?_
  show OG p e below Φ T1 m 29 #[rv b, iv 0] [(.int 0)]
  refine OGo.st (fun _ kz => XS.iconst X1.here hx rfl (hb hby d23_29) kz) ?_
  show OG p e below Φ T1 m 30 #[rv b, iv 0] [(.int 1), (.int 0)]
  refine OGo.st (fun _ kz => XT.ishl X1.here hx rfl (hb hby d23_30) rfl kz) ?_
  show OG p e below Φ T1 m 31 #[rv b, iv 0] [(.int 0)]
  refine OGo.st (fun _ kz => XS.istoreN X1.here hx rfl (hb hby d23_31) rfl (l' := #[rv b, iv 0]) rfl kz) ?_
  show OG p e below Φ T1 m 32 #[rv b, iv 0] []
  refine OGo.st (fun _ kz => XS.aloadN X1.here hx rfl (hb hby d23_32) rfl rfl kz) ?_
  show OG p e below Φ T1 m 33 #[rv b, iv 0] [(.ref b)]
  refine OGo.st (fun _ kz => XS.iloadN X1.here hx rfl (hb hby d23_33) rfl kz) ?_
  show OG p e below Φ T1 m 34 #[rv b, iv 0] [(.int 0), (.ref b)]
  refine OGo.st (fun _ kz => XS.iinc X1.here hx rfl (hb hby d23_34) rfl (l' := #[rv b, iv ((0 : Int32) + (1 : Int32))]) rfl kz) ?_
  show OG p e below Φ T1 m 37 #[rv b, iv 1] [(.int 0), (.ref b)]
  obtain ⟨cl2, Aq2, -, S2, M2, H2, -⟩ := id V_b
  have in2 : ¬ ((0 : Int32) < 0 ∨ cl2.slots.size ≤ (0 : Int32).toNatClampNeg) := inb_of S2 ⟨by decide, by decide⟩
  have at2 : cl2.slots[(0 : Int32).toNatClampNeg]? = some (.int (nar .byte (c0_ >>> (0 &&& 31)).toInt8.toInt32)) := H2.at in2 rfl
  refine OGo.st (fun _ kz => X1.baloadBytes hx (by rw [e1]; exact Aq2.1) (State.isArrayOf_alike hZ.alike Aq2.2.1) Aq2.2.2 in2 at2 (g := (mkF m 37 #[rv b, iv 1] [(.int 0), (.ref b)])) rfl rfl (hb hby d23_37) _ kz) ?_
  show OG p e below Φ T1 m 38 #[rv b, iv 1] [(.int (nar .byte (c0_ >>> (0 &&& 31)).toInt8.toInt32))]
  refine OGo.st (fun _ kz => XS.sipush X1.here hx rfl (hb hby d23_38) kz) ?_
  show OG p e below Φ T1 m 41 #[rv b, iv 1] [(.int 255), (.int (nar .byte (c0_ >>> (0 &&& 31)).toInt8.toInt32))]
  refine OGo.st (fun _ kz => XS.iand X1.here hx rfl (hb hby d23_41) rfl kz) ?_
  show OG p e below Φ T1 m 42 #[rv b, iv 1] [(.int ((nar .byte (c0_ >>> (0 &&& 31)).toInt8.toInt32) &&& (255 : Int32)))]
  obtain ⟨T3, X3, e3, st3⟩ := getS2 X1 hx hZ hown (host := "") (Or.inl (ow118 hw)) Via.refl e1 S_hb (g := (mkF m 42 #[rv b, iv 1] [(.int ((nar .byte (c0_ >>> (0 &&& 31)).toInt8.toInt32) &&& (255 : Int32)))])) rfl (hb hby d23_42)
  refine OGo.st st3 ?_
  show OG p e below Φ T3 m 45 #[rv b, iv 1] [(.int 0), (.int ((nar .byte (c0_ >>> (0 &&& 31)).toInt8.toInt32) &&& (255 : Int32)))]
  refine OGo.st (fun _ kz => XT.ishl X3.here hx rfl (hb hby d23_45) rfl kz) ?_
  show OG p e below Φ T3 m 46 #[rv b, iv 1] [(.int (((nar .byte (c0_ >>> (0 &&& 31)).toInt8.toInt32) &&& (255 : Int32)) <<< ((0 : Int32) &&& 31)))]
  refine OGo.st (fun _ kz => XS.aloadN X3.here hx rfl (hb hby d23_46) rfl rfl kz) ?_
  show OG p e below Φ T3 m 47 #[rv b, iv 1] [(.ref b), (.int (((nar .byte (c0_ >>> (0 &&& 31)).toInt8.toInt32) &&& (255 : Int32)) <<< ((0 : Int32) &&& 31)))]
  refine OGo.st (fun _ kz => XS.iloadN X3.here hx rfl (hb hby d23_47) rfl kz) ?_
  show OG p e below Φ T3 m 48 #[rv b, iv 1] [(.int 1), (.ref b), (.int (((nar .byte (c0_ >>> (0 &&& 31)).toInt8.toInt32) &&& (255 : Int32)) <<< ((0 : Int32) &&& 31)))]
  obtain ⟨cl4, Aq4, -, S4, M4, H4, -⟩ := id V_b
  have in4 : ¬ ((1 : Int32) < 0 ∨ cl4.slots.size ≤ (1 : Int32).toNatClampNeg) := inb_of S4 ⟨by decide, by decide⟩
  have at4 : cl4.slots[(1 : Int32).toNatClampNeg]? = some (.int (nar .byte (c0_ >>> (8 &&& 31)).toInt8.toInt32)) := H4.at in4 rfl
  refine OGo.st (fun _ kz => X3.baloadBytes hx (by rw [e3]; exact Aq4.1) (State.isArrayOf_alike hZ.alike Aq4.2.1) Aq4.2.2 in4 at4 (g := (mkF m 48 #[rv b, iv 1] [(.int 1), (.ref b), (.int (((nar .byte (c0_ >>> (0 &&& 31)).toInt8.toInt32) &&& (255 : Int32)) <<< ((0 : Int32) &&& 31)))])) rfl rfl (hb hby d23_48) _ kz) ?_
  show OG p e below Φ T3 m 49 #[rv b, iv 1] [(.int (nar .byte (c0_ >>> (8 &&& 31)).toInt8.toInt32)), (.int (((nar .byte (c0_ >>> (0 &&& 31)).toInt8.toInt32) &&& (255 : Int32)) <<< ((0 : Int32) &&& 31)))]
  refine OGo.st (fun _ kz => XS.sipush X3.here hx rfl (hb hby d23_49) kz) ?_
  show OG p e below Φ T3 m 52 #[rv b, iv 1] [(.int 255), (.int (nar .byte (c0_ >>> (8 &&& 31)).toInt8.toInt32)), (.int (((nar .byte (c0_ >>> (0 &&& 31)).toInt8.toInt32) &&& (255 : Int32)) <<< ((0 : Int32) &&& 31)))]
  refine OGo.st (fun _ kz => XS.iand X3.here hx rfl (hb hby d23_52) rfl kz) ?_
  show OG p e below Φ T3 m 53 #[rv b, iv 1] [(.int ((nar .byte (c0_ >>> (8 &&& 31)).toInt8.toInt32) &&& (255 : Int32))), (.int (((nar .byte (c0_ >>> (0 &&& 31)).toInt8.toInt32) &&& (255 : Int32)) <<< ((0 : Int32) &&& 31)))]
  obtain ⟨T5, X5, e5, st5⟩ := getS2 X3 hx hZ hown (host := "") (Or.inl (ow119 hw)) Via.refl e3 S_lb (g := (mkF m 53 #[rv b, iv 1] [(.int ((nar .byte (c0_ >>> (8 &&& 31)).toInt8.toInt32) &&& (255 : Int32))), (.int (((nar .byte (c0_ >>> (0 &&& 31)).toInt8.toInt32) &&& (255 : Int32)) <<< ((0 : Int32) &&& 31)))])) rfl (hb hby d23_53)
  refine OGo.st st5 ?_
  show OG p e below Φ T5 m 56 #[rv b, iv 1] [(.int 8), (.int ((nar .byte (c0_ >>> (8 &&& 31)).toInt8.toInt32) &&& (255 : Int32))), (.int (((nar .byte (c0_ >>> (0 &&& 31)).toInt8.toInt32) &&& (255 : Int32)) <<< ((0 : Int32) &&& 31)))]
  refine OGo.st (fun _ kz => XT.ishl X5.here hx rfl (hb hby d23_56) rfl kz) ?_
  show OG p e below Φ T5 m 57 #[rv b, iv 1] [(.int (((nar .byte (c0_ >>> (8 &&& 31)).toInt8.toInt32) &&& (255 : Int32)) <<< ((8 : Int32) &&& 31))), (.int (((nar .byte (c0_ >>> (0 &&& 31)).toInt8.toInt32) &&& (255 : Int32)) <<< ((0 : Int32) &&& 31)))]
  refine OGo.st (fun _ kz => XT.ior X5.here hx rfl (hb hby d23_57) rfl kz) ?_
  show OG p e below Φ T5 m 58 #[rv b, iv 1] [(.int ((((nar .byte (c0_ >>> (0 &&& 31)).toInt8.toInt32) &&& (255 : Int32)) <<< ((0 : Int32) &&& 31)) ||| (((nar .byte (c0_ >>> (8 &&& 31)).toInt8.toInt32) &&& (255 : Int32)) <<< ((8 : Int32) &&& 31))))]
  refine OGo.st (fun _ kz => XT.i2c X5.here hx rfl (hb hby d23_58) rfl kz) ?_
  show OG p e below Φ T5 m 59 #[rv b, iv 1] [(.int (((((nar .byte (c0_ >>> (0 &&& 31)).toInt8.toInt32) &&& (255 : Int32)) <<< ((0 : Int32) &&& 31)) ||| (((nar .byte (c0_ >>> (8 &&& 31)).toInt8.toInt32) &&& (255 : Int32)) <<< ((8 : Int32) &&& 31))).toUInt32.toUInt16.toUInt32.toInt32))]
  refine OGo.fin X5 hlk (v := (some (.int (((((nar .byte (c0_ >>> (0 &&& 31)).toInt8.toInt32) &&& (255 : Int32)) <<< ((0 : Int32) &&& 31)) ||| (((nar .byte (c0_ >>> (8 &&& 31)).toInt8.toInt32) &&& (255 : Int32)) <<< ((8 : Int32) &&& 31))).toUInt32.toUInt16.toUInt32.toInt32)))) (fun h => by rw [hret] at h; cases h) (by decide) (by decide) (fun fs hr => X5.ireturnOut hx hret (XT.narrow_c _) (by simp) (hb hby d23_59) hr) fun U eU hF => hΦ _ _ _ ?_ hF
  rw [eU, e5]
  show Q_rsb1_0gc Z b cb c0_ h0 n0 _ _ _
  rw [own_gc _ hr0]
  exact ⟨rfl, N0, rfl⟩

theorem d6_20 : decode jdk_52_method_16_code 20 = .ok (.aload_n 0, 1) := by decide +kernel
theorem d6_21 : decode jdk_52_method_16_code 21 = .ok (.iload_n 1, 1) := by decide +kernel
theorem d6_22 : decode jdk_52_method_16_code 22 = .ok (.iload_n 2, 1) := by decide +kernel
theorem d6_23 : decode jdk_52_method_16_code 23 = .ok (.invokestatic 119, 3) := by decide +kernel
theorem d6_26 : decode jdk_52_method_16_code 26 = .ok (.astore 5, 2) := by decide +kernel
theorem d6_28 : decode jdk_52_method_16_code 28 = .ok (.aload 5, 2) := by decide +kernel
theorem d6_30 : decode jdk_52_method_16_code 30 = .ok (.iload 4, 2) := by decide +kernel
theorem d6_32 : decode jdk_52_method_16_code 32 = .ok (.invokestatic 71, 3) := by decide +kernel
theorem pd7 : parseMethodDescriptor "([BI)C" = some ⟨[(.array .byte), .int], some .char⟩ := by decide +kernel
theorem d6_35 : decode jdk_52_method_16_code 35 = .ok (.sipush 255, 3) := by decide +kernel
theorem d6_38 : decode jdk_52_method_16_code 38 = .ok (.if_icmp .gt 16, 3) := by decide +kernel
theorem d6_54 : decode jdk_52_method_16_code 54 = .ok (.aload 5, 2) := by decide +kernel
theorem d6_56 : decode jdk_52_method_16_code 56 = .ok (.areturn, 1) := by decide +kernel
theorem ef_rsb1_0c3 (m : MethodId) (x0 : Addr) (x1 : Int32) (x2 : Int32) : entryFrame m #[(.ref x0), (.int x1), (.int x2)] 6 = mkF m 0 #[.val (.ref x0), .val (.int x1), .val (.int x2), .unset, .unset, .unset] [] := by first | (simp [entryFrame, mkF, argsToLocals, Value.category]; done) | rfl
def Q_rsb1_0c3 (Z : State) (a : Addr) (ca : ClassId) (c0_ : Int32) (h0 : Heap) (n0 : Nat) (v : Option Value) (h : Heap) (L : List Loc) : Prop := ∃ b cb, v = some (.ref b) ∧ Fr n0 L ∧ Keep h0 h [] ∧ Arv Z h b cb .byte (2 : Int32) [(.int (nar .byte (c0_ >>> (0 &&& 31)).toInt8.toInt32)), (.int (nar .byte (c0_ >>> (8 &&& 31)).toInt8.toInt32))] (.int (0 : Int32)) ∧ h0.size ≤ b
set_option maxRecDepth 65536 in
set_option maxHeartbeats 40000000 in
theorem rsb1_0c3 (l : Launch) (Z : State) (a0 : Array Value) (hw : ∀ d ∈ tables_1, d.before a0 Z = true) (ws : List Jvm.Cond) (a : Addr) (ca : ClassId) (c0_ : Int32) (h0 : Heap) (n0 : Nat) (Z0 : n0 ≤ h0.size) (V_a : Arv Z h0 a ca .char (1 : Int32) [(.int c0_)] (.int (0 : Int32))) (O_0 : Old Z n0 h0) (S_ad : Sta Z Z.heap "java/lang/StringUTF16" "$assertionsDisabled" "Z" (.int (1 : Int32))) (S_hb : Sta Z Z.heap "java/lang/StringUTF16" "HI_BYTE_SHIFT" "I" (.int (0 : Int32))) (S_lb : Sta Z Z.heap "java/lang/StringUTF16" "LO_BYTE_SHIFT" "I" (.int (8 : Int32))) (hb0 : (255 : Int32) < c0_) (hr0 : nar .char c0_ = c0_) :
    OCon l Z (⟨"java/lang/StringUTF16", "compress", "([CII)[B"⟩ : MethodName) jdk_52_method_16_code 6 (some (.array .byte)) ws ({ frames := 3, cells := 2, slots := 3, locals := 40 } : Room) #[(.ref a), (.int (0 : Int32)), (.int (1 : Int32))] h0 (Q_rsb1_0c3 Z a ca c0_ h0 n0) := by
  refine OCon.of (plainFor_of_name pn1) ?_
  intro p e s m below meth c s₁ Φ X0 hx hby hml hown hnm hret hlk hZ e0 hΦ
  have N0 := Fr.nil n0
  refine OGo.st (fun _ kz => castTop (ef_rsb1_0c3 m a (0 : Int32) (1 : Int32)) kz) ?_
  have K0 := Keep.refl h0 []
  show OG p e below Φ s₁ m 0 #[rv a, iv 0, iv 1, .unset, .unset, .unset] []
  refine OGo.st (fun _ kz => XS.iloadN X0.here hx rfl (hb hby d6_0) rfl kz) ?_
  show OG p e below Φ s₁ m 1 #[rv a, iv 0, iv 1, .unset, .unset, .unset] [(.int 1)]
  obtain ⟨T1, h1, c1, X1, e1, E1, Ar1, st1⟩ := newP (aty := .byte) X0 hx hZ (ow26 hw) e0 (g := (mkF m 1 #[rv a, iv 0, iv 1, .unset, .unset, .unset] [(.int 1)])) rfl (hb hby d6_1) rfl (by decide) (cap := 1) (by decide) (by decide) (by decide) (by decide)
  obtain ⟨b1, g1⟩ : ∃ z, z = h0.size := ⟨_, rfl⟩
  rw [← g1] at Ar1 st1
  have ne1_a : a ≠ b1 := by rw [g1]; exact Nat.ne_of_lt V_a.lt
  have F2 := V_a.ext E1
  have F3 := O_0.ext E1
  have gb1 : n0 ≤ b1 := Nat.le_trans Z0 (Nat.le_of_eq g1.symm)
  have sz1 : h0.size ≤ b1 := Nat.le_trans K0.1 (Nat.le_of_eq g1.symm)
  have K1 := K0.ext E1
  have Zs1 : n0 ≤ h1.size := Nat.le_trans Z0 E1.1
  have V1 : Arv Z h1 b1 c1 .byte (1 : Int32) [(.int (0 : Int32))] (.int (0 : Int32)) := (Arv.new Ar1 (by decide)).pad (pad_rep [] _ 1)
  refine OGo.st st1 ?_
  show OG p e below Φ T1 m 3 #[rv a, iv 0, iv 1, .unset, .unset, .unset] [(.ref b1)]
  refine OGo.st (fun _ kz => XS.astoreN X1.here hx rfl (hb hby d6_3) rfl rfl (l' := #[rv a, iv 0, iv 1, rv b1, .unset, .unset]) rfl kz) ?_
  show OG p e below Φ T1 m 4 #[rv a, iv 0, iv 1, rv b1, .unset, .unset] []
  refine OGo.st (fun _ kz => XS.aloadN X1.here hx rfl (hb hby d6_4) rfl rfl kz) ?_
  show OG p e below Φ T1 m 5 #[rv a, iv 0, iv 1, rv b1, .unset, .unset] [(.ref a)]
  refine OGo.st (fun _ kz => XS.iloadN X1.here hx rfl (hb hby d6_5) rfl kz) ?_
  show OG p e below Φ T1 m 6 #[rv a, iv 0, iv 1, rv b1, .unset, .unset] [(.int 0), (.ref a)]
  refine OGo.st (fun _ kz => XS.aloadN X1.here hx rfl (hb hby d6_6) rfl rfl kz) ?_
  show OG p e below Φ T1 m 7 #[rv a, iv 0, iv 1, rv b1, .unset, .unset] [(.ref b1), (.int 0), (.ref a)]
  refine OGo.st (fun _ kz => XS.iconst X1.here hx rfl (hb hby d6_7) kz) ?_
  show OG p e below Φ T1 m 8 #[rv a, iv 0, iv 1, rv b1, .unset, .unset] [(.int 0), (.ref b1), (.int 0), (.ref a)]
  refine OGo.st (fun _ kz => XS.iloadN X1.here hx rfl (hb hby d6_8) rfl kz) ?_
  show OG p e below Φ T1 m 9 #[rv a, iv 0, iv 1, rv b1, .unset, .unset] [(.int 1), (.int 0), (.ref b1), (.int 0), (.ref a)]
  obtain ⟨_, T4, L4, X4, hQ4, st4⟩ := own_callSt X1 hx hZ hown (ow38 hw) (ow39 hw) (ow36 hw) (ow40 hw) (by decide) (rsb1_0c2 l Z a0 hw [] a ca b1 c1 c0_ h1 n0 Zs1 F2 V1 ne1_a gb1 hb0) e1 (W := 0) (by decide) (by decide) (by decide) (by decide) (pc := 9) (ls := #[rv a, iv 0, iv 1, rv b1, .unset, .unset]) (stk := [(.int 1), (.int 0), (.ref b1), (.int 0), (.ref a)]) (by rw [hml]; rfl) (argsL := [(.ref a), (.int 0), (.ref b1), (.int 0), (.int 1)]) (rest := []) (lenOf pd1 rfl) rfl rfl (Nat.le_of_eq rfl) (hb hby d6_9)
  obtain ⟨rfl, Nq4, Kq4⟩ := hQ4
  have N4 := Fr.app N0 Nq4
  have Zs4 : n0 ≤ T4.heap.size := Nat.le_trans Zs1 Kq4.1
  have F5 := F2.keep Kq4 (ninS ne1_a nin0)
  have F6 := F3.keep Kq4 (allS gb1 all0)
  have K4 := K1.trans Kq4 (allS (Or.inr sz1) all0)
  refine OGo.st st4 ?_
  show OG p e below Φ T4 m 12 #[rv a, iv 0, iv 1, rv b1, .unset, .unset] [(.int 0)]
  refine OGo.st (fun _ kz => XS.istore X4.here hx rfl (hb hby d6_12) rfl (l' := #[rv a, iv 0, iv 1, rv b1, iv 0, .unset]) rfl kz) ?_
  show OG p e below Φ T4 m 14 #[rv a, iv 0, iv 1, rv b1, iv 0, .unset] []
  refine OGo.st (fun _ kz => XS.iload X4.here hx rfl (hb hby d6_14) rfl kz) ?_
  show OG p e below Φ T4 m 16 #[rv a, iv 0, iv 1, rv b1, iv 0, .unset] [(.int 0)]
  refine OGo.st (fun _ kz => XS.iloadN X4.here hx rfl (hb hby d6_16) rfl kz) ?_
  show OG p e below Φ T4 m 17 #[rv a, iv 0, iv 1, rv b1, iv 0, .unset] [(.int 1), (.int 0)]
  refine OGo.st (fun _ kz => XS.icmpNo X4.here hx rfl (hb hby d6_17) rfl (XT.ii_eq_f (by decide)) kz) ?_
  show OG p e below Φ T4 m 20 #[rv a, iv 0, iv 1, rv b1, iv 0, .unset] []
  refine OGo.st (fun _ kz => XS.aloadN X4.here hx rfl (hb hby d6_20) rfl rfl kz) ?_
  show OG p e below Φ T4 m 21 #[rv a, iv 0, iv 1, rv b1, iv 0, .unset] [(.ref a)]
  refine OGo.st (fun _ kz => XS.iloadN X4.here hx rfl (hb hby d6_21) rfl kz) ?_
  show OG p e below Φ T4 m 22 #[rv a, iv 0, iv 1, rv b1, iv 0, .unset] [(.int 0), (.ref a)]
  refine OGo.st (fun _ kz => XS.iloadN X4.here hx rfl (hb hby d6_22) rfl kz) ?_
  show OG p e below Φ T4 m 23 #[rv a, iv 0, iv 1, rv b1, iv 0, .unset] [(.int 1), (.int 0), (.ref a)]
  obtain ⟨_, T7, L7, X7, hQ7, st7⟩ := own_callSt X4 hx hZ hown (ow104 hw) (ow105 hw) (ow36 hw) (ow106 hw) (by decide) (rsb1_0tb l Z a0 hw [] a ca c0_ T4.heap n0 Zs4 F5 F6 S_ad S_hb S_lb) rfl (W := 0) (by decide) (by decide) (by decide) (by decide) (pc := 23) (ls := #[rv a, iv 0, iv 1, rv b1, iv 0, .unset]) (stk := [(.int 1), (.int 0), (.ref a)]) (by rw [hml]; rfl) (argsL := [(.ref a), (.int 0), (.int 1)]) (rest := []) (lenOf pd2 rfl) rfl rfl (Nat.le_of_eq rfl) (hb hby d6_23)
  obtain ⟨b7, cb7, rfl, Nq7, Kq7, Vq7, hz7⟩ := hQ7
  have nq7_a : a ≠ b7 := Nat.ne_of_lt (Nat.lt_of_lt_of_le F5.lt hz7)
  have gq7 : n0 ≤ b7 := Nat.le_trans Zs4 hz7
  have sq7 : h0.size ≤ b7 := Nat.le_trans K4.1 hz7
  have N7 := Fr.app N4 Nq7
  have Zs7 : n0 ≤ T7.heap.size := Nat.le_trans Zs4 Kq7.1
  have F8 := F5.keep Kq7 nin0
  have F9 := F6.keep Kq7 all0
  have K7 := K4.trans Kq7 all0
  refine OGo.st st7 ?_
  show OG p e below Φ T7 m 26 #[rv a, iv 0, iv 1, rv b1, iv 0, .unset] [(.ref b7)]
  refine OGo.st (fun _ kz => XS.astore X7.here hx rfl (hb hby d6_26) rfl rfl (l' := #[rv a, iv 0, iv 1, rv b1, iv 0, rv b7]) rfl kz) ?_
  show OG p e below Φ T7 m 28 #[rv a, iv 0, iv 1, rv b1, iv 0, rv b7] []
  refine OGo.st (fun _ kz => XS.aload X7.here hx rfl (hb hby d6_28) rfl rfl kz) ?_
  show OG p e below Φ T7 m 30 #[rv a, iv 0, iv 1, rv b1, iv 0, rv b7] [(.ref b7)]
  refine OGo.st (fun _ kz => XS.iload X7.here hx rfl (hb hby d6_30) rfl kz) ?_
  show OG p e below Φ T7 m 32 #[rv a, iv 0, iv 1, rv b1, iv 0, rv b7] [(.int 0), (.ref b7)]
  obtain ⟨_, T10, L10, X10, hQ10, st10⟩ := own_callSt X7 hx hZ hown (ow120 hw) (ow121 hw) (ow36 hw) (ow122 hw) (by decide) (rsb1_0gc l Z a0 hw [] b7 cb7 c0_ T7.heap n0 Zs7 Vq7 (S_ad.ext F9.2) (S_hb.ext F9.2) (S_lb.ext F9.2) hr0) rfl (W := 0) (by decide) (by decide) (by decide) (by decide) (pc := 32) (ls := #[rv a, iv 0, iv 1, rv b1, iv 0, rv b7]) (stk := [(.int 0), (.ref b7)]) (by rw [hml]; rfl) (argsL := [(.ref b7), (.int 0)]) (rest := []) (lenOf pd7 rfl) rfl rfl (Nat.le_of_eq rfl) (hb hby d6_32)
  obtain ⟨rfl, Nq10, e10⟩ := hQ10
  have N10 := Fr.app N7 Nq10
  refine OGo.st st10 ?_
  show OG p e below Φ T10 m 35 #[rv a, iv 0, iv 1, rv b1, iv 0, rv b7] [(.int c0_)]
  refine OGo.st (fun _ kz => XS.sipush X10.here hx rfl (hb hby d6_35) kz) ?_
  show OG p e below Φ T10 m 38 #[rv a, iv 0, iv 1, rv b1, iv 0, rv b7] [(.int 255), (.int c0_)]
  refine OGo.st (fun _ kz => XS.icmpYes X10.here hx rfl (pc0 := 38) (pc' := 54) rfl (hb hby d6_38) rfl (XT.ii_gt_t hb0) (by decide) (by decide) kz) ?_
  show OG p e below Φ T10 m 54 #[rv a, iv 0, iv 1, rv b1, iv 0, rv b7] []
  refine OGo.st (fun _ kz => XS.aload X10.here hx rfl (hb hby d6_54) rfl rfl kz) ?_
  show OG p e below Φ T10 m 56 #[rv a, iv 0, iv 1, rv b1, iv 0, rv b7] [(.ref b7)]
  refine OGo.fin X10 hlk (v := (some (.ref b7))) (fun h => by rw [hret] at h; cases h) (by decide) (by decide) (fun fs hr => X10.areturnOut hx rfl hret rfl (hb hby d6_56) hr) fun U eU hF => hΦ _ _ _ ?_ hF
  rw [eU, e10]
  show Q_rsb1_0c3 Z a ca c0_ h0 n0 _ _ _
  exact ⟨_, _, rfl, N10, K7, Vq7, sq7⟩

theorem ef_rsb1_0cf (m : MethodId) (x0 : Addr) (x1 : Int32) : entryFrame m #[(.ref x0), (.int x1)] 2 = mkF m 0 #[.val (.ref x0), .val (.int x1)] [] := by first | (simp [entryFrame, mkF, argsToLocals, Value.category]; done) | rfl
def Q_rsb1_0cf (Z : State) (b : Addr) (cb : ClassId) (c0_ : Int32) (h0 : Heap) (n0 : Nat) (v : Option Value) (h : Heap) (L : List Loc) : Prop := v = some (.int (1 : Int32)) ∧ Fr n0 L ∧ h = h0
set_option maxRecDepth 65536 in
set_option maxHeartbeats 40000000 in
theorem rsb1_0cf (l : Launch) (Z : State) (a0 : Array Value) (hw : ∀ d ∈ tables_1, d.before a0 Z = true) (ws : List Jvm.Cond) (b : Addr) (cb : ClassId) (c0_ : Int32) (h0 : Heap) (n0 : Nat) (Z0 : n0 ≤ h0.size) (V_b : Arv Z h0 b cb .byte (2 : Int32) [(.int (nar .byte (c0_ >>> (0 &&& 31)).toInt8.toInt32)), (.int (nar .byte (c0_ >>> (8 &&& 31)).toInt8.toInt32))] (.int (0 : Int32))) :
    OCon l Z (⟨"java/lang/StringUTF16", "coderFromArrayLen", "([BI)B"⟩ : MethodName) jdk_52_method_15_code 2 (some .byte) ws ({ frames := 0, cells := 0, slots := 0, locals := 0 } : Room) #[(.ref b), (.int (1 : Int32))] h0 (Q_rsb1_0cf Z b cb c0_ h0 n0) := by
  refine OCon.of (plainFor_of_name pn1) ?_
  intro p e s m below meth c s₁ Φ X0 hx hby hml hown hnm hret hlk hZ e0 hΦ
  have N0 := Fr.nil n0
  refine OGo.st (fun _ kz => castTop (ef_rsb1_0cf m b (1 : Int32)) kz) ?_
  show OG p e below Φ s₁ m 0 #[rv b, iv 1] []
  refine OGo.st (fun _ kz => XS.iloadN X0.here hx rfl (hb hby d8_0) rfl kz) ?_
  show OG p e below Φ s₁ m 1 #[rv b, iv 1] [(.int 1)]
  refine OGo.st (fun _ kz => XS.aloadN X0.here hx rfl (hb hby d8_1) rfl rfl kz) ?_
  show OG p e below Φ s₁ m 2 #[rv b, iv 1] [(.ref b), (.int 1)]
  obtain ⟨cl1, Aq1, -, S1, M1, -, -⟩ := id V_b
  refine OGo.st (fun _ kz => X0.arraylength hx (by rw [e0]; exact Aq1.1) (State.isArrayOf_alike hZ.alike Aq1.2.1) (g := (mkF m 2 #[rv b, iv 1] [(.ref b), (.int 1)])) rfl rfl (hb hby d8_2) _ kz) ?_
  rw [len_of S1 M1]
  show OG p e below Φ s₁ m 3 #[rv b, iv 1] [(.int 2), (.int 1)]
  refine OGo.st (fun _ kz => XS.isub X0.here hx rfl (hb hby d8_3) rfl kz) ?_
  show OG p e below Φ s₁ m 4 #[rv b, iv 1] [(.int (-1))]
  refine OGo.st (fun _ kz => XS.bipush X0.here hx rfl (hb hby d8_4) kz) ?_
  show OG p e below Φ s₁ m 6 #[rv b, iv 1] [(.int 31), (.int (-1))]
  refine OGo.st (fun _ kz => XT.iushr X0.here hx rfl (hb hby d8_6) rfl kz) ?_
  show OG p e below Φ s₁ m 7 #[rv b, iv 1] [(.int 1)]
  refine OGo.st (fun _ kz => XT.i2b X0.here hx rfl (hb hby d8_7) rfl kz) ?_
  show OG p e below Φ s₁ m 8 #[rv b, iv 1] [(.int 1)]
  refine OGo.fin X0 hlk (v := (some (.int 1))) (fun h => by rw [hret] at h; cases h) (by decide) (by decide) (fun fs hr => X0.ireturnOut hx hret rfl (by simp) (hb hby d8_8) hr) fun U eU hF => hΦ _ _ _ ?_ hF
  rw [eU, e0]
  show Q_rsb1_0cf Z b cb c0_ h0 n0 _ _ _
  exact ⟨rfl, N0, rfl⟩

theorem ef_rsb1_0i4 (m : MethodId) (x0 : Addr) (x1 : Addr) (x2 : Int32) (x3 : Int32) : entryFrame m #[(.ref x0), (.ref x1), (.int x2), (.int x3), .null] 6 = mkF m 0 #[.val (.ref x0), .val (.ref x1), .val (.int x2), .val (.int x3), .val .null, .unset] [] := by first | (simp [entryFrame, mkF, argsToLocals, Value.category]; done) | rfl
def Q_rsb1_0i4 (Z : State) (s_ : Addr) (a : Addr) (ca : ClassId) (qc : Int32) (c0_ : Int32) (h0 : Heap) (n0 : Nat) (v : Option Value) (h : Heap) (L : List Loc) : Prop := v = none ∧ Fr n0 L ∧ Keep h0 h [s_] ∧ Exa Z h s_ "java/lang/String" ∧ ∃ b cb, Fld Z h s_ "java/lang/String" "value" "[B" (.ref b) ∧ Fld Z h s_ "java/lang/String" "coder" "B" (.int (1 : Int32)) ∧ Arv Z h b cb .byte (2 : Int32) [(.int (nar .byte (c0_ >>> (0 &&& 31)).toInt8.toInt32)), (.int (nar .byte (c0_ >>> (8 &&& 31)).toInt8.toInt32))] (.int (0 : Int32)) ∧ h0.size ≤ b
set_option maxRecDepth 65536 in
set_option maxHeartbeats 40000000 in
theorem rsb1_0i4 (l : Launch) (Z : State) (a0 : Array Value) (hw : ∀ d ∈ tables_1, d.before a0 Z = true) (ws : List Jvm.Cond) (s_ : Addr) (a : Addr) (ca : ClassId) (qc : Int32) (c0_ : Int32) (h0 : Heap) (n0 : Nat) (Z0 : n0 ≤ h0.size) (E_s : Exa Z h0 s_ "java/lang/String") (g_s : n0 ≤ s_) (F_v : Fld Z h0 s_ "java/lang/String" "value" "[B" .null) (F_c : Fld Z h0 s_ "java/lang/String" "coder" "B" (.int (0 : Int32))) (V_a : Arv Z h0 a ca .char (1 : Int32) [(.int c0_)] (.int (0 : Int32))) (nsa : s_ ≠ a) (S_cs : Sta Z Z.heap "java/lang/String" "COMPACT_STRINGS" "Z" (.int qc)) (hq : ¬ qc = 0) (O_0 : Old Z n0 h0) (S_ad : Sta Z Z.heap "java/lang/StringUTF16" "$assertionsDisabled" "Z" (.int (1 : Int32))) (S_hb : Sta Z Z.heap "java/lang/StringUTF16" "HI_BYTE_SHIFT" "I" (.int (0 : Int32))) (S_lb : Sta Z Z.heap "java/lang/StringUTF16" "LO_BYTE_SHIFT" "I" (.int (8 : Int32))) (hb0 : (255 : Int32) < c0_) (hr0 : nar .char c0_ = c0_) :
    OCon l Z (⟨"java/lang/String", "<init>", "([CIILjava/lang/Void;)V"⟩ : MethodName) jdk_42_method_149_code 6 none ws ({ frames := 4, cells := 2, slots := 3, locals := 57 } : Room) #[(.ref s_), (.ref a), (.int (0 : Int32)), (.int (1 : Int32)), .null] h0 (Q_rsb1_0i4 Z s_ a ca qc c0_ h0 n0) := by
  refine OCon.of (plainFor_of_name pn0) ?_
  intro p e s m below meth c s₁ Φ X0 hx hby hml hown hnm hret hlk hZ e0 hΦ
  have N0 := Fr.nil n0
  refine OGo.st (fun _ kz => castTop (ef_rsb1_0i4 m s_ a (0 : Int32) (1 : Int32)) kz) ?_
  have K0 := Keep.refl h0 [s_]
  show OG p e below Φ s₁ m 0 #[rv s_, rv a, iv 0, iv 1, .val .null, .unset] []
  refine OGo.st (fun _ kz => XS.aloadN X0.here hx rfl (hb hby d4_0) rfl rfl kz) ?_
  show OG p e below Φ s₁ m 1 #[rv s_, rv a, iv 0, iv 1, .val .null, .unset] [(.ref s_)]
  obtain ⟨T1, X1, e1, st1⟩ := initO X0 hx hZ hown (ow22 hw) (ow23 hw) (ow24 hw) e0 (g := (mkF m 1 #[rv s_, rv a, iv 0, iv 1, .val .null, .unset] [(.ref s_)])) rfl (by rw [hml]; rfl) rfl (hb hby d4_1) (by decide) (W := 0) (Nat.le_of_eq rfl) (by decide)
  refine OGo.st st1 ?_
  show OG p e below Φ T1 m 4 #[rv s_, rv a, iv 0, iv 1, .val .null, .unset] []
  refine OGo.st (fun _ kz => XS.iloadN X1.here hx rfl (hb hby d4_4) rfl kz) ?_
  show OG p e below Φ T1 m 5 #[rv s_, rv a, iv 0, iv 1, .val .null, .unset] [(.int 1)]
  refine OGo.st (fun _ kz => XS.ifYes X1.here hx rfl (pc0 := 5) (pc' := 27) rfl (hb hby d4_5) rfl (XT.i0_ne_t (by decide)) (by decide) (by decide) kz) ?_
  show OG p e below Φ T1 m 27 #[rv s_, rv a, iv 0, iv 1, .val .null, .unset] []
  have Sq := S_cs.ext O_0.2
  obtain ⟨T2, X2, e2, st2⟩ := getS2 X1 hx hZ hown (host := "") (Or.inl (ow33 hw)) Via.refl e1 Sq (g := (mkF m 27 #[rv s_, rv a, iv 0, iv 1, .val .null, .unset] [])) rfl (hb hby d4_27)
  refine OGo.st st2 ?_
  show OG p e below Φ T2 m 30 #[rv s_, rv a, iv 0, iv 1, .val .null, .unset] [(.int qc)]
  refine OGo.st (fun _ kz => XS.ifNo X2.here hx rfl (hb hby d4_30) rfl (XT.i0_eq_f hq) kz) ?_
  show OG p e below Φ T2 m 33 #[rv s_, rv a, iv 0, iv 1, .val .null, .unset] []
  refine OGo.st (fun _ kz => XS.aloadN X2.here hx rfl (hb hby d4_33) rfl rfl kz) ?_
  show OG p e below Φ T2 m 34 #[rv s_, rv a, iv 0, iv 1, .val .null, .unset] [(.ref a)]
  refine OGo.st (fun _ kz => XS.iloadN X2.here hx rfl (hb hby d4_34) rfl kz) ?_
  show OG p e below Φ T2 m 35 #[rv s_, rv a, iv 0, iv 1, .val .null, .unset] [(.int 0), (.ref a)]
  refine OGo.st (fun _ kz => XS.iloadN X2.here hx rfl (hb hby d4_35) rfl kz) ?_
  show OG p e below Φ T2 m 36 #[rv s_, rv a, iv 0, iv 1, .val .null, .unset] [(.int 1), (.int 0), (.ref a)]
  obtain ⟨_, T3, L3, X3, hQ3, st3⟩ := own_callSt X2 hx hZ hown (ow34 hw) (ow35 hw) (ow36 hw) (ow37 hw) (by decide) (rsb1_0c3 l Z a0 hw [] a ca c0_ h0 n0 Z0 V_a O_0 S_ad S_hb S_lb hb0 hr0) e2 (W := 0) (by decide) (by decide) (by decide) (by decide) (pc := 36) (ls := #[rv s_, rv a, iv 0, iv 1, .val .null, .unset]) (stk := [(.int 1), (.int 0), (.ref a)]) (by rw [hml]; rfl) (argsL := [(.ref a), (.int 0), (.int 1)]) (rest := []) (lenOf pd2 rfl) rfl rfl (Nat.le_of_eq rfl) (hb hby d4_36)
  obtain ⟨b3, cb3, rfl, Nq3, Kq3, Vq3, hz3⟩ := hQ3
  have nq3_a : a ≠ b3 := Nat.ne_of_lt (Nat.lt_of_lt_of_le V_a.lt hz3)
  have nq3_s_ : s_ ≠ b3 := Nat.ne_of_lt (Nat.lt_of_lt_of_le E_s.lt hz3)
  have gq3 : n0 ≤ b3 := Nat.le_trans Z0 hz3
  have sq3 : h0.size ≤ b3 := Nat.le_trans K0.1 hz3
  have N3 := Fr.app N0 Nq3
  have Zs3 : n0 ≤ T3.heap.size := Nat.le_trans Z0 Kq3.1
  have F4 := E_s.keep Kq3
  have F5 := F_v.keep Kq3 nin0
  have F6 := F_c.keep Kq3 nin0
  have F7 := V_a.keep Kq3 nin0
  have F8 := O_0.keep Kq3 all0
  have K3 := K0.trans Kq3 all0
  refine OGo.st st3 ?_
  show OG p e below Φ T3 m 39 #[rv s_, rv a, iv 0, iv 1, .val .null, .unset] [(.ref b3)]
  refine OGo.st (fun _ kz => XS.astore X3.here hx rfl (hb hby d4_39) rfl rfl (l' := #[rv s_, rv a, iv 0, iv 1, .val .null, rv b3]) rfl kz) ?_
  show OG p e below Φ T3 m 41 #[rv s_, rv a, iv 0, iv 1, .val .null, rv b3] []
  refine OGo.st (fun _ kz => XS.aloadN X3.here hx rfl (hb hby d4_41) rfl rfl kz) ?_
  show OG p e below Φ T3 m 42 #[rv s_, rv a, iv 0, iv 1, .val .null, rv b3] [(.ref s_)]
  refine OGo.st (fun _ kz => XS.aload X3.here hx rfl (hb hby d4_42) rfl rfl kz) ?_
  show OG p e below Φ T3 m 44 #[rv s_, rv a, iv 0, iv 1, .val .null, rv b3] [(.ref b3), (.ref s_)]
  refine OGo.st (fun _ kz => XS.iloadN X3.here hx rfl (hb hby d4_44) rfl kz) ?_
  show OG p e below Φ T3 m 45 #[rv s_, rv a, iv 0, iv 1, .val .null, rv b3] [(.int 1), (.ref b3), (.ref s_)]
  obtain ⟨_, T9, L9, X9, hQ9, st9⟩ := own_callSt X3 hx hZ hown (ow41 hw) (ow42 hw) (ow36 hw) (ow43 hw) (by decide) (rsb1_0cf l Z a0 hw [] b3 cb3 c0_ T3.heap n0 Zs3 Vq3) rfl (W := 1) (by decide) (by decide) (by decide) (by decide) (pc := 45) (ls := #[rv s_, rv a, iv 0, iv 1, .val .null, rv b3]) (stk := [(.int 1), (.ref b3), (.ref s_)]) (by rw [hml]; rfl) (argsL := [(.ref b3), (.int 1)]) (rest := [(.ref s_)]) (lenOf pd3 rfl) rfl rfl (Nat.le_of_eq rfl) (hb hby d4_45)
  obtain ⟨rfl, Nq9, e9⟩ := hQ9
  have N9 := Fr.app N3 Nq9
  refine OGo.st st9 ?_
  show OG p e below Φ T9 m 48 #[rv s_, rv a, iv 0, iv 1, .val .null, rv b3] [(.int 1), (.ref s_)]
  obtain ⟨T10, h10, X10, e10, W10, st10⟩ := putF X9 hx hZ hown (host := "") (Or.inl (ow32 hw)) Via.refl e9 F6 F4 (Or.inr ⟨(ow28 hw), rfl, hnm⟩) (ow12 hw) (ty := .byte) (by decide) (by decide) (by decide) (g := (mkF m 48 #[rv s_, rv a, iv 0, iv 1, .val .null, rv b3] [(.int 1), (.ref s_)])) rfl rfl (hb hby d4_48)
  have F11 := F4.wr W10
  have F12 := F5.other W10 (Or.inr (slot_ne (Or.inr (ow27 hw)) (Or.inr (ow28 hw)) (by decide) (t := (.array .byte)) (t' := .byte) (by decide) (by decide)))
  have F13 := F6.same W10
  have F14 := F7.other W10 (Ne.symm nsa)
  have F15 := F8.wr W10 g_s
  have F16 := Vq3.other W10 (Ne.symm nq3_s_)
  have K10 := K3.wr W10 (Or.inl (List.mem_of_getElem? (i := 0) rfl))
  have N10 := Fr.snoc X10 N9 g_s
  have Zs10 : n0 ≤ h10.size := by rw [W10.size]; exact Zs3
  refine OGo.st st10 ?_
  show OG p e below Φ T10 m 51 #[rv s_, rv a, iv 0, iv 1, .val .null, rv b3] []
  refine OGo.st (fun _ kz => XS.aloadN X10.here hx rfl (hb hby d4_51) rfl rfl kz) ?_
  show OG p e below Φ T10 m 52 #[rv s_, rv a, iv 0, iv 1, .val .null, rv b3] [(.ref s_)]
  refine OGo.st (fun _ kz => XS.aload X10.here hx rfl (hb hby d4_52) rfl rfl kz) ?_
  show OG p e below Φ T10 m 54 #[rv s_, rv a, iv 0, iv 1, .val .null, rv b3] [(.ref b3), (.ref s_)]
  obtain ⟨T17, h17, X17, e17, W17, st17⟩ := putF X10 hx hZ hown (host := "") (Or.inl (ow31 hw)) Via.refl e10 F12 F11 (Or.inr ⟨(ow27 hw), rfl, hnm⟩) (ow12 hw) (ty := (.array .byte)) (by decide) rfl rfl (g := (mkF m 54 #[rv s_, rv a, iv 0, iv 1, .val .null, rv b3] [(.ref b3), (.ref s_)])) rfl rfl (hb hby d4_54)
  have F18 := F11.wr W17
  have F19 := F12.same W17
  have F20 := F13.other W17 (Or.inr (slot_ne (Or.inr (ow28 hw)) (Or.inr (ow27 hw)) (by decide) (t := .byte) (t' := (.array .byte)) (by decide) (by decide)))
  have F21 := F14.other W17 (Ne.symm nsa)
  have F22 := F15.wr W17 g_s
  have F23 := F16.other W17 (Ne.symm nq3_s_)
  have K17 := K10.wr W17 (Or.inl (List.mem_of_getElem? (i := 0) rfl))
  have N17 := Fr.snoc X17 N10 g_s
  have Zs17 : n0 ≤ h17.size := by rw [W17.size]; exact Zs10
  refine OGo.st st17 ?_
  show OG p e below Φ T17 m 57 #[rv s_, rv a, iv 0, iv 1, .val .null, rv b3] []
  refine OGo.fin X17 hlk (v := none) (fun _ => rfl) (by decide) (by decide) (fun fs hr => X17.returnOut hx hret (hb hby d4_57) hr) fun U eU hF => hΦ _ _ _ ?_ hF
  rw [eU, e17]
  show Q_rsb1_0i4 Z s_ a ca qc c0_ h0 n0 _ _ _
  exact ⟨rfl, N17, K17, F18, _, _, F19, F20, F23, sq3⟩

theorem ef_rsb1_0i1 (m : MethodId) (x0 : Addr) (x1 : Addr) : entryFrame m #[(.ref x0), (.ref x1)] 2 = mkF m 0 #[.val (.ref x0), .val (.ref x1)] [] := by first | (simp [entryFrame, mkF, argsToLocals, Value.category]; done) | rfl
def Q_rsb1_0i1 (Z : State) (s_ : Addr) (a : Addr) (ca : ClassId) (qc : Int32) (c0_ : Int32) (h0 : Heap) (n0 : Nat) (v : Option Value) (h : Heap) (L : List Loc) : Prop := v = none ∧ Fr n0 L ∧ Keep h0 h [s_] ∧ Exa Z h s_ "java/lang/String" ∧ ∃ b cb, Fld Z h s_ "java/lang/String" "value" "[B" (.ref b) ∧ Fld Z h s_ "java/lang/String" "coder" "B" (.int (1 : Int32)) ∧ Arv Z h b cb .byte (2 : Int32) [(.int (nar .byte (c0_ >>> (0 &&& 31)).toInt8.toInt32)), (.int (nar .byte (c0_ >>> (8 &&& 31)).toInt8.toInt32))] (.int (0 : Int32)) ∧ h0.size ≤ b
set_option maxRecDepth 65536 in
set_option maxHeartbeats 40000000 in
theorem rsb1_0i1 (l : Launch) (Z : State) (a0 : Array Value) (hw : ∀ d ∈ tables_1, d.before a0 Z = true) (ws : List Jvm.Cond) (s_ : Addr) (a : Addr) (ca : ClassId) (qc : Int32) (c0_ : Int32) (h0 : Heap) (n0 : Nat) (Z0 : n0 ≤ h0.size) (E_s : Exa Z h0 s_ "java/lang/String") (g_s : n0 ≤ s_) (F_v : Fld Z h0 s_ "java/lang/String" "value" "[B" .null) (F_c : Fld Z h0 s_ "java/lang/String" "coder" "B" (.int (0 : Int32))) (V_a : Arv Z h0 a ca .char (1 : Int32) [(.int c0_)] (.int (0 : Int32))) (nsa : s_ ≠ a) (S_cs : Sta Z Z.heap "java/lang/String" "COMPACT_STRINGS" "Z" (.int qc)) (hq : ¬ qc = 0) (O_0 : Old Z n0 h0) (S_ad : Sta Z Z.heap "java/lang/StringUTF16" "$assertionsDisabled" "Z" (.int (1 : Int32))) (S_hb : Sta Z Z.heap "java/lang/StringUTF16" "HI_BYTE_SHIFT" "I" (.int (0 : Int32))) (S_lb : Sta Z Z.heap "java/lang/StringUTF16" "LO_BYTE_SHIFT" "I" (.int (8 : Int32))) (hb0 : (255 : Int32) < c0_) (hr0 : nar .char c0_ = c0_) :
    OCon l Z (⟨"java/lang/String", "<init>", "([C)V"⟩ : MethodName) jdk_42_method_3_code 2 none ws ({ frames := 5, cells := 2, slots := 3, locals := 74 } : Room) #[(.ref s_), (.ref a)] h0 (Q_rsb1_0i1 Z s_ a ca qc c0_ h0 n0) := by
  refine OCon.of (plainFor_of_name pn0) ?_
  intro p e s m below meth c s₁ Φ X0 hx hby hml hown hnm hret hlk hZ e0 hΦ
  have N0 := Fr.nil n0
  refine OGo.st (fun _ kz => castTop (ef_rsb1_0i1 m s_ a) kz) ?_
  have K0 := Keep.refl h0 [s_]
  show OG p e below Φ s₁ m 0 #[rv s_, rv a] []
  refine OGo.st (fun _ kz => XS.aloadN X0.here hx rfl (hb hby d3_0) rfl rfl kz) ?_
  show OG p e below Φ s₁ m 1 #[rv s_, rv a] [(.ref s_)]
  refine OGo.st (fun _ kz => XS.aloadN X0.here hx rfl (hb hby d3_1) rfl rfl kz) ?_
  show OG p e below Φ s₁ m 2 #[rv s_, rv a] [(.ref a), (.ref s_)]
  refine OGo.st (fun _ kz => XS.iconst X0.here hx rfl (hb hby d3_2) kz) ?_
  show OG p e below Φ s₁ m 3 #[rv s_, rv a] [(.int 0), (.ref a), (.ref s_)]
  refine OGo.st (fun _ kz => XS.aloadN X0.here hx rfl (hb hby d3_3) rfl rfl kz) ?_
  show OG p e below Φ s₁ m 4 #[rv s_, rv a] [(.ref a), (.int 0), (.ref a), (.ref s_)]
  obtain ⟨cl1, Aq1, -, S1, M1, -, -⟩ := id V_a
  refine OGo.st (fun _ kz => X0.arraylength hx (by rw [e0]; exact Aq1.1) (State.isArrayOf_alike hZ.alike Aq1.2.1) (g := (mkF m 4 #[rv s_, rv a] [(.ref a), (.int 0), (.ref a), (.ref s_)])) rfl rfl (hb hby d3_4) _ kz) ?_
  rw [len_of S1 M1]
  show OG p e below Φ s₁ m 5 #[rv s_, rv a] [(.int 1), (.int 0), (.ref a), (.ref s_)]
  refine OGo.st (fun _ kz => XS.aconstNull X0.here hx rfl (hb hby d3_5) kz) ?_
  show OG p e below Φ s₁ m 6 #[rv s_, rv a] [.null, (.int 1), (.int 0), (.ref a), (.ref s_)]
  obtain ⟨_, T2, L2, X2, hQ2, st2⟩ := own_callSp X0 hx hZ rfl hown (ow18 hw) (ow19 hw) (ow13 hw) (ow21 hw) (by decide) (rsb1_0i4 l Z a0 hw [] s_ a ca qc c0_ h0 n0 Z0 E_s g_s F_v F_c V_a nsa S_cs hq O_0 S_ad S_hb S_lb hb0 hr0) e0 (W := 0) (by decide) (by decide) (by decide) (by decide) (pc := 6) (ls := #[rv s_, rv a]) (stk := [.null, (.int 1), (.int 0), (.ref a), (.ref s_)]) (by rw [hml]; rfl) (a := s_) (argsL := [(.ref a), (.int 0), (.int 1), .null]) (rest := []) (lenOf pd0 rfl) rfl rfl (Nat.le_of_eq rfl) (hb hby d3_6)
  obtain ⟨rfl, Nq2, Kq2, Eq2, b2, cb2, Fv2, Fc2, Vq2, hz2⟩ := hQ2
  have nq2_a : a ≠ b2 := Nat.ne_of_lt (Nat.lt_of_lt_of_le V_a.lt hz2)
  have nq2_s_ : s_ ≠ b2 := Nat.ne_of_lt (Nat.lt_of_lt_of_le E_s.lt hz2)
  have gq2 : n0 ≤ b2 := Nat.le_trans Z0 hz2
  have sq2 : h0.size ≤ b2 := Nat.le_trans K0.1 hz2
  have N2 := Fr.app N0 Nq2
  have Zs2 : n0 ≤ T2.heap.size := Nat.le_trans Z0 Kq2.1
  have F3 := V_a.keep Kq2 (ninS (Ne.symm nsa) nin0)
  have F4 := O_0.keep Kq2 (allS g_s all0)
  have K2 := K0.trans Kq2 (allS (Or.inl (List.mem_of_getElem? (i := 0) rfl)) all0)
  refine OGo.st st2 ?_
  show OG p e below Φ T2 m 9 #[rv s_, rv a] []
  refine OGo.fin X2 hlk (v := none) (fun _ => rfl) (by decide) (by decide) (fun fs hr => X2.returnOut hx hret (hb hby d3_9) hr) fun U eU hF => hΦ _ _ _ ?_ hF
  rw [eU]
  show Q_rsb1_0i1 Z s_ a ca qc c0_ h0 n0 _ _ _
  exact ⟨rfl, N2, K2, Eq2, _, _, Fv2, Fc2, Vq2, sq2⟩

theorem ef_rsl2c2 (m : MethodId) (x0 : Addr) (x1 : Int32) (x2 : Addr) (x3 : Int32) (x4 : Int32) : entryFrame m #[(.ref x0), (.int x1), (.ref x2), (.int x3), (.int x4)] 7 = mkF m 0 #[.val (.ref x0), .val (.int x1), .val (.ref x2), .val (.int x3), .val (.int x4), .unset, .unset] [] := by first | (simp [entryFrame, mkF, argsToLocals, Value.category]; done) | rfl
def Q_rsl2c2 (Z : State) (a : Addr) (ca : ClassId) (b : Addr) (cb : ClassId) (c0_ : Int32) (c1_ : Int32) (h0 : Heap) (n0 : Nat) (v : Option Value) (h : Heap) (L : List Loc) : Prop := v = some (.int (2 : Int32)) ∧ Fr n0 L ∧ Keep h0 h [b] ∧ Arv Z h b cb .byte (2 : Int32) [(.int (nar .byte (c0_.toInt8.toInt32))), (.int (nar .byte (c1_.toInt8.toInt32)))] (.int (0 : Int32))
set_option maxRecDepth 65536 in
set_option maxHeartbeats 40000000 in
theorem rsl2c2 (l : Launch) (Z : State) (a0 : Array Value) (hw : ∀ d ∈ tables_1, d.before a0 Z = true) (ws : List Jvm.Cond) (a : Addr) (ca : ClassId) (b : Addr) (cb : ClassId) (c0_ : Int32) (c1_ : Int32) (h0 : Heap) (n0 : Nat) (Z0 : n0 ≤ h0.size) (V_a : Arv Z h0 a ca .char (2 : Int32) [(.int c0_), (.int c1_)] (.int (0 : Int32))) (V_b : Arv Z h0 b cb .byte (2 : Int32) [(.int (0 : Int32)), (.int (0 : Int32))] (.int (0 : Int32))) (nab : a ≠ b) (g_b : n0 ≤ b) (hl0 : ¬ (255 : Int32) < c0_) (hl1 : ¬ (255 : Int32) < c1_) :
    OCon l Z (⟨"java/lang/StringUTF16", "compress", "([CI[BII)I"⟩ : MethodName) jdk_52_method_21_code 7 (some .int) ws ({ frames := 0, cells := 0, slots := 0, locals := 0 } : Room) #[(.ref a), (.int (0 : Int32)), (.ref b), (.int (0 : Int32)), (.int (2 : Int32))] h0 (Q_rsl2c2 Z a ca b cb c0_ c1_ h0 n0) := by
  refine OCon.of (plainFor_of_name pn1) ?_
  intro p e s m below meth c s₁ Φ X0 hx hby hml hown hnm hret hlk hZ e0 hΦ
  have N0 := Fr.nil n0
  refine OGo.st (fun _ kz => castTop (ef_rsl2c2 m a (0 : Int32) b (0 : Int32) (2 : Int32)) kz) ?_
  have K0 := Keep.refl h0 [b]
  show OG p e below Φ s₁ m 0 #[rv a, iv 0, rv b, iv 0, iv 2, .unset, .unset] []
  refine OGo.st (fun _ kz => XS.iconst X0.here hx rfl (hb hby d7_0) kz) ?_
  show OG p e below Φ s₁ m 1 #[rv a, iv 0, rv b, iv 0, iv 2, .unset, .unset] [(.int 0)]
  refine OGo.st (fun _ kz => XS.istore X0.here hx rfl (hb hby d7_1) rfl (l' := #[rv a, iv 0, rv b, iv 0, iv 2, iv 0, .unset]) rfl kz) ?_
  show OG p e below Φ s₁ m 3 #[rv a, iv 0, rv b, iv 0, iv 2, iv 0, .unset] []
  refine OGo.st (fun _ kz => XS.iload X0.here hx rfl (hb hby d7_3) rfl kz) ?_
  show OG p e below Φ s₁ m 5 #[rv a, iv 0, rv b, iv 0, iv 2, iv 0, .unset] [(.int 0)]
  refine OGo.st (fun _ kz => XS.iload X0.here hx rfl (hb hby d7_5) rfl kz) ?_
  show OG p e below Φ s₁ m 7 #[rv a, iv 0, rv b, iv 0, iv 2, iv 0, .unset] [(.int 2), (.int 0)]
  refine OGo.st (fun _ kz => XS.icmpNo X0.here hx rfl (hb hby d7_7) rfl (XT.ii_ge_f (by decide)) kz) ?_
  show OG p e below Φ s₁ m 10 #[rv a, iv 0, rv b, iv 0, iv 2, iv 0, .unset] []
  refine OGo.st (fun _ kz => XS.aloadN X0.here hx rfl (hb hby d7_10) rfl rfl kz) ?_
  show OG p e below Φ s₁ m 11 #[rv a, iv 0, rv b, iv 0, iv 2, iv 0, .unset] [(.ref a)]
  refine OGo.st (fun _ kz => XS.iloadN X0.here hx rfl (hb hby d7_11) rfl kz) ?_
  show OG p e below Φ s₁ m 12 #[rv a, iv 0, rv b, iv 0, iv 2, iv 0, .unset] [(.int 0), (.ref a)]
  obtain ⟨cl1, Aq1, -, S1, M1, H1, -⟩ := id V_a
  have in1 : ¬ ((0 : Int32) < 0 ∨ cl1.slots.size ≤ (0 : Int32).toNatClampNeg) := inb_of S1 ⟨by decide, by decide⟩
  have at1 : cl1.slots[(0 : Int32).toNatClampNeg]? = some (.int c0_) := H1.at in1 rfl
  refine OGo.st (fun _ kz => X0.caload hx (by rw [e0]; exact Aq1.1) (State.isArrayOf_alike hZ.alike Aq1.2.1) Aq1.2.2 in1 at1 (g := (mkF m 12 #[rv a, iv 0, rv b, iv 0, iv 2, iv 0, .unset] [(.int 0), (.ref a)])) rfl rfl (hb hby d7_12) _ kz) ?_
  show OG p e below Φ s₁ m 13 #[rv a, iv 0, rv b, iv 0, iv 2, iv 0, .unset] [(.int c0_)]
  refine OGo.st (fun _ kz => XS.istore X0.here hx rfl (hb hby d7_13) rfl (l' := #[rv a, iv 0, rv b, iv 0, iv 2, iv 0, iv c0_]) rfl kz) ?_
  show OG p e below Φ s₁ m 15 #[rv a, iv 0, rv b, iv 0, iv 2, iv 0, iv c0_] []
  refine OGo.st (fun _ kz => XS.iload X0.here hx rfl (hb hby d7_15) rfl kz) ?_
  show OG p e below Φ s₁ m 17 #[rv a, iv 0, rv b, iv 0, iv 2, iv 0, iv c0_] [(.int c0_)]
  refine OGo.st (fun _ kz => XS.sipush X0.here hx rfl (hb hby d7_17) kz) ?_
  show OG p e below Φ s₁ m 20 #[rv a, iv 0, rv b, iv 0, iv 2, iv 0, iv c0_] [(.int 255), (.int c0_)]
  refine OGo.st (fun _ kz => XS.icmpYes X0.here hx rfl (pc0 := 20) (pc' := 26) rfl (hb hby d7_20) rfl (XT.ii_le_t hl0) (by decide) (by decide) kz) ?_
  show OG p e below Φ s₁ m 26 #[rv a, iv 0, rv b, iv 0, iv 2, iv 0, iv c0_] []
  refine OGo.st (fun _ kz => XS.aloadN X0.here hx rfl (hb hby d7_26) rfl rfl kz) ?_
  show OG p e below Φ s₁ m 27 #[rv a, iv 0, rv b, iv 0, iv 2, iv 0, iv c0_] [(.ref b)]
  refine OGo.st (fun _ kz => XS.iloadN X0.here hx rfl (hb hby d7_27) rfl kz) ?_
  show OG p e below Φ s₁ m 28 #[rv a, iv 0, rv b, iv 0, iv 2, iv 0, iv c0_] [(.int 0), (.ref b)]
  refine OGo.st (fun _ kz => XS.iload X0.here hx rfl (hb hby d7_28) rfl kz) ?_
  show OG p e below Φ s₁ m 30 #[rv a, iv 0, rv b, iv 0, iv 2, iv 0, iv c0_] [(.int c0_), (.int 0), (.ref b)]
  refine OGo.st (fun _ kz => XT.i2b X0.here hx rfl (hb hby d7_30) rfl kz) ?_
  show OG p e below Φ s₁ m 31 #[rv a, iv 0, rv b, iv 0, iv 2, iv 0, iv c0_] [(.int (c0_.toInt8.toInt32)), (.int 0), (.ref b)]
  obtain ⟨cl2, Aq2, Cq2, S2, M2, H2, G2⟩ := id V_b
  have in2 : ¬ ((0 : Int32) < 0 ∨ cl2.slots.size ≤ (0 : Int32).toNatClampNeg) := inb_of S2 ⟨by decide, by decide⟩
  obtain ⟨T2, h2, X2, e2, W2, st2⟩ := stB X0 hx hZ e0 Aq2 in2 (g := (mkF m 31 #[rv a, iv 0, rv b, iv 0, iv 2, iv 0, iv c0_] [(.int (c0_.toInt8.toInt32)), (.int 0), (.ref b)])) rfl rfl (hb hby d7_31)
  have W2 : Wr h0 h2 b (0 : Int32).toNatClampNeg (.int (nar .byte (c0_.toInt8.toInt32))) := W2
  have F3 := V_a.other W2 nab
  have V2 : Arv Z h2 b cb .byte (2 : Int32) [(.int (nar .byte (c0_.toInt8.toInt32))), (.int (0 : Int32))] (.int (0 : Int32)) := Arv.set Aq2 Cq2 S2 M2 H2 G2 (fits_nar_byte _) W2 0 (by decide) (by show 0 < 2; decide)
  have K2 := K0.wr W2 (Or.inl (List.mem_of_getElem? (i := 0) rfl))
  have N2 := Fr.snoc X2 N0 g_b
  have Zs2 : n0 ≤ h2.size := by rw [W2.size]; exact Z0
  refine OGo.st st2 ?_
  show OG p e below Φ T2 m 32 #[rv a, iv 0, rv b, iv 0, iv 2, iv 0, iv c0_] []
  refine OGo.st (fun _ kz => XS.iinc X2.here hx rfl (hb hby d7_32) rfl (l' := #[rv a, iv ((0 : Int32) + (1 : Int32)), rv b, iv 0, iv 2, iv 0, iv c0_]) rfl kz) ?_
  show OG p e below Φ T2 m 35 #[rv a, iv 1, rv b, iv 0, iv 2, iv 0, iv c0_] []
  refine OGo.st (fun _ kz => XS.iinc X2.here hx rfl (hb hby d7_35) rfl (l' := #[rv a, iv 1, rv b, iv ((0 : Int32) + (1 : Int32)), iv 2, iv 0, iv c0_]) rfl kz) ?_
  show OG p e below Φ T2 m 38 #[rv a, iv 1, rv b, iv 1, iv 2, iv 0, iv c0_] []
  refine OGo.st (fun _ kz => XS.iinc X2.here hx rfl (hb hby d7_38) rfl (l' := #[rv a, iv 1, rv b, iv 1, iv 2, iv ((0 : Int32) + (1 : Int32)), iv c0_]) rfl kz) ?_
  show OG p e below Φ T2 m 41 #[rv a, iv 1, rv b, iv 1, iv 2, iv 1, iv c0_] []
  refine OGo.st (fun _ kz => XS.goto X2.here hx rfl (pc0 := 41) (pc' := 3) rfl (hb hby d7_41) (by decide) (by decide) kz) ?_
  show OG p e below Φ T2 m 3 #[rv a, iv 1, rv b, iv 1, iv 2, iv 1, iv c0_] []
  refine OGo.st (fun _ kz => XS.iload X2.here hx rfl (hb hby d7_3) rfl kz) ?_
  show OG p e below Φ T2 m 5 #[rv a, iv 1, rv b, iv 1, iv 2, iv 1, iv c0_] [(.int 1)]
  refine OGo.st (fun _ kz => XS.iload X2.here hx rfl (hb hby d7_5) rfl kz) ?_
  show OG p e below Φ T2 m 7 #[rv a, iv 1, rv b, iv 1, iv 2, iv 1, iv c0_] [(.int 2), (.int 1)]
  refine OGo.st (fun _ kz => XS.icmpNo X2.here hx rfl (hb hby d7_7) rfl (XT.ii_ge_f (by decide)) kz) ?_
  show OG p e below Φ T2 m 10 #[rv a, iv 1, rv b, iv 1, iv 2, iv 1, iv c0_] []
  refine OGo.st (fun _ kz => XS.aloadN X2.here hx rfl (hb hby d7_10) rfl rfl kz) ?_
  show OG p e below Φ T2 m 11 #[rv a, iv 1, rv b, iv 1, iv 2, iv 1, iv c0_] [(.ref a)]
  refine OGo.st (fun _ kz => XS.iloadN X2.here hx rfl (hb hby d7_11) rfl kz) ?_
  show OG p e below Φ T2 m 12 #[rv a, iv 1, rv b, iv 1, iv 2, iv 1, iv c0_] [(.int 1), (.ref a)]
  obtain ⟨cl4, Aq4, -, S4, M4, H4, -⟩ := id F3
  have in4 : ¬ ((1 : Int32) < 0 ∨ cl4.slots.size ≤ (1 : Int32).toNatClampNeg) := inb_of S4 ⟨by decide, by decide⟩
  have at4 : cl4.slots[(1 : Int32).toNatClampNeg]? = some (.int c1_) := H4.at in4 rfl
  refine OGo.st (fun _ kz => X2.caload hx (by rw [e2]; exact Aq4.1) (State.isArrayOf_alike hZ.alike Aq4.2.1) Aq4.2.2 in4 at4 (g := (mkF m 12 #[rv a, iv 1, rv b, iv 1, iv 2, iv 1, iv c0_] [(.int 1), (.ref a)])) rfl rfl (hb hby d7_12) _ kz) ?_
  show OG p e below Φ T2 m 13 #[rv a, iv 1, rv b, iv 1, iv 2, iv 1, iv c0_] [(.int c1_)]
  refine OGo.st (fun _ kz => XS.istore X2.here hx rfl (hb hby d7_13) rfl (l' := #[rv a, iv 1, rv b, iv 1, iv 2, iv 1, iv c1_]) rfl kz) ?_
  show OG p e below Φ T2 m 15 #[rv a, iv 1, rv b, iv 1, iv 2, iv 1, iv c1_] []
  refine OGo.st (fun _ kz => XS.iload X2.here hx rfl (hb hby d7_15) rfl kz) ?_
  show OG p e below Φ T2 m 17 #[rv a, iv 1, rv b, iv 1, iv 2, iv 1, iv c1_] [(.int c1_)]
  refine OGo.st (fun _ kz => XS.sipush X2.here hx rfl (hb hby d7_17) kz) ?_
  show OG p e below Φ T2 m 20 #[rv a, iv 1, rv b, iv 1, iv 2, iv 1, iv c1_] [(.int 255), (.int c1_)]
  refine OGo.st (fun _ kz => XS.icmpYes X2.here hx rfl (pc0 := 20) (pc' := 26) rfl (hb hby d7_20) rfl (XT.ii_le_t hl1) (by decide) (by decide) kz) ?_
  show OG p e below Φ T2 m 26 #[rv a, iv 1, rv b, iv 1, iv 2, iv 1, iv c1_] []
  refine OGo.st (fun _ kz => XS.aloadN X2.here hx rfl (hb hby d7_26) rfl rfl kz) ?_
  show OG p e below Φ T2 m 27 #[rv a, iv 1, rv b, iv 1, iv 2, iv 1, iv c1_] [(.ref b)]
  refine OGo.st (fun _ kz => XS.iloadN X2.here hx rfl (hb hby d7_27) rfl kz) ?_
  show OG p e below Φ T2 m 28 #[rv a, iv 1, rv b, iv 1, iv 2, iv 1, iv c1_] [(.int 1), (.ref b)]
  refine OGo.st (fun _ kz => XS.iload X2.here hx rfl (hb hby d7_28) rfl kz) ?_
  show OG p e below Φ T2 m 30 #[rv a, iv 1, rv b, iv 1, iv 2, iv 1, iv c1_] [(.int c1_), (.int 1), (.ref b)]
  refine OGo.st (fun _ kz => XT.i2b X2.here hx rfl (hb hby d7_30) rfl kz) ?_
  show OG p e below Φ T2 m 31 #[rv a, iv 1, rv b, iv 1, iv 2, iv 1, iv c1_] [(.int (c1_.toInt8.toInt32)), (.int 1), (.ref b)]
  obtain ⟨cl5, Aq5, Cq5, S5, M5, H5, G5⟩ := id V2
  have in5 : ¬ ((1 : Int32) < 0 ∨ cl5.slots.size ≤ (1 : Int32).toNatClampNeg) := inb_of S5 ⟨by decide, by decide⟩
  obtain ⟨T5, h5, X5, e5, W5, st5⟩ := stB X2 hx hZ e2 Aq5 in5 (g := (mkF m 31 #[rv a, iv 1, rv b, iv 1, iv 2, iv 1, iv c1_] [(.int (c1_.toInt8.toInt32)), (.int 1), (.ref b)])) rfl rfl (hb hby d7_31)
  have W5 : Wr h2 h5 b (1 : Int32).toNatClampNeg (.int (nar .byte (c1_.toInt8.toInt32))) := W5
  have F6 := F3.other W5 nab
  have V5 : Arv Z h5 b cb .byte (2 : Int32) [(.int (nar .byte (c0_.toInt8.toInt32))), (.int (nar .byte (c1_.toInt8.toInt32)))] (.int (0 : Int32)) := Arv.set Aq5 Cq5 S5 M5 H5 G5 (fits_nar_byte _) W5 1 (by decide) (by show 1 < 2; decide)
  have K5 := K2.wr W5 (Or.inl (List.mem_of_getElem? (i := 0) rfl))
  have N5 := Fr.snoc X5 N2 g_b
  have Zs5 : n0 ≤ h5.size := by rw [W5.size]; exact Zs2
  refine OGo.st st5 ?_
  show OG p e below Φ T5 m 32 #[rv a, iv 1, rv b, iv 1, iv 2, iv 1, iv c1_] []
  refine OGo.st (fun _ kz => XS.iinc X5.here hx rfl (hb hby d7_32) rfl (l' := #[rv a, iv ((1 : Int32) + (1 : Int32)), rv b, iv 1, iv 2, iv 1, iv c1_]) rfl kz) ?_
  show OG p e below Φ T5 m 35 #[rv a, iv 2, rv b, iv 1, iv 2, iv 1, iv c1_] []
  refine OGo.st (fun _ kz => XS.iinc X5.here hx rfl (hb hby d7_35) rfl (l' := #[rv a, iv 2, rv b, iv ((1 : Int32) + (1 : Int32)), iv 2, iv 1, iv c1_]) rfl kz) ?_
  show OG p e below Φ T5 m 38 #[rv a, iv 2, rv b, iv 2, iv 2, iv 1, iv c1_] []
  refine OGo.st (fun _ kz => XS.iinc X5.here hx rfl (hb hby d7_38) rfl (l' := #[rv a, iv 2, rv b, iv 2, iv 2, iv ((1 : Int32) + (1 : Int32)), iv c1_]) rfl kz) ?_
  show OG p e below Φ T5 m 41 #[rv a, iv 2, rv b, iv 2, iv 2, iv 2, iv c1_] []
  refine OGo.st (fun _ kz => XS.goto X5.here hx rfl (pc0 := 41) (pc' := 3) rfl (hb hby d7_41) (by decide) (by decide) kz) ?_
  show OG p e below Φ T5 m 3 #[rv a, iv 2, rv b, iv 2, iv 2, iv 2, iv c1_] []
  refine OGo.st (fun _ kz => XS.iload X5.here hx rfl (hb hby d7_3) rfl kz) ?_
  show OG p e below Φ T5 m 5 #[rv a, iv 2, rv b, iv 2, iv 2, iv 2, iv c1_] [(.int 2)]
  refine OGo.st (fun _ kz => XS.iload X5.here hx rfl (hb hby d7_5) rfl kz) ?_
  show OG p e below Φ T5 m 7 #[rv a, iv 2, rv b, iv 2, iv 2, iv 2, iv c1_] [(.int 2), (.int 2)]
  refine OGo.st (fun _ kz => XS.icmpYes X5.here hx rfl (pc0 := 7) (pc' := 44) rfl (hb hby d7_7) rfl (XT.ii_ge_t (by decide)) (by decide) (by decide) kz) ?_
  show OG p e below Φ T5 m 44 #[rv a, iv 2, rv b, iv 2, iv 2, iv 2, iv c1_] []
  refine OGo.st (fun _ kz => XS.iload X5.here hx rfl (hb hby d7_44) rfl kz) ?_
  show OG p e below Φ T5 m 46 #[rv a, iv 2, rv b, iv 2, iv 2, iv 2, iv c1_] [(.int 2)]
  refine OGo.fin X5 hlk (v := (some (.int 2))) (fun h => by rw [hret] at h; cases h) (by decide) (by decide) (fun fs hr => X5.ireturnOut hx hret rfl (by simp) (hb hby d7_46) hr) fun U eU hF => hΦ _ _ _ ?_ hF
  rw [eU, e5]
  show Q_rsl2c2 Z a ca b cb c0_ c1_ h0 n0 _ _ _
  exact ⟨rfl, N5, K5, V5⟩

theorem ef_rsl2c3 (m : MethodId) (x0 : Addr) (x1 : Int32) (x2 : Int32) : entryFrame m #[(.ref x0), (.int x1), (.int x2)] 6 = mkF m 0 #[.val (.ref x0), .val (.int x1), .val (.int x2), .unset, .unset, .unset] [] := by first | (simp [entryFrame, mkF, argsToLocals, Value.category]; done) | rfl
def Q_rsl2c3 (Z : State) (a : Addr) (ca : ClassId) (c0_ : Int32) (c1_ : Int32) (h0 : Heap) (n0 : Nat) (v : Option Value) (h : Heap) (L : List Loc) : Prop := ∃ b cb, v = some (.ref b) ∧ Fr n0 L ∧ Keep h0 h [] ∧ Arv Z h b cb .byte (2 : Int32) [(.int (nar .byte (c0_.toInt8.toInt32))), (.int (nar .byte (c1_.toInt8.toInt32)))] (.int (0 : Int32)) ∧ h0.size ≤ b
set_option maxRecDepth 65536 in
set_option maxHeartbeats 40000000 in
theorem rsl2c3 (l : Launch) (Z : State) (a0 : Array Value) (hw : ∀ d ∈ tables_1, d.before a0 Z = true) (ws : List Jvm.Cond) (a : Addr) (ca : ClassId) (c0_ : Int32) (c1_ : Int32) (h0 : Heap) (n0 : Nat) (Z0 : n0 ≤ h0.size) (V_a : Arv Z h0 a ca .char (2 : Int32) [(.int c0_), (.int c1_)] (.int (0 : Int32))) (hl0 : ¬ (255 : Int32) < c0_) (hl1 : ¬ (255 : Int32) < c1_) :
    OCon l Z (⟨"java/lang/StringUTF16", "compress", "([CII)[B"⟩ : MethodName) jdk_52_method_16_code 6 (some (.array .byte)) ws ({ frames := 1, cells := 1, slots := 2, locals := 18 } : Room) #[(.ref a), (.int (0 : Int32)), (.int (2 : Int32))] h0 (Q_rsl2c3 Z a ca c0_ c1_ h0 n0) := by
  refine OCon.of (plainFor_of_name pn1) ?_
  intro p e s m below meth c s₁ Φ X0 hx hby hml hown hnm hret hlk hZ e0 hΦ
  have N0 := Fr.nil n0
  refine OGo.st (fun _ kz => castTop (ef_rsl2c3 m a (0 : Int32) (2 : Int32)) kz) ?_
  have K0 := Keep.refl h0 []
  show OG p e below Φ s₁ m 0 #[rv a, iv 0, iv 2, .unset, .unset, .unset] []
  refine OGo.st (fun _ kz => XS.iloadN X0.here hx rfl (hb hby d6_0) rfl kz) ?_
  show OG p e below Φ s₁ m 1 #[rv a, iv 0, iv 2, .unset, .unset, .unset] [(.int 2)]
  obtain ⟨T1, h1, c1, X1, e1, E1, Ar1, st1⟩ := newP (aty := .byte) X0 hx hZ (ow26 hw) e0 (g := (mkF m 1 #[rv a, iv 0, iv 2, .unset, .unset, .unset] [(.int 2)])) rfl (hb hby d6_1) rfl (by decide) (cap := 2) (by decide) (by decide) (by decide) (by decide)
  obtain ⟨b1, g1⟩ : ∃ z, z = h0.size := ⟨_, rfl⟩
  rw [← g1] at Ar1 st1
  have ne1_a : a ≠ b1 := by rw [g1]; exact Nat.ne_of_lt V_a.lt
  have F2 := V_a.ext E1
  have gb1 : n0 ≤ b1 := Nat.le_trans Z0 (Nat.le_of_eq g1.symm)
  have sz1 : h0.size ≤ b1 := Nat.le_trans K0.1 (Nat.le_of_eq g1.symm)
  have K1 := K0.ext E1
  have Zs1 : n0 ≤ h1.size := Nat.le_trans Z0 E1.1
  have V1 : Arv Z h1 b1 c1 .byte (2 : Int32) [(.int (0 : Int32)), (.int (0 : Int32))] (.int (0 : Int32)) := (Arv.new Ar1 (by decide)).pad (pad_rep [] _ 2)
  refine OGo.st st1 ?_
  show OG p e below Φ T1 m 3 #[rv a, iv 0, iv 2, .unset, .unset, .unset] [(.ref b1)]
  refine OGo.st (fun _ kz => XS.astoreN X1.here hx rfl (hb hby d6_3) rfl rfl (l' := #[rv a, iv 0, iv 2, rv b1, .unset, .unset]) rfl kz) ?_
  show OG p e below Φ T1 m 4 #[rv a, iv 0, iv 2, rv b1, .unset, .unset] []
  refine OGo.st (fun _ kz => XS.aloadN X1.here hx rfl (hb hby d6_4) rfl rfl kz) ?_
  show OG p e below Φ T1 m 5 #[rv a, iv 0, iv 2, rv b1, .unset, .unset] [(.ref a)]
  refine OGo.st (fun _ kz => XS.iloadN X1.here hx rfl (hb hby d6_5) rfl kz) ?_
  show OG p e below Φ T1 m 6 #[rv a, iv 0, iv 2, rv b1, .unset, .unset] [(.int 0), (.ref a)]
  refine OGo.st (fun _ kz => XS.aloadN X1.here hx rfl (hb hby d6_6) rfl rfl kz) ?_
  show OG p e below Φ T1 m 7 #[rv a, iv 0, iv 2, rv b1, .unset, .unset] [(.ref b1), (.int 0), (.ref a)]
  refine OGo.st (fun _ kz => XS.iconst X1.here hx rfl (hb hby d6_7) kz) ?_
  show OG p e below Φ T1 m 8 #[rv a, iv 0, iv 2, rv b1, .unset, .unset] [(.int 0), (.ref b1), (.int 0), (.ref a)]
  refine OGo.st (fun _ kz => XS.iloadN X1.here hx rfl (hb hby d6_8) rfl kz) ?_
  show OG p e below Φ T1 m 9 #[rv a, iv 0, iv 2, rv b1, .unset, .unset] [(.int 2), (.int 0), (.ref b1), (.int 0), (.ref a)]
  obtain ⟨_, T3, L3, X3, hQ3, st3⟩ := own_callSt X1 hx hZ hown (ow38 hw) (ow39 hw) (ow36 hw) (ow40 hw) (by decide) (rsl2c2 l Z a0 hw [] a ca b1 c1 c0_ c1_ h1 n0 Zs1 F2 V1 ne1_a gb1 hl0 hl1) e1 (W := 0) (by decide) (by decide) (by decide) (by decide) (pc := 9) (ls := #[rv a, iv 0, iv 2, rv b1, .unset, .unset]) (stk := [(.int 2), (.int 0), (.ref b1), (.int 0), (.ref a)]) (by rw [hml]; rfl) (argsL := [(.ref a), (.int 0), (.ref b1), (.int 0), (.int 2)]) (rest := []) (lenOf pd1 rfl) rfl rfl (Nat.le_of_eq rfl) (hb hby d6_9)
  obtain ⟨rfl, Nq3, Kq3, Vq3⟩ := hQ3
  have N3 := Fr.app N0 Nq3
  have Zs3 : n0 ≤ T3.heap.size := Nat.le_trans Zs1 Kq3.1
  have F4 := F2.keep Kq3 (ninS ne1_a nin0)
  have K3 := K1.trans Kq3 (allS (Or.inr sz1) all0)
  refine OGo.st st3 ?_
  show OG p e below Φ T3 m 12 #[rv a, iv 0, iv 2, rv b1, .unset, .unset] [(.int 2)]
  refine OGo.st (fun _ kz => XS.istore X3.here hx rfl (hb hby d6_12) rfl (l' := #[rv a, iv 0, iv 2, rv b1, iv 2, .unset]) rfl kz) ?_
  show OG p e below Φ T3 m 14 #[rv a, iv 0, iv 2, rv b1, iv 2, .unset] []
  refine OGo.st (fun _ kz => XS.iload X3.here hx rfl (hb hby d6_14) rfl kz) ?_
  show OG p e below Φ T3 m 16 #[rv a, iv 0, iv 2, rv b1, iv 2, .unset] [(.int 2)]
  refine OGo.st (fun _ kz => XS.iloadN X3.here hx rfl (hb hby d6_16) rfl kz) ?_
  show OG p e below Φ T3 m 17 #[rv a, iv 0, iv 2, rv b1, iv 2, .unset] [(.int 2), (.int 2)]
  refine OGo.st (fun _ kz => XS.icmpYes X3.here hx rfl (pc0 := 17) (pc' := 57) rfl (hb hby d6_17) rfl (XT.ii_eq_t (by decide)) (by decide) (by decide) kz) ?_
  show OG p e below Φ T3 m 57 #[rv a, iv 0, iv 2, rv b1, iv 2, .unset] []
  refine OGo.st (fun _ kz => XS.aloadN X3.here hx rfl (hb hby d6_57) rfl rfl kz) ?_
  show OG p e below Φ T3 m 58 #[rv a, iv 0, iv 2, rv b1, iv 2, .unset] [(.ref b1)]
  refine OGo.fin X3 hlk (v := (some (.ref b1))) (fun h => by rw [hret] at h; cases h) (by decide) (by decide) (fun fs hr => X3.areturnOut hx rfl hret rfl (hb hby d6_58) hr) fun U eU hF => hΦ _ _ _ ?_ hF
  rw [eU]
  show Q_rsl2c3 Z a ca c0_ c1_ h0 n0 _ _ _
  exact ⟨_, _, rfl, N3, K3, Vq3, sz1⟩

theorem ef_rsl2cf (m : MethodId) (x0 : Addr) (x1 : Int32) : entryFrame m #[(.ref x0), (.int x1)] 2 = mkF m 0 #[.val (.ref x0), .val (.int x1)] [] := by first | (simp [entryFrame, mkF, argsToLocals, Value.category]; done) | rfl
def Q_rsl2cf (Z : State) (b : Addr) (cb : ClassId) (c0_ : Int32) (c1_ : Int32) (h0 : Heap) (n0 : Nat) (v : Option Value) (h : Heap) (L : List Loc) : Prop := v = some (.int (0 : Int32)) ∧ Fr n0 L ∧ h = h0
set_option maxRecDepth 65536 in
set_option maxHeartbeats 40000000 in
theorem rsl2cf (l : Launch) (Z : State) (a0 : Array Value) (hw : ∀ d ∈ tables_1, d.before a0 Z = true) (ws : List Jvm.Cond) (b : Addr) (cb : ClassId) (c0_ : Int32) (c1_ : Int32) (h0 : Heap) (n0 : Nat) (Z0 : n0 ≤ h0.size) (V_b : Arv Z h0 b cb .byte (2 : Int32) [(.int (nar .byte (c0_.toInt8.toInt32))), (.int (nar .byte (c1_.toInt8.toInt32)))] (.int (0 : Int32))) :
    OCon l Z (⟨"java/lang/StringUTF16", "coderFromArrayLen", "([BI)B"⟩ : MethodName) jdk_52_method_15_code 2 (some .byte) ws ({ frames := 0, cells := 0, slots := 0, locals := 0 } : Room) #[(.ref b), (.int (2 : Int32))] h0 (Q_rsl2cf Z b cb c0_ c1_ h0 n0) := by
  refine OCon.of (plainFor_of_name pn1) ?_
  intro p e s m below meth c s₁ Φ X0 hx hby hml hown hnm hret hlk hZ e0 hΦ
  have N0 := Fr.nil n0
  refine OGo.st (fun _ kz => castTop (ef_rsl2cf m b (2 : Int32)) kz) ?_
  show OG p e below Φ s₁ m 0 #[rv b, iv 2] []
  refine OGo.st (fun _ kz => XS.iloadN X0.here hx rfl (hb hby d8_0) rfl kz) ?_
  show OG p e below Φ s₁ m 1 #[rv b, iv 2] [(.int 2)]
  refine OGo.st (fun _ kz => XS.aloadN X0.here hx rfl (hb hby d8_1) rfl rfl kz) ?_
  show OG p e below Φ s₁ m 2 #[rv b, iv 2] [(.ref b), (.int 2)]
  obtain ⟨cl1, Aq1, -, S1, M1, -, -⟩ := id V_b
  refine OGo.st (fun _ kz => X0.arraylength hx (by rw [e0]; exact Aq1.1) (State.isArrayOf_alike hZ.alike Aq1.2.1) (g := (mkF m 2 #[rv b, iv 2] [(.ref b), (.int 2)])) rfl rfl (hb hby d8_2) _ kz) ?_
  rw [len_of S1 M1]
  show OG p e below Φ s₁ m 3 #[rv b, iv 2] [(.int 2), (.int 2)]
  refine OGo.st (fun _ kz => XS.isub X0.here hx rfl (hb hby d8_3) rfl kz) ?_
  show OG p e below Φ s₁ m 4 #[rv b, iv 2] [(.int 0)]
  refine OGo.st (fun _ kz => XS.bipush X0.here hx rfl (hb hby d8_4) kz) ?_
  show OG p e below Φ s₁ m 6 #[rv b, iv 2] [(.int 31), (.int 0)]
  refine OGo.st (fun _ kz => XT.iushr X0.here hx rfl (hb hby d8_6) rfl kz) ?_
  show OG p e below Φ s₁ m 7 #[rv b, iv 2] [(.int 0)]
  refine OGo.st (fun _ kz => XT.i2b X0.here hx rfl (hb hby d8_7) rfl kz) ?_
  show OG p e below Φ s₁ m 8 #[rv b, iv 2] [(.int 0)]
  refine OGo.fin X0 hlk (v := (some (.int 0))) (fun h => by rw [hret] at h; cases h) (by decide) (by decide) (fun fs hr => X0.ireturnOut hx hret rfl (by simp) (hb hby d8_8) hr) fun U eU hF => hΦ _ _ _ ?_ hF
  rw [eU, e0]
  show Q_rsl2cf Z b cb c0_ c1_ h0 n0 _ _ _
  exact ⟨rfl, N0, rfl⟩

theorem ef_rsl2i4 (m : MethodId) (x0 : Addr) (x1 : Addr) (x2 : Int32) (x3 : Int32) : entryFrame m #[(.ref x0), (.ref x1), (.int x2), (.int x3), .null] 6 = mkF m 0 #[.val (.ref x0), .val (.ref x1), .val (.int x2), .val (.int x3), .val .null, .unset] [] := by first | (simp [entryFrame, mkF, argsToLocals, Value.category]; done) | rfl
def Q_rsl2i4 (Z : State) (s_ : Addr) (a : Addr) (ca : ClassId) (qc : Int32) (c0_ : Int32) (c1_ : Int32) (h0 : Heap) (n0 : Nat) (v : Option Value) (h : Heap) (L : List Loc) : Prop := v = none ∧ Fr n0 L ∧ Keep h0 h [s_] ∧ Exa Z h s_ "java/lang/String" ∧ ∃ b cb, Fld Z h s_ "java/lang/String" "value" "[B" (.ref b) ∧ Fld Z h s_ "java/lang/String" "coder" "B" (.int (0 : Int32)) ∧ Arv Z h b cb .byte (2 : Int32) [(.int (nar .byte (c0_.toInt8.toInt32))), (.int (nar .byte (c1_.toInt8.toInt32)))] (.int (0 : Int32)) ∧ h0.size ≤ b
set_option maxRecDepth 65536 in
set_option maxHeartbeats 40000000 in
theorem rsl2i4 (l : Launch) (Z : State) (a0 : Array Value) (hw : ∀ d ∈ tables_1, d.before a0 Z = true) (ws : List Jvm.Cond) (s_ : Addr) (a : Addr) (ca : ClassId) (qc : Int32) (c0_ : Int32) (c1_ : Int32) (h0 : Heap) (n0 : Nat) (Z0 : n0 ≤ h0.size) (E_s : Exa Z h0 s_ "java/lang/String") (g_s : n0 ≤ s_) (F_v : Fld Z h0 s_ "java/lang/String" "value" "[B" .null) (F_c : Fld Z h0 s_ "java/lang/String" "coder" "B" (.int (0 : Int32))) (V_a : Arv Z h0 a ca .char (2 : Int32) [(.int c0_), (.int c1_)] (.int (0 : Int32))) (nsa : s_ ≠ a) (S_q : Sta Z h0 "java/lang/String" "COMPACT_STRINGS" "Z" (.int qc)) (hq : ¬ qc = 0) (hl0 : ¬ (255 : Int32) < c0_) (hl1 : ¬ (255 : Int32) < c1_) :
    OCon l Z (⟨"java/lang/String", "<init>", "([CIILjava/lang/Void;)V"⟩ : MethodName) jdk_42_method_149_code 6 none ws ({ frames := 2, cells := 1, slots := 2, locals := 35 } : Room) #[(.ref s_), (.ref a), (.int (0 : Int32)), (.int (2 : Int32)), .null] h0 (Q_rsl2i4 Z s_ a ca qc c0_ c1_ h0 n0) := by
  refine OCon.of (plainFor_of_name pn0) ?_
  intro p e s m below meth c s₁ Φ X0 hx hby hml hown hnm hret hlk hZ e0 hΦ
  have N0 := Fr.nil n0
  refine OGo.st (fun _ kz => castTop (ef_rsl2i4 m s_ a (0 : Int32) (2 : Int32)) kz) ?_
  have K0 := Keep.refl h0 [s_]
  show OG p e below Φ s₁ m 0 #[rv s_, rv a, iv 0, iv 2, .val .null, .unset] []
  refine OGo.st (fun _ kz => XS.aloadN X0.here hx rfl (hb hby d4_0) rfl rfl kz) ?_
  show OG p e below Φ s₁ m 1 #[rv s_, rv a, iv 0, iv 2, .val .null, .unset] [(.ref s_)]
  obtain ⟨T1, X1, e1, st1⟩ := initO X0 hx hZ hown (ow22 hw) (ow23 hw) (ow24 hw) e0 (g := (mkF m 1 #[rv s_, rv a, iv 0, iv 2, .val .null, .unset] [(.ref s_)])) rfl (by rw [hml]; rfl) rfl (hb hby d4_1) (by decide) (W := 0) (Nat.le_of_eq rfl) (by decide)
  refine OGo.st st1 ?_
  show OG p e below Φ T1 m 4 #[rv s_, rv a, iv 0, iv 2, .val .null, .unset] []
  refine OGo.st (fun _ kz => XS.iloadN X1.here hx rfl (hb hby d4_4) rfl kz) ?_
  show OG p e below Φ T1 m 5 #[rv s_, rv a, iv 0, iv 2, .val .null, .unset] [(.int 2)]
  refine OGo.st (fun _ kz => XS.ifYes X1.here hx rfl (pc0 := 5) (pc' := 27) rfl (hb hby d4_5) rfl (XT.i0_ne_t (by decide)) (by decide) (by decide) kz) ?_
  show OG p e below Φ T1 m 27 #[rv s_, rv a, iv 0, iv 2, .val .null, .unset] []
  obtain ⟨T2, X2, e2, st2⟩ := getS2 X1 hx hZ hown (host := "") (Or.inl (ow33 hw)) Via.refl e1 S_q (g := (mkF m 27 #[rv s_, rv a, iv 0, iv 2, .val .null, .unset] [])) rfl (hb hby d4_27)
  refine OGo.st st2 ?_
  show OG p e below Φ T2 m 30 #[rv s_, rv a, iv 0, iv 2, .val .null, .unset] [(.int qc)]
  refine OGo.st (fun _ kz => XS.ifNo X2.here hx rfl (hb hby d4_30) rfl (XT.i0_eq_f hq) kz) ?_
  show OG p e below Φ T2 m 33 #[rv s_, rv a, iv 0, iv 2, .val .null, .unset] []
  refine OGo.st (fun _ kz => XS.aloadN X2.here hx rfl (hb hby d4_33) rfl rfl kz) ?_
  show OG p e below Φ T2 m 34 #[rv s_, rv a, iv 0, iv 2, .val .null, .unset] [(.ref a)]
  refine OGo.st (fun _ kz => XS.iloadN X2.here hx rfl (hb hby d4_34) rfl kz) ?_
  show OG p e below Φ T2 m 35 #[rv s_, rv a, iv 0, iv 2, .val .null, .unset] [(.int 0), (.ref a)]
  refine OGo.st (fun _ kz => XS.iloadN X2.here hx rfl (hb hby d4_35) rfl kz) ?_
  show OG p e below Φ T2 m 36 #[rv s_, rv a, iv 0, iv 2, .val .null, .unset] [(.int 2), (.int 0), (.ref a)]
  obtain ⟨_, T3, L3, X3, hQ3, st3⟩ := own_callSt X2 hx hZ hown (ow34 hw) (ow35 hw) (ow36 hw) (ow37 hw) (by decide) (rsl2c3 l Z a0 hw [] a ca c0_ c1_ h0 n0 Z0 V_a hl0 hl1) e2 (W := 0) (by decide) (by decide) (by decide) (by decide) (pc := 36) (ls := #[rv s_, rv a, iv 0, iv 2, .val .null, .unset]) (stk := [(.int 2), (.int 0), (.ref a)]) (by rw [hml]; rfl) (argsL := [(.ref a), (.int 0), (.int 2)]) (rest := []) (lenOf pd2 rfl) rfl rfl (Nat.le_of_eq rfl) (hb hby d4_36)
  obtain ⟨b3, cb3, rfl, Nq3, Kq3, Vq3, hz3⟩ := hQ3
  have nq3_a : a ≠ b3 := Nat.ne_of_lt (Nat.lt_of_lt_of_le V_a.lt hz3)
  have nq3_s_ : s_ ≠ b3 := Nat.ne_of_lt (Nat.lt_of_lt_of_le E_s.lt hz3)
  have gq3 : n0 ≤ b3 := Nat.le_trans Z0 hz3
  have sq3 : h0.size ≤ b3 := Nat.le_trans K0.1 hz3
  have N3 := Fr.app N0 Nq3
  have Zs3 : n0 ≤ T3.heap.size := Nat.le_trans Z0 Kq3.1
  have F4 := E_s.keep Kq3
  have F5 := F_v.keep Kq3 nin0
  have F6 := F_c.keep Kq3 nin0
  have F7 := V_a.keep Kq3 nin0
  have K3 := K0.trans Kq3 all0
  refine OGo.st st3 ?_
  show OG p e below Φ T3 m 39 #[rv s_, rv a, iv 0, iv 2, .val .null, .unset] [(.ref b3)]
  refine OGo.st (fun _ kz => XS.astore X3.here hx rfl (hb hby d4_39) rfl rfl (l' := #[rv s_, rv a, iv 0, iv 2, .val .null, rv b3]) rfl kz) ?_
  show OG p e below Φ T3 m 41 #[rv s_, rv a, iv 0, iv 2, .val .null, rv b3] []
  refine OGo.st (fun _ kz => XS.aloadN X3.here hx rfl (hb hby d4_41) rfl rfl kz) ?_
  show OG p e below Φ T3 m 42 #[rv s_, rv a, iv 0, iv 2, .val .null, rv b3] [(.ref s_)]
  refine OGo.st (fun _ kz => XS.aload X3.here hx rfl (hb hby d4_42) rfl rfl kz) ?_
  show OG p e below Φ T3 m 44 #[rv s_, rv a, iv 0, iv 2, .val .null, rv b3] [(.ref b3), (.ref s_)]
  refine OGo.st (fun _ kz => XS.iloadN X3.here hx rfl (hb hby d4_44) rfl kz) ?_
  show OG p e below Φ T3 m 45 #[rv s_, rv a, iv 0, iv 2, .val .null, rv b3] [(.int 2), (.ref b3), (.ref s_)]
  obtain ⟨_, T8, L8, X8, hQ8, st8⟩ := own_callSt X3 hx hZ hown (ow41 hw) (ow42 hw) (ow36 hw) (ow43 hw) (by decide) (rsl2cf l Z a0 hw [] b3 cb3 c0_ c1_ T3.heap n0 Zs3 Vq3) rfl (W := 1) (by decide) (by decide) (by decide) (by decide) (pc := 45) (ls := #[rv s_, rv a, iv 0, iv 2, .val .null, rv b3]) (stk := [(.int 2), (.ref b3), (.ref s_)]) (by rw [hml]; rfl) (argsL := [(.ref b3), (.int 2)]) (rest := [(.ref s_)]) (lenOf pd3 rfl) rfl rfl (Nat.le_of_eq rfl) (hb hby d4_45)
  obtain ⟨rfl, Nq8, e8⟩ := hQ8
  have N8 := Fr.app N3 Nq8
  refine OGo.st st8 ?_
  show OG p e below Φ T8 m 48 #[rv s_, rv a, iv 0, iv 2, .val .null, rv b3] [(.int 0), (.ref s_)]
  obtain ⟨T9, h9, X9, e9, W9, st9⟩ := putF X8 hx hZ hown (host := "") (Or.inl (ow32 hw)) Via.refl e8 F6 F4 (Or.inr ⟨(ow28 hw), rfl, hnm⟩) (ow12 hw) (ty := .byte) (by decide) (by decide) (by decide) (g := (mkF m 48 #[rv s_, rv a, iv 0, iv 2, .val .null, rv b3] [(.int 0), (.ref s_)])) rfl rfl (hb hby d4_48)
  have F10 := F4.wr W9
  have F11 := F5.other W9 (Or.inr (slot_ne (Or.inr (ow27 hw)) (Or.inr (ow28 hw)) (by decide) (t := (.array .byte)) (t' := .byte) (by decide) (by decide)))
  have F12 := F6.same W9
  have F13 := F7.other W9 (Ne.symm nsa)
  have F14 := Vq3.other W9 (Ne.symm nq3_s_)
  have K9 := K3.wr W9 (Or.inl (List.mem_of_getElem? (i := 0) rfl))
  have N9 := Fr.snoc X9 N8 g_s
  have Zs9 : n0 ≤ h9.size := by rw [W9.size]; exact Zs3
  refine OGo.st st9 ?_
  show OG p e below Φ T9 m 51 #[rv s_, rv a, iv 0, iv 2, .val .null, rv b3] []
  refine OGo.st (fun _ kz => XS.aloadN X9.here hx rfl (hb hby d4_51) rfl rfl kz) ?_
  show OG p e below Φ T9 m 52 #[rv s_, rv a, iv 0, iv 2, .val .null, rv b3] [(.ref s_)]
  refine OGo.st (fun _ kz => XS.aload X9.here hx rfl (hb hby d4_52) rfl rfl kz) ?_
  show OG p e below Φ T9 m 54 #[rv s_, rv a, iv 0, iv 2, .val .null, rv b3] [(.ref b3), (.ref s_)]
  obtain ⟨T15, h15, X15, e15, W15, st15⟩ := putF X9 hx hZ hown (host := "") (Or.inl (ow31 hw)) Via.refl e9 F11 F10 (Or.inr ⟨(ow27 hw), rfl, hnm⟩) (ow12 hw) (ty := (.array .byte)) (by decide) rfl rfl (g := (mkF m 54 #[rv s_, rv a, iv 0, iv 2, .val .null, rv b3] [(.ref b3), (.ref s_)])) rfl rfl (hb hby d4_54)
  have F16 := F10.wr W15
  have F17 := F11.same W15
  have F18 := F12.other W15 (Or.inr (slot_ne (Or.inr (ow28 hw)) (Or.inr (ow27 hw)) (by decide) (t := .byte) (t' := (.array .byte)) (by decide) (by decide)))
  have F19 := F13.other W15 (Ne.symm nsa)
  have F20 := F14.other W15 (Ne.symm nq3_s_)
  have K15 := K9.wr W15 (Or.inl (List.mem_of_getElem? (i := 0) rfl))
  have N15 := Fr.snoc X15 N9 g_s
  have Zs15 : n0 ≤ h15.size := by rw [W15.size]; exact Zs9
  refine OGo.st st15 ?_
  show OG p e below Φ T15 m 57 #[rv s_, rv a, iv 0, iv 2, .val .null, rv b3] []
  refine OGo.fin X15 hlk (v := none) (fun _ => rfl) (by decide) (by decide) (fun fs hr => X15.returnOut hx hret (hb hby d4_57) hr) fun U eU hF => hΦ _ _ _ ?_ hF
  rw [eU, e15]
  show Q_rsl2i4 Z s_ a ca qc c0_ c1_ h0 n0 _ _ _
  exact ⟨rfl, N15, K15, F16, _, _, F17, F18, F20, sq3⟩

theorem ef_rsl2i1 (m : MethodId) (x0 : Addr) (x1 : Addr) : entryFrame m #[(.ref x0), (.ref x1)] 2 = mkF m 0 #[.val (.ref x0), .val (.ref x1)] [] := by first | (simp [entryFrame, mkF, argsToLocals, Value.category]; done) | rfl
def Q_rsl2i1 (Z : State) (s_ : Addr) (a : Addr) (ca : ClassId) (qc : Int32) (c0_ : Int32) (c1_ : Int32) (h0 : Heap) (n0 : Nat) (v : Option Value) (h : Heap) (L : List Loc) : Prop := v = none ∧ Fr n0 L ∧ Keep h0 h [s_] ∧ Exa Z h s_ "java/lang/String" ∧ ∃ b cb, Fld Z h s_ "java/lang/String" "value" "[B" (.ref b) ∧ Fld Z h s_ "java/lang/String" "coder" "B" (.int (0 : Int32)) ∧ Arv Z h b cb .byte (2 : Int32) [(.int (nar .byte (c0_.toInt8.toInt32))), (.int (nar .byte (c1_.toInt8.toInt32)))] (.int (0 : Int32)) ∧ h0.size ≤ b
set_option maxRecDepth 65536 in
set_option maxHeartbeats 40000000 in
theorem rsl2i1 (l : Launch) (Z : State) (a0 : Array Value) (hw : ∀ d ∈ tables_1, d.before a0 Z = true) (ws : List Jvm.Cond) (s_ : Addr) (a : Addr) (ca : ClassId) (qc : Int32) (c0_ : Int32) (c1_ : Int32) (h0 : Heap) (n0 : Nat) (Z0 : n0 ≤ h0.size) (E_s : Exa Z h0 s_ "java/lang/String") (g_s : n0 ≤ s_) (F_v : Fld Z h0 s_ "java/lang/String" "value" "[B" .null) (F_c : Fld Z h0 s_ "java/lang/String" "coder" "B" (.int (0 : Int32))) (V_a : Arv Z h0 a ca .char (2 : Int32) [(.int c0_), (.int c1_)] (.int (0 : Int32))) (nsa : s_ ≠ a) (S_q : Sta Z h0 "java/lang/String" "COMPACT_STRINGS" "Z" (.int qc)) (hq : ¬ qc = 0) (hl0 : ¬ (255 : Int32) < c0_) (hl1 : ¬ (255 : Int32) < c1_) :
    OCon l Z (⟨"java/lang/String", "<init>", "([C)V"⟩ : MethodName) jdk_42_method_3_code 2 none ws ({ frames := 3, cells := 1, slots := 2, locals := 52 } : Room) #[(.ref s_), (.ref a)] h0 (Q_rsl2i1 Z s_ a ca qc c0_ c1_ h0 n0) := by
  refine OCon.of (plainFor_of_name pn0) ?_
  intro p e s m below meth c s₁ Φ X0 hx hby hml hown hnm hret hlk hZ e0 hΦ
  have N0 := Fr.nil n0
  refine OGo.st (fun _ kz => castTop (ef_rsl2i1 m s_ a) kz) ?_
  have K0 := Keep.refl h0 [s_]
  show OG p e below Φ s₁ m 0 #[rv s_, rv a] []
  refine OGo.st (fun _ kz => XS.aloadN X0.here hx rfl (hb hby d3_0) rfl rfl kz) ?_
  show OG p e below Φ s₁ m 1 #[rv s_, rv a] [(.ref s_)]
  refine OGo.st (fun _ kz => XS.aloadN X0.here hx rfl (hb hby d3_1) rfl rfl kz) ?_
  show OG p e below Φ s₁ m 2 #[rv s_, rv a] [(.ref a), (.ref s_)]
  refine OGo.st (fun _ kz => XS.iconst X0.here hx rfl (hb hby d3_2) kz) ?_
  show OG p e below Φ s₁ m 3 #[rv s_, rv a] [(.int 0), (.ref a), (.ref s_)]
  refine OGo.st (fun _ kz => XS.aloadN X0.here hx rfl (hb hby d3_3) rfl rfl kz) ?_
  show OG p e below Φ s₁ m 4 #[rv s_, rv a] [(.ref a), (.int 0), (.ref a), (.ref s_)]
  obtain ⟨cl1, Aq1, -, S1, M1, -, -⟩ := id V_a
  refine OGo.st (fun _ kz => X0.arraylength hx (by rw [e0]; exact Aq1.1) (State.isArrayOf_alike hZ.alike Aq1.2.1) (g := (mkF m 4 #[rv s_, rv a] [(.ref a), (.int 0), (.ref a), (.ref s_)])) rfl rfl (hb hby d3_4) _ kz) ?_
  rw [len_of S1 M1]
  show OG p e below Φ s₁ m 5 #[rv s_, rv a] [(.int 2), (.int 0), (.ref a), (.ref s_)]
  refine OGo.st (fun _ kz => XS.aconstNull X0.here hx rfl (hb hby d3_5) kz) ?_
  show OG p e below Φ s₁ m 6 #[rv s_, rv a] [.null, (.int 2), (.int 0), (.ref a), (.ref s_)]
  obtain ⟨_, T2, L2, X2, hQ2, st2⟩ := own_callSp X0 hx hZ rfl hown (ow18 hw) (ow19 hw) (ow13 hw) (ow21 hw) (by decide) (rsl2i4 l Z a0 hw [] s_ a ca qc c0_ c1_ h0 n0 Z0 E_s g_s F_v F_c V_a nsa S_q hq hl0 hl1) e0 (W := 0) (by decide) (by decide) (by decide) (by decide) (pc := 6) (ls := #[rv s_, rv a]) (stk := [.null, (.int 2), (.int 0), (.ref a), (.ref s_)]) (by rw [hml]; rfl) (a := s_) (argsL := [(.ref a), (.int 0), (.int 2), .null]) (rest := []) (lenOf pd0 rfl) rfl rfl (Nat.le_of_eq rfl) (hb hby d3_6)
  obtain ⟨rfl, Nq2, Kq2, Eq2, b2, cb2, Fv2, Fc2, Vq2, hz2⟩ := hQ2
  have nq2_a : a ≠ b2 := Nat.ne_of_lt (Nat.lt_of_lt_of_le V_a.lt hz2)
  have nq2_s_ : s_ ≠ b2 := Nat.ne_of_lt (Nat.lt_of_lt_of_le E_s.lt hz2)
  have gq2 : n0 ≤ b2 := Nat.le_trans Z0 hz2
  have sq2 : h0.size ≤ b2 := Nat.le_trans K0.1 hz2
  have N2 := Fr.app N0 Nq2
  have Zs2 : n0 ≤ T2.heap.size := Nat.le_trans Z0 Kq2.1
  have F3 := V_a.keep Kq2 (ninS (Ne.symm nsa) nin0)
  have K2 := K0.trans Kq2 (allS (Or.inl (List.mem_of_getElem? (i := 0) rfl)) all0)
  refine OGo.st st2 ?_
  show OG p e below Φ T2 m 9 #[rv s_, rv a] []
  refine OGo.fin X2 hlk (v := none) (fun _ => rfl) (by decide) (by decide) (fun fs hr => X2.returnOut hx hret (hb hby d3_9) hr) fun U eU hF => hΦ _ _ _ ?_ hF
  rw [eU]
  show Q_rsl2i1 Z s_ a ca qc c0_ c1_ h0 n0 _ _ _
  exact ⟨rfl, N2, K2, Eq2, _, _, Fv2, Fc2, Vq2, sq2⟩

theorem ef_rsb2_0c2 (m : MethodId) (x0 : Addr) (x1 : Int32) (x2 : Addr) (x3 : Int32) (x4 : Int32) : entryFrame m #[(.ref x0), (.int x1), (.ref x2), (.int x3), (.int x4)] 7 = mkF m 0 #[.val (.ref x0), .val (.int x1), .val (.ref x2), .val (.int x3), .val (.int x4), .unset, .unset] [] := by first | (simp [entryFrame, mkF, argsToLocals, Value.category]; done) | rfl
def Q_rsb2_0c2 (Z : State) (a : Addr) (ca : ClassId) (b : Addr) (cb : ClassId) (c0_ : Int32) (c1_ : Int32) (h0 : Heap) (n0 : Nat) (v : Option Value) (h : Heap) (L : List Loc) : Prop := v = some (.int (0 : Int32)) ∧ Fr n0 L ∧ Keep h0 h [b]
set_option maxRecDepth 65536 in
set_option maxHeartbeats 40000000 in
theorem rsb2_0c2 (l : Launch) (Z : State) (a0 : Array Value) (hw : ∀ d ∈ tables_1, d.before a0 Z = true) (ws : List Jvm.Cond) (a : Addr) (ca : ClassId) (b : Addr) (cb : ClassId) (c0_ : Int32) (c1_ : Int32) (h0 : Heap) (n0 : Nat) (Z0 : n0 ≤ h0.size) (V_a : Arv Z h0 a ca .char (2 : Int32) [(.int c0_), (.int c1_)] (.int (0 : Int32))) (V_b : Arv Z h0 b cb .byte (2 : Int32) [(.int (0 : Int32)), (.int (0 : Int32))] (.int (0 : Int32))) (nab : a ≠ b) (g_b : n0 ≤ b) (hb0 : (255 : Int32) < c0_) :
    OCon l Z (⟨"java/lang/StringUTF16", "compress", "([CI[BII)I"⟩ : MethodName) jdk_52_method_21_code 7 (some .int) ws ({ frames := 0, cells := 0, slots := 0, locals := 0 } : Room) #[(.ref a), (.int (0 : Int32)), (.ref b), (.int (0 : Int32)), (.int (2 : Int32))] h0 (Q_rsb2_0c2 Z a ca b cb c0_ c1_ h0 n0) := by
  refine OCon.of (plainFor_of_name pn1) ?_
  intro p e s m below meth c s₁ Φ X0 hx hby hml hown hnm hret hlk hZ e0 hΦ
  have N0 := Fr.nil n0
  refine OGo.st (fun _ kz => castTop (ef_rsb2_0c2 m a (0 : Int32) b (0 : Int32) (2 : Int32)) kz) ?_
  have K0 := Keep.refl h0 [b]
  show OG p e below Φ s₁ m 0 #[rv a, iv 0, rv b, iv 0, iv 2, .unset, .unset] []
  refine OGo.st (fun _ kz => XS.iconst X0.here hx rfl (hb hby d7_0) kz) ?_
  show OG p e below Φ s₁ m 1 #[rv a, iv 0, rv b, iv 0, iv 2, .unset, .unset] [(.int 0)]
  refine OGo.st (fun _ kz => XS.istore X0.here hx rfl (hb hby d7_1) rfl (l' := #[rv a, iv 0, rv b, iv 0, iv 2, iv 0, .unset]) rfl kz) ?_
  show OG p e below Φ s₁ m 3 #[rv a, iv 0, rv b, iv 0, iv 2, iv 0, .unset] []
  refine OGo.st (fun _ kz => XS.iload X0.here hx rfl (hb hby d7_3) rfl kz) ?_
  show OG p e below Φ s₁ m 5 #[rv a, iv 0, rv b, iv 0, iv 2, iv 0, .unset] [(.int 0)]
  refine OGo.st (fun _ kz => XS.iload X0.here hx rfl (hb hby d7_5) rfl kz) ?_
  show OG p e below Φ s₁ m 7 #[rv a, iv 0, rv b, iv 0, iv 2, iv 0, .unset] [(.int 2), (.int 0)]
  refine OGo.st (fun _ kz => XS.icmpNo X0.here hx rfl (hb hby d7_7) rfl (XT.ii_ge_f (by decide)) kz) ?_
  show OG p e below Φ s₁ m 10 #[rv a, iv 0, rv b, iv 0, iv 2, iv 0, .unset] []
  refine OGo.st (fun _ kz => XS.aloadN X0.here hx rfl (hb hby d7_10) rfl rfl kz) ?_
  show OG p e below Φ s₁ m 11 #[rv a, iv 0, rv b, iv 0, iv 2, iv 0, .unset] [(.ref a)]
  refine OGo.st (fun _ kz => XS.iloadN X0.here hx rfl (hb hby d7_11) rfl kz) ?_
  show OG p e below Φ s₁ m 12 #[rv a, iv 0, rv b, iv 0, iv 2, iv 0, .unset] [(.int 0), (.ref a)]
  obtain ⟨cl1, Aq1, -, S1, M1, H1, -⟩ := id V_a
  have in1 : ¬ ((0 : Int32) < 0 ∨ cl1.slots.size ≤ (0 : Int32).toNatClampNeg) := inb_of S1 ⟨by decide, by decide⟩
  have at1 : cl1.slots[(0 : Int32).toNatClampNeg]? = some (.int c0_) := H1.at in1 rfl
  refine OGo.st (fun _ kz => X0.caload hx (by rw [e0]; exact Aq1.1) (State.isArrayOf_alike hZ.alike Aq1.2.1) Aq1.2.2 in1 at1 (g := (mkF m 12 #[rv a, iv 0, rv b, iv 0, iv 2, iv 0, .unset] [(.int 0), (.ref a)])) rfl rfl (hb hby d7_12) _ kz) ?_
  show OG p e below Φ s₁ m 13 #[rv a, iv 0, rv b, iv 0, iv 2, iv 0, .unset] [(.int c0_)]
  refine OGo.st (fun _ kz => XS.istore X0.here hx rfl (hb hby d7_13) rfl (l' := #[rv a, iv 0, rv b, iv 0, iv 2, iv 0, iv c0_]) rfl kz) ?_
  show OG p e below Φ s₁ m 15 #[rv a, iv 0, rv b, iv 0, iv 2, iv 0, iv c0_] []
  refine OGo.st (fun _ kz => XS.iload X0.here hx rfl (hb hby d7_15) rfl kz) ?_
  show OG p e below Φ s₁ m 17 #[rv a, iv 0, rv b, iv 0, iv 2, iv 0, iv c0_] [(.int c0_)]
  refine OGo.st (fun _ kz => XS.sipush X0.here hx rfl (hb hby d7_17) kz) ?_
  show OG p e below Φ s₁ m 20 #[rv a, iv 0, rv b, iv 0, iv 2, iv 0, iv c0_] [(.int 255), (.int c0_)]
  refine OGo.st (fun _ kz => XS.icmpNo X0.here hx rfl (hb hby d7_20) rfl (XT.ii_le_f hb0) kz) ?_
  show OG p e below Φ s₁ m 23 #[rv a, iv 0, rv b, iv 0, iv 2, iv 0, iv c0_] []
  refine OGo.st (fun _ kz => XS.iload X0.here hx rfl (hb hby d7_23) rfl kz) ?_
  show OG p e below Φ s₁ m 25 #[rv a, iv 0, rv b, iv 0, iv 2, iv 0, iv c0_] [(.int 0)]
  refine OGo.fin X0 hlk (v := (some (.int 0))) (fun h => by rw [hret] at h; cases h) (by decide) (by decide) (fun fs hr => X0.ireturnOut hx hret rfl (by simp) (hb hby d7_25) hr) fun U eU hF => hΦ _ _ _ ?_ hF
  rw [eU, e0]
  show Q_rsb2_0c2 Z a ca b cb c0_ c1_ h0 n0 _ _ _
  exact ⟨rfl, N0, K0⟩

theorem ef_rsb2_0nl (m : MethodId) (x0 : Int32) : entryFrame m #[(.int x0)] 1 = mkF m 0 #[.val (.int x0)] [] := by first | (simp [entryFrame, mkF, argsToLocals, Value.category]; done) | rfl
def Q_rsb2_0nl (Z : State)  (h0 : Heap) (n0 : Nat) (v : Option Value) (h : Heap) (L : List Loc) : Prop := v = some (.int (4 : Int32)) ∧ Fr n0 L ∧ h = h0
set_option maxRecDepth 65536 in
set_option maxHeartbeats 40000000 in
theorem rsb2_0nl (l : Launch) (Z : State) (a0 : Array Value) (hw : ∀ d ∈ tables_1, d.before a0 Z = true) (ws : List Jvm.Cond)  (h0 : Heap) (n0 : Nat) (Z0 : n0 ≤ h0.size)  :
    OCon l Z (⟨"java/lang/StringUTF16", "newBytesLength", "(I)I"⟩ : MethodName) jdk_52_method_3_code 1 (some .int) ws ({ frames := 0, cells := 0, slots := 0, locals := 0 } : Room) #[(.int (2 : Int32))] h0 (Q_rsb2_0nl Z  h0 n0) := by
  refine OCon.of (plainFor_of_name pn1) ?_
  intro p e s m below meth c s₁ Φ X0 hx hby hml hown hnm hret hlk hZ e0 hΦ
  have N0 := Fr.nil n0
  refine OGo.st (fun _ kz => castTop (ef_rsb2_0nl m (2 : Int32)) kz) ?_
  show OG p e below Φ s₁ m 0 #[iv 2] []
  refine OGo.st (fun _ kz => XS.iloadN X0.here hx rfl (hb hby d21_0) rfl kz) ?_
  show OG p e below Φ s₁ m 1 #[iv 2] [(.int 2)]
  refine OGo.st (fun _ kz => XS.ifYes X0.here hx rfl (pc0 := 1) (pc' := 12) rfl (hb hby d21_1) rfl (XT.i0_ge_t (by decide)) (by decide) (by decide) kz) ?_
  show OG p e below Φ s₁ m 12 #[iv 2] []
  refine OGo.st (fun _ kz => XS.iloadN X0.here hx rfl (hb hby d21_12) rfl kz) ?_
  show OG p e below Φ s₁ m 13 #[iv 2] [(.int 2)]
  refine OGo.st (fun _ kz => X0.ldcI hx hown (mvT hZ (ow113 hw)) rfl (hb hby d21_13) kz) ?_
  show OG p e below Φ s₁ m 15 #[iv 2] [(.int 1073741823), (.int 2)]
  refine OGo.st (fun _ kz => XS.icmpYes X0.here hx rfl (pc0 := 15) (pc' := 55) rfl (hb hby d21_15) rfl (XT.ii_lt_t (by decide)) (by decide) (by decide) kz) ?_
  show OG p e below Φ s₁ m 55 #[iv 2] []
  refine OGo.st (fun _ kz => XS.iloadN X0.here hx rfl (hb hby d21_55) rfl kz) ?_
  show OG p e below Φ s₁ m 56 #[iv 2] [(.int 2)]
  refine OGo.st (fun _ kz => XS.iconst X0.here hx rfl (hb hby d21_56) kz) ?_
  show OG p e below Φ s₁ m 57 #[iv 2] [(.int 1), (.int 2)]
  refine OGo.st (fun _ kz => XT.ishl X0.here hx rfl (hb hby d21_57) rfl kz) ?_
  show OG p e below Φ s₁ m 58 #[iv 2] [(.int 4)]
  refine OGo.fin X0 hlk (v := (some (.int 4))) (fun h => by rw [hret] at h; cases h) (by decide) (by decide) (fun fs hr => X0.ireturnOut hx hret rfl (by simp) (hb hby d21_58) hr) fun U eU hF => hΦ _ _ _ ?_ hF
  rw [eU, e0]
  show Q_rsb2_0nl Z  h0 n0 _ _ _
  exact ⟨rfl, N0, rfl⟩

theorem ef_rsb2_0nf (m : MethodId) (x0 : Int32) : entryFrame m #[(.int x0)] 1 = mkF m 0 #[.val (.int x0)] [] := by first | (simp [entryFrame, mkF, argsToLocals, Value.category]; done) | rfl
def Q_rsb2_0nf (Z : State)  (h0 : Heap) (n0 : Nat) (v : Option Value) (h : Heap) (L : List Loc) : Prop := ∃ b cb, v = some (.ref b) ∧ Fr n0 L ∧ Keep h0 h [] ∧ Arv Z h b cb .byte (4 : Int32) [(.int (0 : Int32)), (.int (0 : Int32)), (.int (0 : Int32)), (.int (0 : Int32))] (.int (0 : Int32)) ∧ h0.size ≤ b
set_option maxRecDepth 65536 in
set_option maxHeartbeats 40000000 in
theorem rsb2_0nf (l : Launch) (Z : State) (a0 : Array Value) (hw : ∀ d ∈ tables_1, d.before a0 Z = true) (ws : List Jvm.Cond)  (h0 : Heap) (n0 : Nat) (Z0 : n0 ≤ h0.size)  :
    OCon l Z (⟨"java/lang/StringUTF16", "newBytesFor", "(I)[B"⟩ : MethodName) jdk_52_method_2_code 1 (some (.array .byte)) ws ({ frames := 1, cells := 1, slots := 4, locals := 12 } : Room) #[(.int (2 : Int32))] h0 (Q_rsb2_0nf Z  h0 n0) := by
  refine OCon.of (plainFor_of_name pn1) ?_
  intro p e s m below meth c s₁ Φ X0 hx hby hml hown hnm hret hlk hZ e0 hΦ
  have N0 := Fr.nil n0
  refine OGo.st (fun _ kz => castTop (ef_rsb2_0nf m (2 : Int32)) kz) ?_
  have K0 := Keep.refl h0 []
  show OG p e below Φ s₁ m 0 #[iv 2] []
  refine OGo.st (fun _ kz => XS.iloadN X0.here hx rfl (hb hby d20_0) rfl kz) ?_
  show OG p e below Φ s₁ m 1 #[iv 2] [(.int 2)]
  obtain ⟨_, T1, L1, X1, hQ1, st1⟩ := own_callSt X0 hx hZ hown (ow110 hw) (ow111 hw) (ow36 hw) (ow112 hw) (by decide) (rsb2_0nl l Z a0 hw []  h0 n0 Z0 ) e0 (W := 0) (by decide) (by decide) (by decide) (by decide) (pc := 1) (ls := #[iv 2]) (stk := [(.int 2)]) (by rw [hml]; rfl) (argsL := [(.int 2)]) (rest := []) (lenOf pd4 rfl) rfl rfl (Nat.le_of_eq rfl) (hb hby d20_1)
  obtain ⟨rfl, Nq1, e1⟩ := hQ1
  have N1 := Fr.app N0 Nq1
  refine OGo.st st1 ?_
  show OG p e below Φ T1 m 4 #[iv 2] [(.int 4)]
  obtain ⟨T2, h2, c2, X2, e2, E2, Ar2, st2⟩ := newP (aty := .byte) X1 hx hZ (ow26 hw) e1 (g := (mkF m 4 #[iv 2] [(.int 4)])) rfl (hb hby d20_4) rfl (by decide) (cap := 4) (by decide) (by decide) (by decide) (by decide)
  obtain ⟨b2, g2⟩ : ∃ z, z = h0.size := ⟨_, rfl⟩
  rw [← g2] at Ar2 st2
  have gb2 : n0 ≤ b2 := Nat.le_trans Z0 (Nat.le_of_eq g2.symm)
  have sz2 : h0.size ≤ b2 := Nat.le_trans K0.1 (Nat.le_of_eq g2.symm)
  have K2 := K0.ext E2
  have Zs2 : n0 ≤ h2.size := Nat.le_trans Z0 E2.1
  have V2 : Arv Z h2 b2 c2 .byte (4 : Int32) [(.int (0 : Int32)), (.int (0 : Int32)), (.int (0 : Int32)), (.int (0 : Int32))] (.int (0 : Int32)) := (Arv.new Ar2 (by decide)).pad (pad_rep [] _ 4)
  refine OGo.st st2 ?_
  show OG p e below Φ T2 m 6 #[iv 2] [(.ref b2)]
  refine OGo.fin X2 hlk (v := (some (.ref b2))) (fun h => by rw [hret] at h; cases h) (by decide) (by decide) (fun fs hr => X2.areturnOut hx rfl hret rfl (hb hby d20_6) hr) fun U eU hF => hΦ _ _ _ ?_ hF
  rw [eU, e2]
  show Q_rsb2_0nf Z  h0 n0 _ _ _
  exact ⟨_, _, rfl, N1, K2, V2, sz2⟩

theorem ef_rsb2_0pc0 (m : MethodId) (x0 : Addr) (x1 : Int32) (x2 : Int32) : entryFrame m #[(.ref x0), (.int x1), (.int x2)] 3 = mkF m 0 #[.val (.ref x0), .val (.int x1), .val (.int x2)] [] := by first | (simp [entryFrame, mkF, argsToLocals, Value.category]; done) | rfl
def Q_rsb2_0pc0 (Z : State) (b : Addr) (cb : ClassId) (c0_ : Int32) (c1_ : Int32) (h0 : Heap) (n0 : Nat) (v : Option Value) (h : Heap) (L : List Loc) : Prop := v = none ∧ Fr n0 L ∧ Keep h0 h [b] ∧ Arv Z h b cb .byte (4 : Int32) [(.int (nar .byte (c0_ >>> (0 &&& 31)).toInt8.toInt32)), (.int (nar .byte (c0_ >>> (8 &&& 31)).toInt8.toInt32)), (.int (0 : Int32)), (.int (0 : Int32))] (.int (0 : Int32))
set_option maxRecDepth 65536 in
set_option maxHeartbeats 40000000 in
theorem rsb2_0pc0 (l : Launch) (Z : State) (a0 : Array Value) (hw : ∀ d ∈ tables_1, d.before a0 Z = true) (ws : List Jvm.Cond) (b : Addr) (cb : ClassId) (c0_ : Int32) (c1_ : Int32) (h0 : Heap) (n0 : Nat) (Z0 : n0 ≤ h0.size) (V_b : Arv Z h0 b cb .byte (4 : Int32) [(.int (0 : Int32)), (.int (0 : Int32)), (.int (0 : Int32)), (.int (0 : Int32))] (.int (0 : Int32))) (g_b : n0 ≤ b) (S_ad : Sta Z h0 "java/lang/StringUTF16" "$assertionsDisabled" "Z" (.int (1 : Int32))) (S_hb : Sta Z h0 "java/lang/StringUTF16" "HI_BYTE_SHIFT" "I" (.int (0 : Int32))) (S_lb : Sta Z h0 "java/lang/StringUTF16" "LO_BYTE_SHIFT" "I" (.int (8 : Int32))) :
    OCon l Z (⟨"java/lang/StringUTF16", "putChar", "([BII)V"⟩ : MethodName) jdk_52_method_4_code 3 none ws ({ frames := 0, cells := 0, slots := 0, locals := 0 } : Room) #[(.ref b), (.int (0 : Int32)), (.int c0_)] h0 (Q_rsb2_0pc0 Z b cb c0_ c1_ h0 n0) := by
  refine OCon.of (plainFor_of_name pn1) ?_
  intro p e s m below meth c s₁ Φ X0 hx hby hml hown hnm hret hlk hZ e0 hΦ
  have N0 := Fr.nil n0
  refine OGo.st (fun _ kz => castTop (ef_rsb2_0pc0 m b (0 : Int32) c0_) kz) ?_
  have K0 := Keep.refl h0 [b]
  show OG p e below Φ s₁ m 0 #[rv b, iv 0, iv c0_] []
  obtain ⟨T1, X1, e1, st1⟩ := getS2 X0 hx hZ hown (host := "") (Or.inl (ow117 hw)) Via.refl e0 S_ad (g := (mkF m 0 #[rv b, iv 0, iv c0_] [])) rfl (hb hby d22_0)
  refine OGo.st st1 ?_
  show OG p e below Φ T1 m 3 #[rv b, iv 0, iv c0_] [(.int 1)]
  refine OGo.st (fun _ kz => XS.ifYes X1.here hx rfl (pc0 := 3) (pc' := 28) rfl (hb hby d22_3) rfl (XT.i0_ne_t (by decide)) (by decide) (by decide) kz) ?_
  show OG p e below Φ T1 m 28 #[rv b, iv 0, iv c0_] []
  refine OGo.st (fun _ kz => XS.iloadN X1.here hx rfl (hb hby d22_28) rfl kz) ?_
  show OG p e below Φ T1 m 29 #[rv b, iv 0, iv c0_] [(.int 0)]
  refine OGo.st (fun _ kz => XS.iconst X1.here hx rfl (hb hby d22_29) kz) ?_
  show OG p e below Φ T1 m 30 #[rv b, iv 0, iv c0_] [(.int 1), (.int 0)]
  refine OGo.st (fun _ kz => XT.ishl X1.here hx rfl (hb hby d22_30) rfl kz) ?_
  show OG p e below Φ T1 m 31 #[rv b, iv 0, iv c0_] [(.int 0)]
  refine OGo.st (fun _ kz => XS.istoreN X1.here hx rfl (hb hby d22_31) rfl (l' := #[rv b, iv 0, iv c0_]) rfl kz) ?_
  show OG p e below Φ T1 m 32 #[rv b, iv 0, iv c0_] []
  refine OGo.st (fun _ kz => XS.aloadN X1.here hx rfl (hb hby d22_32) rfl rfl kz) ?_
  show OG p e below Φ T1 m 33 #[rv b, iv 0, iv c0_] [(.ref b)]
  refine OGo.st (fun _ kz => XS.iloadN X1.here hx rfl (hb hby d22_33) rfl kz) ?_
  show OG p e below Φ T1 m 34 #[rv b, iv 0, iv c0_] [(.int 0), (.ref b)]
  refine OGo.st (fun _ kz => XS.iinc X1.here hx rfl (hb hby d22_34) rfl (l' := #[rv b, iv ((0 : Int32) + (1 : Int32)), iv c0_]) rfl kz) ?_
  show OG p e below Φ T1 m 37 #[rv b, iv 1, iv c0_] [(.int 0), (.ref b)]
  refine OGo.st (fun _ kz => XS.iloadN X1.here hx rfl (hb hby d22_37) rfl kz) ?_
  show OG p e below Φ T1 m 38 #[rv b, iv 1, iv c0_] [(.int c0_), (.int 0), (.ref b)]
  obtain ⟨T2, X2, e2, st2⟩ := getS2 X1 hx hZ hown (host := "") (Or.inl (ow118 hw)) Via.refl e1 S_hb (g := (mkF m 38 #[rv b, iv 1, iv c0_] [(.int c0_), (.int 0), (.ref b)])) rfl (hb hby d22_38)
  refine OGo.st st2 ?_
  show OG p e below Φ T2 m 41 #[rv b, iv 1, iv c0_] [(.int 0), (.int c0_), (.int 0), (.ref b)]
  refine OGo.st (fun _ kz => XT.ishr X2.here hx rfl (hb hby d22_41) rfl kz) ?_
  show OG p e below Φ T2 m 42 #[rv b, iv 1, iv c0_] [(.int (c0_ >>> ((0 : Int32) &&& 31))), (.int 0), (.ref b)]
  refine OGo.st (fun _ kz => XT.i2b X2.here hx rfl (hb hby d22_42) rfl kz) ?_
  show OG p e below Φ T2 m 43 #[rv b, iv 1, iv c0_] [(.int ((c0_ >>> ((0 : Int32) &&& 31)).toInt8.toInt32)), (.int 0), (.ref b)]
  obtain ⟨cl3, Aq3, Cq3, S3, M3, H3, G3⟩ := id V_b
  have in3 : ¬ ((0 : Int32) < 0 ∨ cl3.slots.size ≤ (0 : Int32).toNatClampNeg) := inb_of S3 ⟨by decide, by decide⟩
  obtain ⟨T3, h3, X3, e3, W3, st3⟩ := stB X2 hx hZ e2 Aq3 in3 (g := (mkF m 43 #[rv b, iv 1, iv c0_] [(.int ((c0_ >>> ((0 : Int32) &&& 31)).toInt8.toInt32)), (.int 0), (.ref b)])) rfl rfl (hb hby d22_43)
  have W3 : Wr h0 h3 b (0 : Int32).toNatClampNeg (.int (nar .byte ((c0_ >>> ((0 : Int32) &&& 31)).toInt8.toInt32))) := W3
  have F4 := S_ad.wr W3
  have F5 := S_hb.wr W3
  have F6 := S_lb.wr W3
  have V3 : Arv Z h3 b cb .byte (4 : Int32) [(.int (nar .byte ((c0_ >>> ((0 : Int32) &&& 31)).toInt8.toInt32))), (.int (0 : Int32)), (.int (0 : Int32)), (.int (0 : Int32))] (.int (0 : Int32)) := Arv.set Aq3 Cq3 S3 M3 H3 G3 (fits_nar_byte _) W3 0 (by decide) (by show 0 < 4; decide)
  have K3 := K0.wr W3 (Or.inl (List.mem_of_getElem? (i := 0) rfl))
  have N3 := Fr.snoc X3 N0 g_b
  have Zs3 : n0 ≤ h3.size := by rw [W3.size]; exact Z0
  refine OGo.st st3 ?_
  show OG p e below Φ T3 m 44 #[rv b, iv 1, iv c0_] []
  refine OGo.st (fun _ kz => XS.aloadN X3.here hx rfl (hb hby d22_44) rfl rfl kz) ?_
  show OG p e below Φ T3 m 45 #[rv b, iv 1, iv c0_] [(.ref b)]
  refine OGo.st (fun _ kz => XS.iloadN X3.here hx rfl (hb hby d22_45) rfl kz) ?_
  show OG p e below Φ T3 m 46 #[rv b, iv 1, iv c0_] [(.int 1), (.ref b)]
  refine OGo.st (fun _ kz => XS.iloadN X3.here hx rfl (hb hby d22_46) rfl kz) ?_
  show OG p e below Φ T3 m 47 #[rv b, iv 1, iv c0_] [(.int c0_), (.int 1), (.ref b)]
  obtain ⟨T7, X7, e7, st7⟩ := getS2 X3 hx hZ hown (host := "") (Or.inl (ow119 hw)) Via.refl e3 F6 (g := (mkF m 47 #[rv b, iv 1, iv c0_] [(.int c0_), (.int 1), (.ref b)])) rfl (hb hby d22_47)
  refine OGo.st st7 ?_
  show OG p e below Φ T7 m 50 #[rv b, iv 1, iv c0_] [(.int 8), (.int c0_), (.int 1), (.ref b)]
  refine OGo.st (fun _ kz => XT.ishr X7.here hx rfl (hb hby d22_50) rfl kz) ?_
  show OG p e below Φ T7 m 51 #[rv b, iv 1, iv c0_] [(.int (c0_ >>> ((8 : Int32) &&& 31))), (.int 1), (.ref b)]
  refine OGo.st (fun _ kz => XT.i2b X7.here hx rfl (hb hby d22_51) rfl kz) ?_
  show OG p e below Φ T7 m 52 #[rv b, iv 1, iv c0_] [(.int ((c0_ >>> ((8 : Int32) &&& 31)).toInt8.toInt32)), (.int 1), (.ref b)]
  obtain ⟨cl8, Aq8, Cq8, S8, M8, H8, G8⟩ := id V3
  have in8 : ¬ ((1 : Int32) < 0 ∨ cl8.slots.size ≤ (1 : Int32).toNatClampNeg) := inb_of S8 ⟨by decide, by decide⟩
  obtain ⟨T8, h8, X8, e8, W8, st8⟩ := stB X7 hx hZ e7 Aq8 in8 (g := (mkF m 52 #[rv b, iv 1, iv c0_] [(.int ((c0_ >>> ((8 : Int32) &&& 31)).toInt8.toInt32)), (.int 1), (.ref b)])) rfl rfl (hb hby d22_52)
  have W8 : Wr h3 h8 b (1 : Int32).toNatClampNeg (.int (nar .byte ((c0_ >>> ((8 : Int32) &&& 31)).toInt8.toInt32))) := W8
  have F9 := F4.wr W8
  have F10 := F5.wr W8
  have F11 := F6.wr W8
  have V8 : Arv Z h8 b cb .byte (4 : Int32) [(.int (nar .byte ((c0_ >>> ((0 : Int32) &&& 31)).toInt8.toInt32))), (.int (nar .byte ((c0_ >>> ((8 : Int32) &&& 31)).toInt8.toInt32))), (.int (0 : Int32)), (.int (0 : Int32))] (.int (0 : Int32)) := Arv.set Aq8 Cq8 S8 M8 H8 G8 (fits_nar_byte _) W8 1 (by decide) (by show 1 < 4; decide)
  have K8 := K3.wr W8 (Or.inl (List.mem_of_getElem? (i := 0) rfl))
  have N8 := Fr.snoc X8 N3 g_b
  have Zs8 : n0 ≤ h8.size := by rw [W8.size]; exact Zs3
  refine OGo.st st8 ?_
  show OG p e below Φ T8 m 53 #[rv b, iv 1, iv c0_] []
  refine OGo.fin X8 hlk (v := none) (fun _ => rfl) (by decide) (by decide) (fun fs hr => X8.returnOut hx hret (hb hby d22_53) hr) fun U eU hF => hΦ _ _ _ ?_ hF
  rw [eU, e8]
  show Q_rsb2_0pc0 Z b cb c0_ c1_ h0 n0 _ _ _
  exact ⟨rfl, N8, K8, V8⟩

theorem ef_rsb2_0pc1 (m : MethodId) (x0 : Addr) (x1 : Int32) (x2 : Int32) : entryFrame m #[(.ref x0), (.int x1), (.int x2)] 3 = mkF m 0 #[.val (.ref x0), .val (.int x1), .val (.int x2)] [] := by first | (simp [entryFrame, mkF, argsToLocals, Value.category]; done) | rfl
def Q_rsb2_0pc1 (Z : State) (b : Addr) (cb : ClassId) (c0_ : Int32) (c1_ : Int32) (h0 : Heap) (n0 : Nat) (v : Option Value) (h : Heap) (L : List Loc) : Prop := v = none ∧ Fr n0 L ∧ Keep h0 h [b] ∧ Arv Z h b cb .byte (4 : Int32) [(.int (nar .byte (c0_ >>> (0 &&& 31)).toInt8.toInt32)), (.int (nar .byte (c0_ >>> (8 &&& 31)).toInt8.toInt32)), (.int (nar .byte (c1_ >>> (0 &&& 31)).toInt8.toInt32)), (.int (nar .byte (c1_ >>> (8 &&& 31)).toInt8.toInt32))] (.int (0 : Int32))
set_option maxRecDepth 65536 in
set_option maxHeartbeats 40000000 in
theorem rsb2_0pc1 (l : Launch) (Z : State) (a0 : Array Value) (hw : ∀ d ∈ tables_1, d.before a0 Z = true) (ws : List Jvm.Cond) (b : Addr) (cb : ClassId) (c0_ : Int32) (c1_ : Int32) (h0 : Heap) (n0 : Nat) (Z0 : n0 ≤ h0.size) (V_b : Arv Z h0 b cb .byte (4 : Int32) [(.int (nar .byte (c0_ >>> (0 &&& 31)).toInt8.toInt32)), (.int (nar .byte (c0_ >>> (8 &&& 31)).toInt8.toInt32)), (.int (0 : Int32)), (.int (0 : Int32))] (.int (0 : Int32))) (g_b : n0 ≤ b) (S_ad : Sta Z h0 "java/lang/StringUTF16" "$assertionsDisabled" "Z" (.int (1 : Int32))) (S_hb : Sta Z h0 "java/lang/StringUTF16" "HI_BYTE_SHIFT" "I" (.int (0 : Int32))) (S_lb : Sta Z h0 "java/lang/StringUTF16" "LO_BYTE_SHIFT" "I" (.int (8 : Int32))) :
    OCon l Z (⟨"java/lang/StringUTF16", "putChar", "([BII)V"⟩ : MethodName) jdk_52_method_4_code 3 none ws ({ frames := 0, cells := 0, slots := 0, locals := 0 } : Room) #[(.ref b), (.int (1 : Int32)), (.int c1_)] h0 (Q_rsb2_0pc1 Z b cb c0_ c1_ h0 n0) := by
  refine OCon.of (plainFor_of_name pn1) ?_
  intro p e s m below meth c s₁ Φ X0 hx hby hml hown hnm hret hlk hZ e0 hΦ
  have N0 := Fr.nil n0
  refine OGo.st (fun _ kz => castTop (ef_rsb2_0pc1 m b (1 : Int32) c1_) kz) ?_
  have K0 := Keep.refl h0 [b]
  show OG p e below Φ s₁ m 0 #[rv b, iv 1, iv c1_] []
  obtain ⟨T1, X1, e1, st1⟩ := getS2 X0 hx hZ hown (host := "") (Or.inl (ow117 hw)) Via.refl e0 S_ad (g := (mkF m 0 #[rv b, iv 1, iv c1_] [])) rfl (hb hby d22_0)
  refine OGo.st st1 ?_
  show OG p e below Φ T1 m 3 #[rv b, iv 1, iv c1_] [(.int 1)]
  refine OGo.st (fun _ kz => XS.ifYes X1.here hx rfl (pc0 := 3) (pc' := 28) rfl (hb hby d22_3) rfl (XT.i0_ne_t (by decide)) (by decide) (by decide) kz) ?_
  show OG p e below Φ T1 m 28 #[rv b, iv 1, iv c1_] []
  refine OGo.st (fun _ kz => XS.iloadN X1.here hx rfl (hb hby d22_28) rfl kz) ?_
  show OG p e below Φ T1 m 29 #[rv b, iv 1, iv c1_] [(.int 1)]
  refine OGo.st (fun _ kz => XS.iconst X1.here hx rfl (hb hby d22_29) kz) ?_
  show OG p e below Φ T1 m 30 #[rv b, iv 1, iv c1_] [(.int 1), (.int 1)]
  refine OGo.st (fun _ kz => XT.ishl X1.here hx rfl (hb hby d22_30) rfl kz) ?_
  show OG p e below Φ T1 m 31 #[rv b, iv 1, iv c1_] [(.int 2)]
  refine OGo.st (fun _ kz => XS.istoreN X1.here hx rfl (hb hby d22_31) rfl (l' := #[rv b, iv 2, iv c1_]) rfl kz) ?_
  show OG p e below Φ T1 m 32 #[rv b, iv 2, iv c1_] []
  refine OGo.st (fun _ kz => XS.aloadN X1.here hx rfl (hb hby d22_32) rfl rfl kz) ?_
  show OG p e below Φ T1 m 33 #[rv b, iv 2, iv c1_] [(.ref b)]
  refine OGo.st (fun _ kz => XS.iloadN X1.here hx rfl (hb hby d22_33) rfl kz) ?_
  show OG p e below Φ T1 m 34 #[rv b, iv 2, iv c1_] [(.int 2), (.ref b)]
  refine OGo.st (fun _ kz => XS.iinc X1.here hx rfl (hb hby d22_34) rfl (l' := #[rv b, iv ((2 : Int32) + (1 : Int32)), iv c1_]) rfl kz) ?_
  show OG p e below Φ T1 m 37 #[rv b, iv 3, iv c1_] [(.int 2), (.ref b)]
  refine OGo.st (fun _ kz => XS.iloadN X1.here hx rfl (hb hby d22_37) rfl kz) ?_
  show OG p e below Φ T1 m 38 #[rv b, iv 3, iv c1_] [(.int c1_), (.int 2), (.ref b)]
  obtain ⟨T2, X2, e2, st2⟩ := getS2 X1 hx hZ hown (host := "") (Or.inl (ow118 hw)) Via.refl e1 S_hb (g := (mkF m 38 #[rv b, iv 3, iv c1_] [(.int c1_), (.int 2), (.ref b)])) rfl (hb hby d22_38)
  refine OGo.st st2 ?_
  show OG p e below Φ T2 m 41 #[rv b, iv 3, iv c1_] [(.int 0), (.int c1_), (.int 2), (.ref b)]
  refine OGo.st (fun _ kz => XT.ishr X2.here hx rfl (hb hby d22_41) rfl kz) ?_
  show OG p e below Φ T2 m 42 #[rv b, iv 3, iv c1_] [(.int (c1_ >>> ((0 : Int32) &&& 31))), (.int 2), (.ref b)]
  refine OGo.st (fun _ kz => XT.i2b X2.here hx rfl (hb hby d22_42) rfl kz) ?_
  show OG p e below Φ T2 m 43 #[rv b, iv 3, iv c1_] [(.int ((c1_ >>> ((0 : Int32) &&& 31)).toInt8.toInt32)), (.int 2), (.ref b)]
  obtain ⟨cl3, Aq3, Cq3, S3, M3, H3, G3⟩ := id V_b
  have in3 : ¬ ((2 : Int32) < 0 ∨ cl3.slots.size ≤ (2 : Int32).toNatClampNeg) := inb_of S3 ⟨by decide, by decide⟩
  obtain ⟨T3, h3, X3, e3, W3, st3⟩ := stB X2 hx hZ e2 Aq3 in3 (g := (mkF m 43 #[rv b, iv 3, iv c1_] [(.int ((c1_ >>> ((0 : Int32) &&& 31)).toInt8.toInt32)), (.int 2), (.ref b)])) rfl rfl (hb hby d22_43)
  have W3 : Wr h0 h3 b (2 : Int32).toNatClampNeg (.int (nar .byte ((c1_ >>> ((0 : Int32) &&& 31)).toInt8.toInt32))) := W3
  have F4 := S_ad.wr W3
  have F5 := S_hb.wr W3
  have F6 := S_lb.wr W3
  have V3 : Arv Z h3 b cb .byte (4 : Int32) [(.int (nar .byte (c0_ >>> (0 &&& 31)).toInt8.toInt32)), (.int (nar .byte (c0_ >>> (8 &&& 31)).toInt8.toInt32)), (.int (nar .byte ((c1_ >>> ((0 : Int32) &&& 31)).toInt8.toInt32))), (.int (0 : Int32))] (.int (0 : Int32)) := Arv.set Aq3 Cq3 S3 M3 H3 G3 (fits_nar_byte _) W3 2 (by decide) (by show 2 < 4; decide)
  have K3 := K0.wr W3 (Or.inl (List.mem_of_getElem? (i := 0) rfl))
  have N3 := Fr.snoc X3 N0 g_b
  have Zs3 : n0 ≤ h3.size := by rw [W3.size]; exact Z0
  refine OGo.st st3 ?_
  show OG p e below Φ T3 m 44 #[rv b, iv 3, iv c1_] []
  refine OGo.st (fun _ kz => XS.aloadN X3.here hx rfl (hb hby d22_44) rfl rfl kz) ?_
  show OG p e below Φ T3 m 45 #[rv b, iv 3, iv c1_] [(.ref b)]
  refine OGo.st (fun _ kz => XS.iloadN X3.here hx rfl (hb hby d22_45) rfl kz) ?_
  show OG p e below Φ T3 m 46 #[rv b, iv 3, iv c1_] [(.int 3), (.ref b)]
  refine OGo.st (fun _ kz => XS.iloadN X3.here hx rfl (hb hby d22_46) rfl kz) ?_
  show OG p e below Φ T3 m 47 #[rv b, iv 3, iv c1_] [(.int c1_), (.int 3), (.ref b)]
  obtain ⟨T7, X7, e7, st7⟩ := getS2 X3 hx hZ hown (host := "") (Or.inl (ow119 hw)) Via.refl e3 F6 (g := (mkF m 47 #[rv b, iv 3, iv c1_] [(.int c1_), (.int 3), (.ref b)])) rfl (hb hby d22_47)
  refine OGo.st st7 ?_
  show OG p e below Φ T7 m 50 #[rv b, iv 3, iv c1_] [(.int 8), (.int c1_), (.int 3), (.ref b)]
  refine OGo.st (fun _ kz => XT.ishr X7.here hx rfl (hb hby d22_50) rfl kz) ?_
  show OG p e below Φ T7 m 51 #[rv b, iv 3, iv c1_] [(.int (c1_ >>> ((8 : Int32) &&& 31))), (.int 3), (.ref b)]
  refine OGo.st (fun _ kz => XT.i2b X7.here hx rfl (hb hby d22_51) rfl kz) ?_
  show OG p e below Φ T7 m 52 #[rv b, iv 3, iv c1_] [(.int ((c1_ >>> ((8 : Int32) &&& 31)).toInt8.toInt32)), (.int 3), (.ref b)]
  obtain ⟨cl8, Aq8, Cq8, S8, M8, H8, G8⟩ := id V3
  have in8 : ¬ ((3 : Int32) < 0 ∨ cl8.slots.size ≤ (3 : Int32).toNatClampNeg) := inb_of S8 ⟨by decide, by decide⟩
  obtain ⟨T8, h8, X8, e8, W8, st8⟩ := stB X7 hx hZ e7 Aq8 in8 (g := (mkF m 52 #[rv b, iv 3, iv c1_] [(.int ((c1_ >>> ((8 : Int32) &&& 31)).toInt8.toInt32)), (.int 3), (.ref b)])) rfl rfl (hb hby d22_52)
  have W8 : Wr h3 h8 b (3 : Int32).toNatClampNeg (.int (nar .byte ((c1_ >>> ((8 : Int32) &&& 31)).toInt8.toInt32))) := W8
  have F9 := F4.wr W8
  have F10 := F5.wr W8
  have F11 := F6.wr W8
  have V8 : Arv Z h8 b cb .byte (4 : Int32) [(.int (nar .byte (c0_ >>> (0 &&& 31)).toInt8.toInt32)), (.int (nar .byte (c0_ >>> (8 &&& 31)).toInt8.toInt32)), (.int (nar .byte ((c1_ >>> ((0 : Int32) &&& 31)).toInt8.toInt32))), (.int (nar .byte ((c1_ >>> ((8 : Int32) &&& 31)).toInt8.toInt32)))] (.int (0 : Int32)) := Arv.set Aq8 Cq8 S8 M8 H8 G8 (fits_nar_byte _) W8 3 (by decide) (by show 3 < 4; decide)
  have K8 := K3.wr W8 (Or.inl (List.mem_of_getElem? (i := 0) rfl))
  have N8 := Fr.snoc X8 N3 g_b
  have Zs8 : n0 ≤ h8.size := by rw [W8.size]; exact Zs3
  refine OGo.st st8 ?_
  show OG p e below Φ T8 m 53 #[rv b, iv 3, iv c1_] []
  refine OGo.fin X8 hlk (v := none) (fun _ => rfl) (by decide) (by decide) (fun fs hr => X8.returnOut hx hret (hb hby d22_53) hr) fun U eU hF => hΦ _ _ _ ?_ hF
  rw [eU, e8]
  show Q_rsb2_0pc1 Z b cb c0_ c1_ h0 n0 _ _ _
  exact ⟨rfl, N8, K8, V8⟩

theorem ef_rsb2_0tb (m : MethodId) (x0 : Addr) (x1 : Int32) (x2 : Int32) : entryFrame m #[(.ref x0), (.int x1), (.int x2)] 5 = mkF m 0 #[.val (.ref x0), .val (.int x1), .val (.int x2), .unset, .unset] [] := by first | (simp [entryFrame, mkF, argsToLocals, Value.category]; done) | rfl
def Q_rsb2_0tb (Z : State) (a : Addr) (ca : ClassId) (c0_ : Int32) (c1_ : Int32) (h0 : Heap) (n0 : Nat) (v : Option Value) (h : Heap) (L : List Loc) : Prop := ∃ b cb, v = some (.ref b) ∧ Fr n0 L ∧ Keep h0 h [] ∧ Arv Z h b cb .byte (4 : Int32) [(.int (nar .byte (c0_ >>> (0 &&& 31)).toInt8.toInt32)), (.int (nar .byte (c0_ >>> (8 &&& 31)).toInt8.toInt32)), (.int (nar .byte (c1_ >>> (0 &&& 31)).toInt8.toInt32)), (.int (nar .byte (c1_ >>> (8 &&& 31)).toInt8.toInt32))] (.int (0 : Int32)) ∧ h0.size ≤ b
set_option maxRecDepth 65536 in
set_option maxHeartbeats 40000000 in
theorem rsb2_0tb (l : Launch) (Z : State) (a0 : Array Value) (hw : ∀ d ∈ tables_1, d.before a0 Z = true) (ws : List Jvm.Cond) (a : Addr) (ca : ClassId) (c0_ : Int32) (c1_ : Int32) (h0 : Heap) (n0 : Nat) (Z0 : n0 ≤ h0.size) (V_a : Arv Z h0 a ca .char (2 : Int32) [(.int c0_), (.int c1_)] (.int (0 : Int32))) (O_0 : Old Z n0 h0) (S_ad : Sta Z Z.heap "java/lang/StringUTF16" "$assertionsDisabled" "Z" (.int (1 : Int32))) (S_hb : Sta Z Z.heap "java/lang/StringUTF16" "HI_BYTE_SHIFT" "I" (.int (0 : Int32))) (S_lb : Sta Z Z.heap "java/lang/StringUTF16" "LO_BYTE_SHIFT" "I" (.int (8 : Int32))) :
    OCon l Z (⟨"java/lang/StringUTF16", "toBytes", "([CII)[B"⟩ : MethodName) jdk_52_method_14_code 5 (some (.array .byte)) ws ({ frames := 2, cells := 1, slots := 4, locals := 24 } : Room) #[(.ref a), (.int (0 : Int32)), (.int (2 : Int32))] h0 (Q_rsb2_0tb Z a ca c0_ c1_ h0 n0) := by
  refine OCon.of (plainFor_of_name pn1) ?_
  intro p e s m below meth c s₁ Φ X0 hx hby hml hown hnm hret hlk hZ e0 hΦ
  have N0 := Fr.nil n0
  refine OGo.st (fun _ kz => castTop (ef_rsb2_0tb m a (0 : Int32) (2 : Int32)) kz) ?_
  have K0 := Keep.refl h0 []
  show OG p e below Φ s₁ m 0 #[rv a, iv 0, iv 2, .unset, .unset] []
  refine OGo.st (fun _ kz => XS.iloadN X0.here hx rfl (hb hby d19_0) rfl kz) ?_
  show OG p e below Φ s₁ m 1 #[rv a, iv 0, iv 2, .unset, .unset] [(.int 2)]
  obtain ⟨_, T1, L1, X1, hQ1, st1⟩ := own_callSt X0 hx hZ hown (ow107 hw) (ow108 hw) (ow36 hw) (ow109 hw) (by decide) (rsb2_0nf l Z a0 hw []  h0 n0 Z0 ) e0 (W := 0) (by decide) (by decide) (by decide) (by decide) (pc := 1) (ls := #[rv a, iv 0, iv 2, .unset, .unset]) (stk := [(.int 2)]) (by rw [hml]; rfl) (argsL := [(.int 2)]) (rest := []) (lenOf pd5 rfl) rfl rfl (Nat.le_of_eq rfl) (hb hby d19_1)
  obtain ⟨b1, cb1, rfl, Nq1, Kq1, Vq1, hz1⟩ := hQ1
  have nq1_a : a ≠ b1 := Nat.ne_of_lt (Nat.lt_of_lt_of_le V_a.lt hz1)
  have gq1 : n0 ≤ b1 := Nat.le_trans Z0 hz1
  have sq1 : h0.size ≤ b1 := Nat.le_trans K0.1 hz1
  have N1 := Fr.app N0 Nq1
  have Zs1 : n0 ≤ T1.heap.size := Nat.le_trans Z0 Kq1.1
  have F2 := V_a.keep Kq1 nin0
  have F3 := O_0.keep Kq1 all0
  have K1 := K0.trans Kq1 all0
  refine OGo.st st1 ?_
  show OG p e below Φ T1 m 4 #[rv a, iv 0, iv 2, .unset, .unset] [(.ref b1)]
  refine OGo.st (fun _ kz => XS.astoreN X1.here hx rfl (hb hby d19_4) rfl rfl (l' := #[rv a, iv 0, iv 2, rv b1, .unset]) rfl kz) ?_
  show OG p e below Φ T1 m 5 #[rv a, iv 0, iv 2, rv b1, .unset] []
  refine OGo.st (fun _ kz => XS.iconst X1.here hx rfl (hb hby d19_5) kz) ?_
  show OG p e below Φ T1 m 6 #[rv a, iv 0, iv 2, rv b1, .unset] [(.int 0)]
  refine OGo.st (fun _ kz => XS.istore X1.here hx rfl (hb hby d19_6) rfl (l' := #[rv a, iv 0, iv 2, rv b1, iv 0]) rfl kz) ?_
  show OG p e below Φ T1 m 8 #[rv a, iv 0, iv 2, rv b1, iv 0] []
  refine OGo.st (fun _ kz => XS.iload X1.here hx rfl (hb hby d19_8) rfl kz) ?_
  show OG p e below Φ T1 m 10 #[rv a, iv 0, iv 2, rv b1, iv 0] [(.int 0)]
  refine OGo.st (fun _ kz => XS.iloadN X1.here hx rfl (hb hby d19_10) rfl kz) ?_
  show OG p e below Φ T1 m 11 #[rv a, iv 0, iv 2, rv b1, iv 0] [(.int 2), (.int 0)]
  refine OGo.st (fun _ kz => XS.icmpNo X1.here hx rfl (hb hby d19_11) rfl (XT.ii_ge_f (by decide)) kz) ?_
  show OG p e below Φ T1 m 14 #[rv a, iv 0, iv 2, rv b1, iv 0] []
  refine OGo.st (fun _ kz => XS.aloadN X1.here hx rfl (hb hby d19_14) rfl rfl kz) ?_
  show OG p e below Φ T1 m 15 #[rv a, iv 0, iv 2, rv b1, iv 0] [(.ref b1)]
  refine OGo.st (fun _ kz => XS.iload X1.here hx rfl (hb hby d19_15) rfl kz) ?_
  show OG p e below Φ T1 m 17 #[rv a, iv 0, iv 2, rv b1, iv 0] [(.int 0), (.ref b1)]
  refine OGo.st (fun _ kz => XS.aloadN X1.here hx rfl (hb hby d19_17) rfl rfl kz) ?_
  show OG p e below Φ T1 m 18 #[rv a, iv 0, iv 2, rv b1, iv 0] [(.ref a), (.int 0), (.ref b1)]
  refine OGo.st (fun _ kz => XS.iloadN X1.here hx rfl (hb hby d19_18) rfl kz) ?_
  show OG p e below Φ T1 m 19 #[rv a, iv 0, iv 2, rv b1, iv 0] [(.int 0), (.ref a), (.int 0), (.ref b1)]
  obtain ⟨cl4, Aq4, -, S4, M4, H4, -⟩ := id F2
  have in4 : ¬ ((0 : Int32) < 0 ∨ cl4.slots.size ≤ (0 : Int32).toNatClampNeg) := inb_of S4 ⟨by decide, by decide⟩
  have at4 : cl4.slots[(0 : Int32).toNatClampNeg]? = some (.int c0_) := H4.at in4 rfl
  refine OGo.st (fun _ kz => X1.caload hx Aq4.1 (State.isArrayOf_alike hZ.alike Aq4.2.1) Aq4.2.2 in4 at4 (g := (mkF m 19 #[rv a, iv 0, iv 2, rv b1, iv 0] [(.int 0), (.ref a), (.int 0), (.ref b1)])) rfl rfl (hb hby d19_19) _ kz) ?_
  show OG p e below Φ T1 m 20 #[rv a, iv 0, iv 2, rv b1, iv 0] [(.int c0_), (.int 0), (.ref b1)]
  obtain ⟨_, T5, L5, X5, hQ5, st5⟩ := own_callSt X1 hx hZ hown (ow114 hw) (ow115 hw) (ow36 hw) (ow116 hw) (by decide) (rsb2_0pc0 l Z a0 hw [] b1 cb1 c0_ c1_ T1.heap n0 Zs1 Vq1 gq1 (S_ad.ext F3.2) (S_hb.ext F3.2) (S_lb.ext F3.2)) rfl (W := 0) (by decide) (by decide) (by decide) (by decide) (pc := 20) (ls := #[rv a, iv 0, iv 2, rv b1, iv 0]) (stk := [(.int c0_), (.int 0), (.ref b1)]) (by rw [hml]; rfl) (argsL := [(.ref b1), (.int 0), (.int c0_)]) (rest := []) (lenOf pd6 rfl) rfl rfl (Nat.le_of_eq rfl) (hb hby d19_20)
  obtain ⟨rfl, Nq5, Kq5, Vq5⟩ := hQ5
  have N5 := Fr.app N1 Nq5
  have Zs5 : n0 ≤ T5.heap.size := Nat.le_trans Zs1 Kq5.1
  have F6 := F2.keep Kq5 (ninS nq1_a nin0)
  have F7 := F3.keep Kq5 (allS gq1 all0)
  have K5 := K1.trans Kq5 (allS (Or.inr sq1) all0)
  refine OGo.st st5 ?_
  show OG p e below Φ T5 m 23 #[rv a, iv 0, iv 2, rv b1, iv 0] []
  refine OGo.st (fun _ kz => XS.iinc X5.here hx rfl (hb hby d19_23) rfl (l' := #[rv a, iv ((0 : Int32) + (1 : Int32)), iv 2, rv b1, iv 0]) rfl kz) ?_
  show OG p e below Φ T5 m 26 #[rv a, iv 1, iv 2, rv b1, iv 0] []
  refine OGo.st (fun _ kz => XS.iinc X5.here hx rfl (hb hby d19_26) rfl (l' := #[rv a, iv 1, iv 2, rv b1, iv ((0 : Int32) + (1 : Int32))]) rfl kz) ?_
  show OG p e below Φ T5 m 29 #[rv a, iv 1, iv 2, rv b1, iv 1] []
  refine OGo.st (fun _ kz => XS.goto X5.here hx rfl (pc0 := 29) (pc' := 8) rfl (hb hby d19_29) (by decide) (by decide) kz) ?_
  show OG p e below Φ T5 m 8 #[rv a, iv 1, iv 2, rv b1, iv 1] []
  refine OGo.st (fun _ kz => XS.iload X5.here hx rfl (hb hby d19_8) rfl kz) ?_
  show OG p e below Φ T5 m 10 #[rv a, iv 1, iv 2, rv b1, iv 1] [(.int 1)]
  refine OGo.st (fun _ kz => XS.iloadN X5.here hx rfl (hb hby d19_10) rfl kz) ?_
  show OG p e below Φ T5 m 11 #[rv a, iv 1, iv 2, rv b1, iv 1] [(.int 2), (.int 1)]
  refine OGo.st (fun _ kz => XS.icmpNo X5.here hx rfl (hb hby d19_11) rfl (XT.ii_ge_f (by decide)) kz) ?_
  show OG p e below Φ T5 m 14 #[rv a, iv 1, iv 2, rv b1, iv 1] []
  refine OGo.st (fun _ kz => XS.aloadN X5.here hx rfl (hb hby d19_14) rfl rfl kz) ?_
  show OG p e below Φ T5 m 15 #[rv a, iv 1, iv 2, rv b1, iv 1] [(.ref b1)]
  refine OGo.st (fun _ kz => XS.iload X5.here hx rfl (hb hby d19_15) rfl kz) ?_
  show OG p e below Φ T5 m 17 #[rv a, iv 1, iv 2, rv b1, iv 1] [(.int 1), (.ref b1)]
  refine OGo.st (fun _ kz => XS.aloadN X5.here hx rfl (hb hby d19_17) rfl rfl kz) ?_
  show OG p e below Φ T5 m 18 #[rv a, iv 1, iv 2, rv b1, iv 1] [(.ref a), (.int 1), (.ref b1)]
  refine OGo.st (fun _ kz => XS.iloadN X5.here hx rfl (hb hby d19_18) rfl kz) ?_
  show OG p e below Φ T5 m 19 #[rv a, iv 1, iv 2, rv b1, iv 1] [(.int 1), (.ref a), (.int 1), (.ref b1)]
  obtain ⟨cl8, Aq8, -, S8, M8, H8, -⟩ := id F6
  have in8 : ¬ ((1 : Int32) < 0 ∨ cl8.slots.size ≤ (1 : Int32).toNatClampNeg) := inb_of S8 ⟨by decide, by decide⟩
  have at8 : cl8.slots[(1 : Int32).toNatClampNeg]? = some (.int c1_) := H8.at in8 rfl
  refine OGo.st (fun _ kz => X5.caload hx Aq8.1 (State.isArrayOf_alike hZ.alike Aq8.2.1) Aq8.2.2 in8 at8 (g := (mkF m 19 #[rv a, iv 1, iv 2, rv b1, iv 1] [(.int 1), (.ref a), (.int 1), (.ref b1)])) rfl rfl (hb hby d19_19) _ kz) ?_
  show OG p e below Φ T5 m 20 #[rv a, iv 1, iv 2, rv b1, iv 1] [(.int c1_), (.int 1), (.ref b1)]
  obtain ⟨_, T9, L9, X9, hQ9, st9⟩ := own_callSt X5 hx hZ hown (ow114 hw) (ow115 hw) (ow36 hw) (ow116 hw) (by decide) (rsb2_0pc1 l Z a0 hw [] b1 cb1 c0_ c1_ T5.heap n0 Zs5 Vq5 gq1 (S_ad.ext F7.2) (S_hb.ext F7.2) (S_lb.ext F7.2)) rfl (W := 0) (by decide) (by decide) (by decide) (by decide) (pc := 20) (ls := #[rv a, iv 1, iv 2, rv b1, iv 1]) (stk := [(.int c1_), (.int 1), (.ref b1)]) (by rw [hml]; rfl) (argsL := [(.ref b1), (.int 1), (.int c1_)]) (rest := []) (lenOf pd6 rfl) rfl rfl (Nat.le_of_eq rfl) (hb hby d19_20)
  obtain ⟨rfl, Nq9, Kq9, Vq9⟩ := hQ9
  have N9 := Fr.app N5 Nq9
  have Zs9 : n0 ≤ T9.heap.size := Nat.le_trans Zs5 Kq9.1
  have F10 := F6.keep Kq9 (ninS nq1_a nin0)
  have F11 := F7.keep Kq9 (allS gq1 all0)
  have K9 := K5.trans Kq9 (allS (Or.inr sq1) all0)
  refine OGo.st st9 ?_
  show OG p e below Φ T9 m 23 #[rv a, iv 1, iv 2, rv b1, iv 1] []
  refine OGo.st (fun _ kz => XS.iinc X9.here hx rfl (hb hby d19_23) rfl (l' := #[rv a, iv ((1 : Int32) + (1 : Int32)), iv 2, rv b1, iv 1]) rfl kz) ?_
  show OG p e below Φ T9 m 26 #[rv a, iv 2, iv 2, rv b1, iv 1] []
  refine OGo.st (fun _ kz => XS.iinc X9.here hx rfl (hb hby d19_26) rfl (l' := #[rv a, iv 2, iv 2, rv b1, iv ((1 : Int32) + (1 : Int32))]) rfl kz) ?_
  show OG p e below Φ T9 m 29 #[rv a, iv 2, iv 2, rv b1, iv 2] []
  refine OGo.st (fun _ kz => XS.goto X9.here hx rfl (pc0 := 29) (pc' := 8) rfl (hb hby d19_29) (by decide) (by decide) kz) ?_
  show OG p e below Φ T9 m 8 #[rv a, iv 2, iv 2, rv b1, iv 2] []
  refine OGo.st (fun _ kz => XS.iload X9.here hx rfl (hb hby d19_8) rfl kz) ?_
  show OG p e below Φ T9 m 10 #[rv a, iv 2, iv 2, rv b1, iv 2] [(.int 2)]
  refine OGo.st (fun _ kz => XS.iloadN X9.here hx rfl (hb hby d19_10) rfl kz) ?_
  show OG p e below Φ T9 m 11 #[rv a, iv 2, iv 2, rv b1, iv 2] [(.int 2), (.int 2)]
  refine OGo.st (fun _ kz => XS.icmpYes X9.here hx rfl (pc0 := 11) (pc' := 32) rfl (hb hby d19_11) rfl (XT.ii_ge_t (by decide)) (by decide) (by decide) kz) ?_
  show OG p e below Φ T9 m 32 #[rv a, iv 2, iv 2, rv b1, iv 2] []
  refine OGo.st (fun _ kz => XS.aloadN X9.here hx rfl (hb hby d19_32) rfl rfl kz) ?_
  show OG p e below Φ T9 m 33 #[rv a, iv 2, iv 2, rv b1, iv 2] [(.ref b1)]
  refine OGo.fin X9 hlk (v := (some (.ref b1))) (fun h => by rw [hret] at h; cases h) (by decide) (by decide) (fun fs hr => X9.areturnOut hx rfl hret rfl (hb hby d19_33) hr) fun U eU hF => hΦ _ _ _ ?_ hF
  rw [eU]
  show Q_rsb2_0tb Z a ca c0_ c1_ h0 n0 _ _ _
  exact ⟨_, _, rfl, N9, K9, Vq9, sq1⟩

theorem ef_rsb2_0gc (m : MethodId) (x0 : Addr) (x1 : Int32) : entryFrame m #[(.ref x0), (.int x1)] 2 = mkF m 0 #[.val (.ref x0), .val (.int x1)] [] := by first | (simp [entryFrame, mkF, argsToLocals, Value.category]; done) | rfl
def Q_rsb2_0gc (Z : State) (b : Addr) (cb : ClassId) (c0_ : Int32) (c1_ : Int32) (h0 : Heap) (n0 : Nat) (v : Option Value) (h : Heap) (L : List Loc) : Prop := v = some (.int c0_) ∧ Fr n0 L ∧ h = h0
set_option maxRecDepth 65536 in
set_option maxHeartbeats 40000000 in
theorem rsb2_0gc (l : Launch) (Z : State) (a0 : Array Value) (hw : ∀ d ∈ tables_1, d.before a0 Z = true) (ws : List Jvm.Cond) (b : Addr) (cb : ClassId) (c0_ : Int32) (c1_ : Int32) (h0 : Heap) (n0 : Nat) (Z0 : n0 ≤ h0.size) (V_b : Arv Z h0 b cb .byte (4 : Int32) [(.int (nar .byte (c0_ >>> (0 &&& 31)).toInt8.toInt32)), (.int (nar .byte (c0_ >>> (8 &&& 31)).toInt8.toInt32)), (.int (nar .byte (c1_ >>> (0 &&& 31)).toInt8.toInt32)), (.int (nar .byte (c1_ >>> (8 &&& 31)).toInt8.toInt32))] (.int (0 : Int32))) (S_ad : Sta Z h0 "java/lang/StringUTF16" "$assertionsDisabled" "Z" (.int (1 : Int32))) (S_hb : Sta Z h0 "java/lang/StringUTF16" "HI_BYTE_SHIFT" "I" (.int (0 : Int32))) (S_lb : Sta Z h0 "java/lang/StringUTF16" "LO_BYTE_SHIFT" "I" (.int (8 : Int32))) (hr0 : nar .char c0_ = c0_) :
    OCon l Z (⟨"java/lang/StringUTF16", "getChar", "([BI)C"⟩ : MethodName) jdk_52_method_5_code 2 (some .char) ws ({ frames := 0, cells := 0, slots := 0, locals := 0 } : Room) #[(.ref b), (.int (0 : Int32))] h0 (Q_rsb2_0gc Z b cb c0_ c1_ h0 n0) := by
  refine OCon.of (plainFor_of_name pn1) ?_
  intro p e s m below meth c s₁ Φ X0 hx hby hml hown hnm hret hlk hZ e0 hΦ
  have N0 := Fr.nil n0
  refine OGo.st (fun _ kz => castTop (ef_rsb2_0gc m b (0 : Int32)) kz) ?_
  show OG p e below Φ s₁ m 0 #[rv b, iv 0] []
  obtain ⟨T1, X1, e1, st1⟩ := getS2 X0 hx hZ hown (host := "") (Or.inl (ow117 hw)) Via.refl e0 S_ad (g := (mkF m 0 #[rv b, iv 0] [])) rfl (hb hby d23_0)
  refine OGo.st st1 ?_
  show OG p e below Φ T1 m 3 #[rv b, iv 0] [(.int 1)]
  refine OGo.st (fun _ kz => XS.ifYes X1.here hx rfl (pc0 := 3) (pc' := 28) rfl (hb hby d23_3) rfl (XT.i0_ne_t (by decide)) (by decide) (by decide) kz) ?_
  show OG p e below Φ T1 m 28 #[rv b, iv 0] []
  refine OGo.st (fun _ kz => XS.iloadN X1.here hx rfl (hb hby d23_28) rfl kz) ?_
  show OG p e below Φ T1 m 29 #[rv b, iv 0] [(.int 0)]
  refine OGo.st (fun _ kz => XS.iconst X1.here hx rfl (hb hby d23_29) kz) ?_
  show OG p e below Φ T1 m 30 #[rv b, iv 0] [(.int 1), (.int 0)]
  refine OGo.st (fun _ kz => XT.ishl X1.here hx rfl (hb hby d23_30) rfl kz) ?_
  show OG p e below Φ T1 m 31 #[rv b, iv 0] [(.int 0)]
  refine OGo.st (fun _ kz => XS.istoreN X1.here hx rfl (hb hby d23_31) rfl (l' := #[rv b, iv 0]) rfl kz) ?_
  show OG p e below Φ T1 m 32 #[rv b, iv 0] []
  refine OGo.st (fun _ kz => XS.aloadN X1.here hx rfl (hb hby d23_32) rfl rfl kz) ?_
  show OG p e below Φ T1 m 33 #[rv b, iv 0] [(.ref b)]
  refine OGo.st (fun _ kz => XS.iloadN X1.here hx rfl (hb hby d23_33) rfl kz) ?_
  show OG p e below Φ T1 m 34 #[rv b, iv 0] [(.int 0), (.ref b)]
  refine OGo.st (fun _ kz => XS.iinc X1.here hx rfl (hb hby d23_34) rfl (l' := #[rv b, iv ((0 : Int32) + (1 : Int32))]) rfl kz) ?_
  show OG p e below Φ T1 m 37 #[rv b, iv 1] [(.int 0), (.ref b)]
  obtain ⟨cl2, Aq2, -, S2, M2, H2, -⟩ := id V_b
  have in2 : ¬ ((0 : Int32) < 0 ∨ cl2.slots.size ≤ (0 : Int32).toNatClampNeg) := inb_of S2 ⟨by decide, by decide⟩
  have at2 : cl2.slots[(0 : Int32).toNatClampNeg]? = some (.int (nar .byte (c0_ >>> (0 &&& 31)).toInt8.toInt32)) := H2.at in2 rfl
  refine OGo.st (fun _ kz => X1.baloadBytes hx (by rw [e1]; exact Aq2.1) (State.isArrayOf_alike hZ.alike Aq2.2.1) Aq2.2.2 in2 at2 (g := (mkF m 37 #[rv b, iv 1] [(.int 0), (.ref b)])) rfl rfl (hb hby d23_37) _ kz) ?_
  show OG p e below Φ T1 m 38 #[rv b, iv 1] [(.int (nar .byte (c0_ >>> (0 &&& 31)).toInt8.toInt32))]
  refine OGo.st (fun _ kz => XS.sipush X1.here hx rfl (hb hby d23_38) kz) ?_
  show OG p e below Φ T1 m 41 #[rv b, iv 1] [(.int 255), (.int (nar .byte (c0_ >>> (0 &&& 31)).toInt8.toInt32))]
  refine OGo.st (fun _ kz => XS.iand X1.here hx rfl (hb hby d23_41) rfl kz) ?_
  show OG p e below Φ T1 m 42 #[rv b, iv 1] [(.int ((nar .byte (c0_ >>> (0 &&& 31)).toInt8.toInt32) &&& (255 : Int32)))]
  obtain ⟨T3, X3, e3, st3⟩ := getS2 X1 hx hZ hown (host := "") (Or.inl (ow118 hw)) Via.refl e1 S_hb (g := (mkF m 42 #[rv b, iv 1] [(.int ((nar .byte (c0_ >>> (0 &&& 31)).toInt8.toInt32) &&& (255 : Int32)))])) rfl (hb hby d23_42)
  refine OGo.st st3 ?_
  show OG p e below Φ T3 m 45 #[rv b, iv 1] [(.int 0), (.int ((nar .byte (c0_ >>> (0 &&& 31)).toInt8.toInt32) &&& (255 : Int32)))]
  refine OGo.st (fun _ kz => XT.ishl X3.here hx rfl (hb hby d23_45) rfl kz) ?_
  show OG p e below Φ T3 m 46 #[rv b, iv 1] [(.int (((nar .byte (c0_ >>> (0 &&& 31)).toInt8.toInt32) &&& (255 : Int32)) <<< ((0 : Int32) &&& 31)))]
  refine OGo.st (fun _ kz => XS.aloadN X3.here hx rfl (hb hby d23_46) rfl rfl kz) ?_
  show OG p e below Φ T3 m 47 #[rv b, iv 1] [(.ref b), (.int (((nar .byte (c0_ >>> (0 &&& 31)).toInt8.toInt32) &&& (255 : Int32)) <<< ((0 : Int32) &&& 31)))]
  refine OGo.st (fun _ kz => XS.iloadN X3.here hx rfl (hb hby d23_47) rfl kz) ?_
  show OG p e below Φ T3 m 48 #[rv b, iv 1] [(.int 1), (.ref b), (.int (((nar .byte (c0_ >>> (0 &&& 31)).toInt8.toInt32) &&& (255 : Int32)) <<< ((0 : Int32) &&& 31)))]
  obtain ⟨cl4, Aq4, -, S4, M4, H4, -⟩ := id V_b
  have in4 : ¬ ((1 : Int32) < 0 ∨ cl4.slots.size ≤ (1 : Int32).toNatClampNeg) := inb_of S4 ⟨by decide, by decide⟩
  have at4 : cl4.slots[(1 : Int32).toNatClampNeg]? = some (.int (nar .byte (c0_ >>> (8 &&& 31)).toInt8.toInt32)) := H4.at in4 rfl
  refine OGo.st (fun _ kz => X3.baloadBytes hx (by rw [e3]; exact Aq4.1) (State.isArrayOf_alike hZ.alike Aq4.2.1) Aq4.2.2 in4 at4 (g := (mkF m 48 #[rv b, iv 1] [(.int 1), (.ref b), (.int (((nar .byte (c0_ >>> (0 &&& 31)).toInt8.toInt32) &&& (255 : Int32)) <<< ((0 : Int32) &&& 31)))])) rfl rfl (hb hby d23_48) _ kz) ?_
  show OG p e below Φ T3 m 49 #[rv b, iv 1] [(.int (nar .byte (c0_ >>> (8 &&& 31)).toInt8.toInt32)), (.int (((nar .byte (c0_ >>> (0 &&& 31)).toInt8.toInt32) &&& (255 : Int32)) <<< ((0 : Int32) &&& 31)))]
  refine OGo.st (fun _ kz => XS.sipush X3.here hx rfl (hb hby d23_49) kz) ?_
  show OG p e below Φ T3 m 52 #[rv b, iv 1] [(.int 255), (.int (nar .byte (c0_ >>> (8 &&& 31)).toInt8.toInt32)), (.int (((nar .byte (c0_ >>> (0 &&& 31)).toInt8.toInt32) &&& (255 : Int32)) <<< ((0 : Int32) &&& 31)))]
  refine OGo.st (fun _ kz => XS.iand X3.here hx rfl (hb hby d23_52) rfl kz) ?_
  show OG p e below Φ T3 m 53 #[rv b, iv 1] [(.int ((nar .byte (c0_ >>> (8 &&& 31)).toInt8.toInt32) &&& (255 : Int32))), (.int (((nar .byte (c0_ >>> (0 &&& 31)).toInt8.toInt32) &&& (255 : Int32)) <<< ((0 : Int32) &&& 31)))]
  obtain ⟨T5, X5, e5, st5⟩ := getS2 X3 hx hZ hown (host := "") (Or.inl (ow119 hw)) Via.refl e3 S_lb (g := (mkF m 53 #[rv b, iv 1] [(.int ((nar .byte (c0_ >>> (8 &&& 31)).toInt8.toInt32) &&& (255 : Int32))), (.int (((nar .byte (c0_ >>> (0 &&& 31)).toInt8.toInt32) &&& (255 : Int32)) <<< ((0 : Int32) &&& 31)))])) rfl (hb hby d23_53)
  refine OGo.st st5 ?_
  show OG p e below Φ T5 m 56 #[rv b, iv 1] [(.int 8), (.int ((nar .byte (c0_ >>> (8 &&& 31)).toInt8.toInt32) &&& (255 : Int32))), (.int (((nar .byte (c0_ >>> (0 &&& 31)).toInt8.toInt32) &&& (255 : Int32)) <<< ((0 : Int32) &&& 31)))]
  refine OGo.st (fun _ kz => XT.ishl X5.here hx rfl (hb hby d23_56) rfl kz) ?_
  show OG p e below Φ T5 m 57 #[rv b, iv 1] [(.int (((nar .byte (c0_ >>> (8 &&& 31)).toInt8.toInt32) &&& (255 : Int32)) <<< ((8 : Int32) &&& 31))), (.int (((nar .byte (c0_ >>> (0 &&& 31)).toInt8.toInt32) &&& (255 : Int32)) <<< ((0 : Int32) &&& 31)))]
  refine OGo.st (fun _ kz => XT.ior X5.here hx rfl (hb hby d23_57) rfl kz) ?_
  show OG p e below Φ T5 m 58 #[rv b, iv 1] [(.int ((((nar .byte (c0_ >>> (0 &&& 31)).toInt8.toInt32) &&& (255 : Int32)) <<< ((0 : Int32) &&& 31)) ||| (((nar .byte (c0_ >>> (8 &&& 31)).toInt8.toInt32) &&& (255 : Int32)) <<< ((8 : Int32) &&& 31))))]
  refine OGo.st (fun _ kz => XT.i2c X5.here hx rfl (hb hby d23_58) rfl kz) ?_
  show OG p e below Φ T5 m 59 #[rv b, iv 1] [(.int (((((nar .byte (c0_ >>> (0 &&& 31)).toInt8.toInt32) &&& (255 : Int32)) <<< ((0 : Int32) &&& 31)) ||| (((nar .byte (c0_ >>> (8 &&& 31)).toInt8.toInt32) &&& (255 : Int32)) <<< ((8 : Int32) &&& 31))).toUInt32.toUInt16.toUInt32.toInt32))]
  refine OGo.fin X5 hlk (v := (some (.int (((((nar .byte (c0_ >>> (0 &&& 31)).toInt8.toInt32) &&& (255 : Int32)) <<< ((0 : Int32) &&& 31)) ||| (((nar .byte (c0_ >>> (8 &&& 31)).toInt8.toInt32) &&& (255 : Int32)) <<< ((8 : Int32) &&& 31))).toUInt32.toUInt16.toUInt32.toInt32)))) (fun h => by rw [hret] at h; cases h) (by decide) (by decide) (fun fs hr => X5.ireturnOut hx hret (XT.narrow_c _) (by simp) (hb hby d23_59) hr) fun U eU hF => hΦ _ _ _ ?_ hF
  rw [eU, e5]
  show Q_rsb2_0gc Z b cb c0_ c1_ h0 n0 _ _ _
  rw [own_gc _ hr0]
  exact ⟨rfl, N0, rfl⟩

theorem ef_rsb2_0c3 (m : MethodId) (x0 : Addr) (x1 : Int32) (x2 : Int32) : entryFrame m #[(.ref x0), (.int x1), (.int x2)] 6 = mkF m 0 #[.val (.ref x0), .val (.int x1), .val (.int x2), .unset, .unset, .unset] [] := by first | (simp [entryFrame, mkF, argsToLocals, Value.category]; done) | rfl
def Q_rsb2_0c3 (Z : State) (a : Addr) (ca : ClassId) (c0_ : Int32) (c1_ : Int32) (h0 : Heap) (n0 : Nat) (v : Option Value) (h : Heap) (L : List Loc) : Prop := ∃ b cb, v = some (.ref b) ∧ Fr n0 L ∧ Keep h0 h [] ∧ Arv Z h b cb .byte (4 : Int32) [(.int (nar .byte (c0_ >>> (0 &&& 31)).toInt8.toInt32)), (.int (nar .byte (c0_ >>> (8 &&& 31)).toInt8.toInt32)), (.int (nar .byte (c1_ >>> (0 &&& 31)).toInt8.toInt32)), (.int (nar .byte (c1_ >>> (8 &&& 31)).toInt8.toInt32))] (.int (0 : Int32)) ∧ h0.size ≤ b
set_option maxRecDepth 65536 in
set_option maxHeartbeats 40000000 in
theorem rsb2_0c3 (l : Launch) (Z : State) (a0 : Array Value) (hw : ∀ d ∈ tables_1, d.before a0 Z = true) (ws : List Jvm.Cond) (a : Addr) (ca : ClassId) (c0_ : Int32) (c1_ : Int32) (h0 : Heap) (n0 : Nat) (Z0 : n0 ≤ h0.size) (V_a : Arv Z h0 a ca .char (2 : Int32) [(.int c0_), (.int c1_)] (.int (0 : Int32))) (O_0 : Old Z n0 h0) (S_ad : Sta Z Z.heap "java/lang/StringUTF16" "$assertionsDisabled" "Z" (.int (1 : Int32))) (S_hb : Sta Z Z.heap "java/lang/StringUTF16" "HI_BYTE_SHIFT" "I" (.int (0 : Int32))) (S_lb : Sta Z Z.heap "java/lang/StringUTF16" "LO_BYTE_SHIFT" "I" (.int (8 : Int32))) (hb0 : (255 : Int32) < c0_) (hr0 : nar .char c0_ = c0_) :
    OCon l Z (⟨"java/lang/StringUTF16", "compress", "([CII)[B"⟩ : MethodName) jdk_52_method_16_code 6 (some (.array .byte)) ws ({ frames := 3, cells := 2, slots := 6, locals := 40 } : Room) #[(.ref a), (.int (0 : Int32)), (.int (2 : Int32))] h0 (Q_rsb2_0c3 Z a ca c0_ c1_ h0 n0) := by
  refine OCon.of (plainFor_of_name pn1) ?_
  intro p e s m below meth c s₁ Φ X0 hx hby hml hown hnm hret hlk hZ e0 hΦ
  have N0 := Fr.nil n0
  refine OGo.st (fun _ kz => castTop (ef_rsb2_0c3 m a (0 : Int32) (2 : Int32)) kz) ?_
  have K0 := Keep.refl h0 []
  show OG p e below Φ s₁ m 0 #[rv a, iv 0, iv 2, .unset, .unset, .unset] []
  refine OGo.st (fun _ kz => XS.iloadN X0.here hx rfl (hb hby d6_0) rfl kz) ?_
  show OG p e below Φ s₁ m 1 #[rv a, iv 0, iv 2, .unset, .unset, .unset] [(.int 2)]
  obtain ⟨T1, h1, c1, X1, e1, E1, Ar1, st1⟩ := newP (aty := .byte) X0 hx hZ (ow26 hw) e0 (g := (mkF m 1 #[rv a, iv 0, iv 2, .unset, .unset, .unset] [(.int 2)])) rfl (hb hby d6_1) rfl (by decide) (cap := 2) (by decide) (by decide) (by decide) (by decide)
  obtain ⟨b1, g1⟩ : ∃ z, z = h0.size := ⟨_, rfl⟩
  rw [← g1] at Ar1 st1
  have ne1_a : a ≠ b1 := by rw [g1]; exact Nat.ne_of_lt V_a.lt
  have F2 := V_a.ext E1
  have F3 := O_0.ext E1
  have gb1 : n0 ≤ b1 := Nat.le_trans Z0 (Nat.le_of_eq g1.symm)
  have sz1 : h0.size ≤ b1 := Nat.le_trans K0.1 (Nat.le_of_eq g1.symm)
  have K1 := K0.ext E1
  have Zs1 : n0 ≤ h1.size := Nat.le_trans Z0 E1.1
  have V1 : Arv Z h1 b1 c1 .byte (2 : Int32) [(.int (0 : Int32)), (.int (0 : Int32))] (.int (0 : Int32)) := (Arv.new Ar1 (by decide)).pad (pad_rep [] _ 2)
  refine OGo.st st1 ?_
  show OG p e below Φ T1 m 3 #[rv a, iv 0, iv 2, .unset, .unset, .unset] [(.ref b1)]
  refine OGo.st (fun _ kz => XS.astoreN X1.here hx rfl (hb hby d6_3) rfl rfl (l' := #[rv a, iv 0, iv 2, rv b1, .unset, .unset]) rfl kz) ?_
  show OG p e below Φ T1 m 4 #[rv a, iv 0, iv 2, rv b1, .unset, .unset] []
  refine OGo.st (fun _ kz => XS.aloadN X1.here hx rfl (hb hby d6_4) rfl rfl kz) ?_
  show OG p e below Φ T1 m 5 #[rv a, iv 0, iv 2, rv b1, .unset, .unset] [(.ref a)]
  refine OGo.st (fun _ kz => XS.iloadN X1.here hx rfl (hb hby d6_5) rfl kz) ?_
  show OG p e below Φ T1 m 6 #[rv a, iv 0, iv 2, rv b1, .unset, .unset] [(.int 0), (.ref a)]
  refine OGo.st (fun _ kz => XS.aloadN X1.here hx rfl (hb hby d6_6) rfl rfl kz) ?_
  show OG p e below Φ T1 m 7 #[rv a, iv 0, iv 2, rv b1, .unset, .unset] [(.ref b1), (.int 0), (.ref a)]
  refine OGo.st (fun _ kz => XS.iconst X1.here hx rfl (hb hby d6_7) kz) ?_
  show OG p e below Φ T1 m 8 #[rv a, iv 0, iv 2, rv b1, .unset, .unset] [(.int 0), (.ref b1), (.int 0), (.ref a)]
  refine OGo.st (fun _ kz => XS.iloadN X1.here hx rfl (hb hby d6_8) rfl kz) ?_
  show OG p e below Φ T1 m 9 #[rv a, iv 0, iv 2, rv b1, .unset, .unset] [(.int 2), (.int 0), (.ref b1), (.int 0), (.ref a)]
  obtain ⟨_, T4, L4, X4, hQ4, st4⟩ := own_callSt X1 hx hZ hown (ow38 hw) (ow39 hw) (ow36 hw) (ow40 hw) (by decide) (rsb2_0c2 l Z a0 hw [] a ca b1 c1 c0_ c1_ h1 n0 Zs1 F2 V1 ne1_a gb1 hb0) e1 (W := 0) (by decide) (by decide) (by decide) (by decide) (pc := 9) (ls := #[rv a, iv 0, iv 2, rv b1, .unset, .unset]) (stk := [(.int 2), (.int 0), (.ref b1), (.int 0), (.ref a)]) (by rw [hml]; rfl) (argsL := [(.ref a), (.int 0), (.ref b1), (.int 0), (.int 2)]) (rest := []) (lenOf pd1 rfl) rfl rfl (Nat.le_of_eq rfl) (hb hby d6_9)
  obtain ⟨rfl, Nq4, Kq4⟩ := hQ4
  have N4 := Fr.app N0 Nq4
  have Zs4 : n0 ≤ T4.heap.size := Nat.le_trans Zs1 Kq4.1
  have F5 := F2.keep Kq4 (ninS ne1_a nin0)
  have F6 := F3.keep Kq4 (allS gb1 all0)
  have K4 := K1.trans Kq4 (allS (Or.inr sz1) all0)
  refine OGo.st st4 ?_
  show OG p e below Φ T4 m 12 #[rv a, iv 0, iv 2, rv b1, .unset, .unset] [(.int 0)]
  refine OGo.st (fun _ kz => XS.istore X4.here hx rfl (hb hby d6_12) rfl (l' := #[rv a, iv 0, iv 2, rv b1, iv 0, .unset]) rfl kz) ?_
  show OG p e below Φ T4 m 14 #[rv a, iv 0, iv 2, rv b1, iv 0, .unset] []
  refine OGo.st (fun _ kz => XS.iload X4.here hx rfl (hb hby d6_14) rfl kz) ?_
  show OG p e below Φ T4 m 16 #[rv a, iv 0, iv 2, rv b1, iv 0, .unset] [(.int 0)]
  refine OGo.st (fun _ kz => XS.iloadN X4.here hx rfl (hb hby d6_16) rfl kz) ?_
  show OG p e below Φ T4 m 17 #[rv a, iv 0, iv 2, rv b1, iv 0, .unset] [(.int 2), (.int 0)]
  refine OGo.st (fun _ kz => XS.icmpNo X4.here hx rfl (hb hby d6_17) rfl (XT.ii_eq_f (by decide)) kz) ?_
  show OG p e below Φ T4 m 20 #[rv a, iv 0, iv 2, rv b1, iv 0, .unset] []
  refine OGo.st (fun _ kz => XS.aloadN X4.here hx rfl (hb hby d6_20) rfl rfl kz) ?_
  show OG p e below Φ T4 m 21 #[rv a, iv 0, iv 2, rv b1, iv 0, .unset] [(.ref a)]
  refine OGo.st (fun _ kz => XS.iloadN X4.here hx rfl (hb hby d6_21) rfl kz) ?_
  show OG p e below Φ T4 m 22 #[rv a, iv 0, iv 2, rv b1, iv 0, .unset] [(.int 0), (.ref a)]
  refine OGo.st (fun _ kz => XS.iloadN X4.here hx rfl (hb hby d6_22) rfl kz) ?_
  show OG p e below Φ T4 m 23 #[rv a, iv 0, iv 2, rv b1, iv 0, .unset] [(.int 2), (.int 0), (.ref a)]
  obtain ⟨_, T7, L7, X7, hQ7, st7⟩ := own_callSt X4 hx hZ hown (ow104 hw) (ow105 hw) (ow36 hw) (ow106 hw) (by decide) (rsb2_0tb l Z a0 hw [] a ca c0_ c1_ T4.heap n0 Zs4 F5 F6 S_ad S_hb S_lb) rfl (W := 0) (by decide) (by decide) (by decide) (by decide) (pc := 23) (ls := #[rv a, iv 0, iv 2, rv b1, iv 0, .unset]) (stk := [(.int 2), (.int 0), (.ref a)]) (by rw [hml]; rfl) (argsL := [(.ref a), (.int 0), (.int 2)]) (rest := []) (lenOf pd2 rfl) rfl rfl (Nat.le_of_eq rfl) (hb hby d6_23)
  obtain ⟨b7, cb7, rfl, Nq7, Kq7, Vq7, hz7⟩ := hQ7
  have nq7_a : a ≠ b7 := Nat.ne_of_lt (Nat.lt_of_lt_of_le F5.lt hz7)
  have gq7 : n0 ≤ b7 := Nat.le_trans Zs4 hz7
  have sq7 : h0.size ≤ b7 := Nat.le_trans K4.1 hz7
  have N7 := Fr.app N4 Nq7
  have Zs7 : n0 ≤ T7.heap.size := Nat.le_trans Zs4 Kq7.1
  have F8 := F5.keep Kq7 nin0
  have F9 := F6.keep Kq7 all0
  have K7 := K4.trans Kq7 all0
  refine OGo.st st7 ?_
  show OG p e below Φ T7 m 26 #[rv a, iv 0, iv 2, rv b1, iv 0, .unset] [(.ref b7)]
  refine OGo.st (fun _ kz => XS.astore X7.here hx rfl (hb hby d6_26) rfl rfl (l' := #[rv a, iv 0, iv 2, rv b1, iv 0, rv b7]) rfl kz) ?_
  show OG p e below Φ T7 m 28 #[rv a, iv 0, iv 2, rv b1, iv 0, rv b7] []
  refine OGo.st (fun _ kz => XS.aload X7.here hx rfl (hb hby d6_28) rfl rfl kz) ?_
  show OG p e below Φ T7 m 30 #[rv a, iv 0, iv 2, rv b1, iv 0, rv b7] [(.ref b7)]
  refine OGo.st (fun _ kz => XS.iload X7.here hx rfl (hb hby d6_30) rfl kz) ?_
  show OG p e below Φ T7 m 32 #[rv a, iv 0, iv 2, rv b1, iv 0, rv b7] [(.int 0), (.ref b7)]
  obtain ⟨_, T10, L10, X10, hQ10, st10⟩ := own_callSt X7 hx hZ hown (ow120 hw) (ow121 hw) (ow36 hw) (ow122 hw) (by decide) (rsb2_0gc l Z a0 hw [] b7 cb7 c0_ c1_ T7.heap n0 Zs7 Vq7 (S_ad.ext F9.2) (S_hb.ext F9.2) (S_lb.ext F9.2) hr0) rfl (W := 0) (by decide) (by decide) (by decide) (by decide) (pc := 32) (ls := #[rv a, iv 0, iv 2, rv b1, iv 0, rv b7]) (stk := [(.int 0), (.ref b7)]) (by rw [hml]; rfl) (argsL := [(.ref b7), (.int 0)]) (rest := []) (lenOf pd7 rfl) rfl rfl (Nat.le_of_eq rfl) (hb hby d6_32)
  obtain ⟨rfl, Nq10, e10⟩ := hQ10
  have N10 := Fr.app N7 Nq10
  refine OGo.st st10 ?_
  show OG p e below Φ T10 m 35 #[rv a, iv 0, iv 2, rv b1, iv 0, rv b7] [(.int c0_)]
  refine OGo.st (fun _ kz => XS.sipush X10.here hx rfl (hb hby d6_35) kz) ?_
  show OG p e below Φ T10 m 38 #[rv a, iv 0, iv 2, rv b1, iv 0, rv b7] [(.int 255), (.int c0_)]
  refine OGo.st (fun _ kz => XS.icmpYes X10.here hx rfl (pc0 := 38) (pc' := 54) rfl (hb hby d6_38) rfl (XT.ii_gt_t hb0) (by decide) (by decide) kz) ?_
  show OG p e below Φ T10 m 54 #[rv a, iv 0, iv 2, rv b1, iv 0, rv b7] []
  refine OGo.st (fun _ kz => XS.aload X10.here hx rfl (hb hby d6_54) rfl rfl kz) ?_
  show OG p e below Φ T10 m 56 #[rv a, iv 0, iv 2, rv b1, iv 0, rv b7] [(.ref b7)]
  refine OGo.fin X10 hlk (v := (some (.ref b7))) (fun h => by rw [hret] at h; cases h) (by decide) (by decide) (fun fs hr => X10.areturnOut hx rfl hret rfl (hb hby d6_56) hr) fun U eU hF => hΦ _ _ _ ?_ hF
  rw [eU, e10]
  show Q_rsb2_0c3 Z a ca c0_ c1_ h0 n0 _ _ _
  exact ⟨_, _, rfl, N10, K7, Vq7, sq7⟩

theorem ef_rsb2_0cf (m : MethodId) (x0 : Addr) (x1 : Int32) : entryFrame m #[(.ref x0), (.int x1)] 2 = mkF m 0 #[.val (.ref x0), .val (.int x1)] [] := by first | (simp [entryFrame, mkF, argsToLocals, Value.category]; done) | rfl
def Q_rsb2_0cf (Z : State) (b : Addr) (cb : ClassId) (c0_ : Int32) (c1_ : Int32) (h0 : Heap) (n0 : Nat) (v : Option Value) (h : Heap) (L : List Loc) : Prop := v = some (.int (1 : Int32)) ∧ Fr n0 L ∧ h = h0
set_option maxRecDepth 65536 in
set_option maxHeartbeats 40000000 in
theorem rsb2_0cf (l : Launch) (Z : State) (a0 : Array Value) (hw : ∀ d ∈ tables_1, d.before a0 Z = true) (ws : List Jvm.Cond) (b : Addr) (cb : ClassId) (c0_ : Int32) (c1_ : Int32) (h0 : Heap) (n0 : Nat) (Z0 : n0 ≤ h0.size) (V_b : Arv Z h0 b cb .byte (4 : Int32) [(.int (nar .byte (c0_ >>> (0 &&& 31)).toInt8.toInt32)), (.int (nar .byte (c0_ >>> (8 &&& 31)).toInt8.toInt32)), (.int (nar .byte (c1_ >>> (0 &&& 31)).toInt8.toInt32)), (.int (nar .byte (c1_ >>> (8 &&& 31)).toInt8.toInt32))] (.int (0 : Int32))) :
    OCon l Z (⟨"java/lang/StringUTF16", "coderFromArrayLen", "([BI)B"⟩ : MethodName) jdk_52_method_15_code 2 (some .byte) ws ({ frames := 0, cells := 0, slots := 0, locals := 0 } : Room) #[(.ref b), (.int (2 : Int32))] h0 (Q_rsb2_0cf Z b cb c0_ c1_ h0 n0) := by
  refine OCon.of (plainFor_of_name pn1) ?_
  intro p e s m below meth c s₁ Φ X0 hx hby hml hown hnm hret hlk hZ e0 hΦ
  have N0 := Fr.nil n0
  refine OGo.st (fun _ kz => castTop (ef_rsb2_0cf m b (2 : Int32)) kz) ?_
  show OG p e below Φ s₁ m 0 #[rv b, iv 2] []
  refine OGo.st (fun _ kz => XS.iloadN X0.here hx rfl (hb hby d8_0) rfl kz) ?_
  show OG p e below Φ s₁ m 1 #[rv b, iv 2] [(.int 2)]
  refine OGo.st (fun _ kz => XS.aloadN X0.here hx rfl (hb hby d8_1) rfl rfl kz) ?_
  show OG p e below Φ s₁ m 2 #[rv b, iv 2] [(.ref b), (.int 2)]
  obtain ⟨cl1, Aq1, -, S1, M1, -, -⟩ := id V_b
  refine OGo.st (fun _ kz => X0.arraylength hx (by rw [e0]; exact Aq1.1) (State.isArrayOf_alike hZ.alike Aq1.2.1) (g := (mkF m 2 #[rv b, iv 2] [(.ref b), (.int 2)])) rfl rfl (hb hby d8_2) _ kz) ?_
  rw [len_of S1 M1]
  show OG p e below Φ s₁ m 3 #[rv b, iv 2] [(.int 4), (.int 2)]
  refine OGo.st (fun _ kz => XS.isub X0.here hx rfl (hb hby d8_3) rfl kz) ?_
  show OG p e below Φ s₁ m 4 #[rv b, iv 2] [(.int (-2))]
  refine OGo.st (fun _ kz => XS.bipush X0.here hx rfl (hb hby d8_4) kz) ?_
  show OG p e below Φ s₁ m 6 #[rv b, iv 2] [(.int 31), (.int (-2))]
  refine OGo.st (fun _ kz => XT.iushr X0.here hx rfl (hb hby d8_6) rfl kz) ?_
  show OG p e below Φ s₁ m 7 #[rv b, iv 2] [(.int 1)]
  refine OGo.st (fun _ kz => XT.i2b X0.here hx rfl (hb hby d8_7) rfl kz) ?_
  show OG p e below Φ s₁ m 8 #[rv b, iv 2] [(.int 1)]
  refine OGo.fin X0 hlk (v := (some (.int 1))) (fun h => by rw [hret] at h; cases h) (by decide) (by decide) (fun fs hr => X0.ireturnOut hx hret rfl (by simp) (hb hby d8_8) hr) fun U eU hF => hΦ _ _ _ ?_ hF
  rw [eU, e0]
  show Q_rsb2_0cf Z b cb c0_ c1_ h0 n0 _ _ _
  exact ⟨rfl, N0, rfl⟩

theorem ef_rsb2_0i4 (m : MethodId) (x0 : Addr) (x1 : Addr) (x2 : Int32) (x3 : Int32) : entryFrame m #[(.ref x0), (.ref x1), (.int x2), (.int x3), .null] 6 = mkF m 0 #[.val (.ref x0), .val (.ref x1), .val (.int x2), .val (.int x3), .val .null, .unset] [] := by first | (simp [entryFrame, mkF, argsToLocals, Value.category]; done) | rfl
def Q_rsb2_0i4 (Z : State) (s_ : Addr) (a : Addr) (ca : ClassId) (qc : Int32) (c0_ : Int32) (c1_ : Int32) (h0 : Heap) (n0 : Nat) (v : Option Value) (h : Heap) (L : List Loc) : Prop := v = none ∧ Fr n0 L ∧ Keep h0 h [s_] ∧ Exa Z h s_ "java/lang/String" ∧ ∃ b cb, Fld Z h s_ "java/lang/String" "value" "[B" (.ref b) ∧ Fld Z h s_ "java/lang/String" "coder" "B" (.int (1 : Int32)) ∧ Arv Z h b cb .byte (4 : Int32) [(.int (nar .byte (c0_ >>> (0 &&& 31)).toInt8.toInt32)), (.int (nar .byte (c0_ >>> (8 &&& 31)).toInt8.toInt32)), (.int (nar .byte (c1_ >>> (0 &&& 31)).toInt8.toInt32)), (.int (nar .byte (c1_ >>> (8 &&& 31)).toInt8.toInt32))] (.int (0 : Int32)) ∧ h0.size ≤ b
set_option maxRecDepth 65536 in
set_option maxHeartbeats 40000000 in
theorem rsb2_0i4 (l : Launch) (Z : State) (a0 : Array Value) (hw : ∀ d ∈ tables_1, d.before a0 Z = true) (ws : List Jvm.Cond) (s_ : Addr) (a : Addr) (ca : ClassId) (qc : Int32) (c0_ : Int32) (c1_ : Int32) (h0 : Heap) (n0 : Nat) (Z0 : n0 ≤ h0.size) (E_s : Exa Z h0 s_ "java/lang/String") (g_s : n0 ≤ s_) (F_v : Fld Z h0 s_ "java/lang/String" "value" "[B" .null) (F_c : Fld Z h0 s_ "java/lang/String" "coder" "B" (.int (0 : Int32))) (V_a : Arv Z h0 a ca .char (2 : Int32) [(.int c0_), (.int c1_)] (.int (0 : Int32))) (nsa : s_ ≠ a) (S_cs : Sta Z Z.heap "java/lang/String" "COMPACT_STRINGS" "Z" (.int qc)) (hq : ¬ qc = 0) (O_0 : Old Z n0 h0) (S_ad : Sta Z Z.heap "java/lang/StringUTF16" "$assertionsDisabled" "Z" (.int (1 : Int32))) (S_hb : Sta Z Z.heap "java/lang/StringUTF16" "HI_BYTE_SHIFT" "I" (.int (0 : Int32))) (S_lb : Sta Z Z.heap "java/lang/StringUTF16" "LO_BYTE_SHIFT" "I" (.int (8 : Int32))) (hb0 : (255 : Int32) < c0_) (hr0 : nar .char c0_ = c0_) :
    OCon l Z (⟨"java/lang/String", "<init>", "([CIILjava/lang/Void;)V"⟩ : MethodName) jdk_42_method_149_code 6 none ws ({ frames := 4, cells := 2, slots := 6, locals := 57 } : Room) #[(.ref s_), (.ref a), (.int (0 : Int32)), (.int (2 : Int32)), .null] h0 (Q_rsb2_0i4 Z s_ a ca qc c0_ c1_ h0 n0) := by
  refine OCon.of (plainFor_of_name pn0) ?_
  intro p e s m below meth c s₁ Φ X0 hx hby hml hown hnm hret hlk hZ e0 hΦ
  have N0 := Fr.nil n0
  refine OGo.st (fun _ kz => castTop (ef_rsb2_0i4 m s_ a (0 : Int32) (2 : Int32)) kz) ?_
  have K0 := Keep.refl h0 [s_]
  show OG p e below Φ s₁ m 0 #[rv s_, rv a, iv 0, iv 2, .val .null, .unset] []
  refine OGo.st (fun _ kz => XS.aloadN X0.here hx rfl (hb hby d4_0) rfl rfl kz) ?_
  show OG p e below Φ s₁ m 1 #[rv s_, rv a, iv 0, iv 2, .val .null, .unset] [(.ref s_)]
  obtain ⟨T1, X1, e1, st1⟩ := initO X0 hx hZ hown (ow22 hw) (ow23 hw) (ow24 hw) e0 (g := (mkF m 1 #[rv s_, rv a, iv 0, iv 2, .val .null, .unset] [(.ref s_)])) rfl (by rw [hml]; rfl) rfl (hb hby d4_1) (by decide) (W := 0) (Nat.le_of_eq rfl) (by decide)
  refine OGo.st st1 ?_
  show OG p e below Φ T1 m 4 #[rv s_, rv a, iv 0, iv 2, .val .null, .unset] []
  refine OGo.st (fun _ kz => XS.iloadN X1.here hx rfl (hb hby d4_4) rfl kz) ?_
  show OG p e below Φ T1 m 5 #[rv s_, rv a, iv 0, iv 2, .val .null, .unset] [(.int 2)]
  refine OGo.st (fun _ kz => XS.ifYes X1.here hx rfl (pc0 := 5) (pc' := 27) rfl (hb hby d4_5) rfl (XT.i0_ne_t (by decide)) (by decide) (by decide) kz) ?_
  show OG p e below Φ T1 m 27 #[rv s_, rv a, iv 0, iv 2, .val .null, .unset] []
  have Sq := S_cs.ext O_0.2
  obtain ⟨T2, X2, e2, st2⟩ := getS2 X1 hx hZ hown (host := "") (Or.inl (ow33 hw)) Via.refl e1 Sq (g := (mkF m 27 #[rv s_, rv a, iv 0, iv 2, .val .null, .unset] [])) rfl (hb hby d4_27)
  refine OGo.st st2 ?_
  show OG p e below Φ T2 m 30 #[rv s_, rv a, iv 0, iv 2, .val .null, .unset] [(.int qc)]
  refine OGo.st (fun _ kz => XS.ifNo X2.here hx rfl (hb hby d4_30) rfl (XT.i0_eq_f hq) kz) ?_
  show OG p e below Φ T2 m 33 #[rv s_, rv a, iv 0, iv 2, .val .null, .unset] []
  refine OGo.st (fun _ kz => XS.aloadN X2.here hx rfl (hb hby d4_33) rfl rfl kz) ?_
  show OG p e below Φ T2 m 34 #[rv s_, rv a, iv 0, iv 2, .val .null, .unset] [(.ref a)]
  refine OGo.st (fun _ kz => XS.iloadN X2.here hx rfl (hb hby d4_34) rfl kz) ?_
  show OG p e below Φ T2 m 35 #[rv s_, rv a, iv 0, iv 2, .val .null, .unset] [(.int 0), (.ref a)]
  refine OGo.st (fun _ kz => XS.iloadN X2.here hx rfl (hb hby d4_35) rfl kz) ?_
  show OG p e below Φ T2 m 36 #[rv s_, rv a, iv 0, iv 2, .val .null, .unset] [(.int 2), (.int 0), (.ref a)]
  obtain ⟨_, T3, L3, X3, hQ3, st3⟩ := own_callSt X2 hx hZ hown (ow34 hw) (ow35 hw) (ow36 hw) (ow37 hw) (by decide) (rsb2_0c3 l Z a0 hw [] a ca c0_ c1_ h0 n0 Z0 V_a O_0 S_ad S_hb S_lb hb0 hr0) e2 (W := 0) (by decide) (by decide) (by decide) (by decide) (pc := 36) (ls := #[rv s_, rv a, iv 0, iv 2, .val .null, .unset]) (stk := [(.int 2), (.int 0), (.ref a)]) (by rw [hml]; rfl) (argsL := [(.ref a), (.int 0), (.int 2)]) (rest := []) (lenOf pd2 rfl) rfl rfl (Nat.le_of_eq rfl) (hb hby d4_36)
  obtain ⟨b3, cb3, rfl, Nq3, Kq3, Vq3, hz3⟩ := hQ3
  have nq3_a : a ≠ b3 := Nat.ne_of_lt (Nat.lt_of_lt_of_le V_a.lt hz3)
  have nq3_s_ : s_ ≠ b3 := Nat.ne_of_lt (Nat.lt_of_lt_of_le E_s.lt hz3)
  have gq3 : n0 ≤ b3 := Nat.le_trans Z0 hz3
  have sq3 : h0.size ≤ b3 := Nat.le_trans K0.1 hz3
  have N3 := Fr.app N0 Nq3
  have Zs3 : n0 ≤ T3.heap.size := Nat.le_trans Z0 Kq3.1
  have F4 := E_s.keep Kq3
  have F5 := F_v.keep Kq3 nin0
  have F6 := F_c.keep Kq3 nin0
  have F7 := V_a.keep Kq3 nin0
  have F8 := O_0.keep Kq3 all0
  have K3 := K0.trans Kq3 all0
  refine OGo.st st3 ?_
  show OG p e below Φ T3 m 39 #[rv s_, rv a, iv 0, iv 2, .val .null, .unset] [(.ref b3)]
  refine OGo.st (fun _ kz => XS.astore X3.here hx rfl (hb hby d4_39) rfl rfl (l' := #[rv s_, rv a, iv 0, iv 2, .val .null, rv b3]) rfl kz) ?_
  show OG p e below Φ T3 m 41 #[rv s_, rv a, iv 0, iv 2, .val .null, rv b3] []
  refine OGo.st (fun _ kz => XS.aloadN X3.here hx rfl (hb hby d4_41) rfl rfl kz) ?_
  show OG p e below Φ T3 m 42 #[rv s_, rv a, iv 0, iv 2, .val .null, rv b3] [(.ref s_)]
  refine OGo.st (fun _ kz => XS.aload X3.here hx rfl (hb hby d4_42) rfl rfl kz) ?_
  show OG p e below Φ T3 m 44 #[rv s_, rv a, iv 0, iv 2, .val .null, rv b3] [(.ref b3), (.ref s_)]
  refine OGo.st (fun _ kz => XS.iloadN X3.here hx rfl (hb hby d4_44) rfl kz) ?_
  show OG p e below Φ T3 m 45 #[rv s_, rv a, iv 0, iv 2, .val .null, rv b3] [(.int 2), (.ref b3), (.ref s_)]
  obtain ⟨_, T9, L9, X9, hQ9, st9⟩ := own_callSt X3 hx hZ hown (ow41 hw) (ow42 hw) (ow36 hw) (ow43 hw) (by decide) (rsb2_0cf l Z a0 hw [] b3 cb3 c0_ c1_ T3.heap n0 Zs3 Vq3) rfl (W := 1) (by decide) (by decide) (by decide) (by decide) (pc := 45) (ls := #[rv s_, rv a, iv 0, iv 2, .val .null, rv b3]) (stk := [(.int 2), (.ref b3), (.ref s_)]) (by rw [hml]; rfl) (argsL := [(.ref b3), (.int 2)]) (rest := [(.ref s_)]) (lenOf pd3 rfl) rfl rfl (Nat.le_of_eq rfl) (hb hby d4_45)
  obtain ⟨rfl, Nq9, e9⟩ := hQ9
  have N9 := Fr.app N3 Nq9
  refine OGo.st st9 ?_
  show OG p e below Φ T9 m 48 #[rv s_, rv a, iv 0, iv 2, .val .null, rv b3] [(.int 1), (.ref s_)]
  obtain ⟨T10, h10, X10, e10, W10, st10⟩ := putF X9 hx hZ hown (host := "") (Or.inl (ow32 hw)) Via.refl e9 F6 F4 (Or.inr ⟨(ow28 hw), rfl, hnm⟩) (ow12 hw) (ty := .byte) (by decide) (by decide) (by decide) (g := (mkF m 48 #[rv s_, rv a, iv 0, iv 2, .val .null, rv b3] [(.int 1), (.ref s_)])) rfl rfl (hb hby d4_48)
  have F11 := F4.wr W10
  have F12 := F5.other W10 (Or.inr (slot_ne (Or.inr (ow27 hw)) (Or.inr (ow28 hw)) (by decide) (t := (.array .byte)) (t' := .byte) (by decide) (by decide)))
  have F13 := F6.same W10
  have F14 := F7.other W10 (Ne.symm nsa)
  have F15 := F8.wr W10 g_s
  have F16 := Vq3.other W10 (Ne.symm nq3_s_)
  have K10 := K3.wr W10 (Or.inl (List.mem_of_getElem? (i := 0) rfl))
  have N10 := Fr.snoc X10 N9 g_s
  have Zs10 : n0 ≤ h10.size := by rw [W10.size]; exact Zs3
  refine OGo.st st10 ?_
  show OG p e below Φ T10 m 51 #[rv s_, rv a, iv 0, iv 2, .val .null, rv b3] []
  refine OGo.st (fun _ kz => XS.aloadN X10.here hx rfl (hb hby d4_51) rfl rfl kz) ?_
  show OG p e below Φ T10 m 52 #[rv s_, rv a, iv 0, iv 2, .val .null, rv b3] [(.ref s_)]
  refine OGo.st (fun _ kz => XS.aload X10.here hx rfl (hb hby d4_52) rfl rfl kz) ?_
  show OG p e below Φ T10 m 54 #[rv s_, rv a, iv 0, iv 2, .val .null, rv b3] [(.ref b3), (.ref s_)]
  obtain ⟨T17, h17, X17, e17, W17, st17⟩ := putF X10 hx hZ hown (host := "") (Or.inl (ow31 hw)) Via.refl e10 F12 F11 (Or.inr ⟨(ow27 hw), rfl, hnm⟩) (ow12 hw) (ty := (.array .byte)) (by decide) rfl rfl (g := (mkF m 54 #[rv s_, rv a, iv 0, iv 2, .val .null, rv b3] [(.ref b3), (.ref s_)])) rfl rfl (hb hby d4_54)
  have F18 := F11.wr W17
  have F19 := F12.same W17
  have F20 := F13.other W17 (Or.inr (slot_ne (Or.inr (ow28 hw)) (Or.inr (ow27 hw)) (by decide) (t := .byte) (t' := (.array .byte)) (by decide) (by decide)))
  have F21 := F14.other W17 (Ne.symm nsa)
  have F22 := F15.wr W17 g_s
  have F23 := F16.other W17 (Ne.symm nq3_s_)
  have K17 := K10.wr W17 (Or.inl (List.mem_of_getElem? (i := 0) rfl))
  have N17 := Fr.snoc X17 N10 g_s
  have Zs17 : n0 ≤ h17.size := by rw [W17.size]; exact Zs10
  refine OGo.st st17 ?_
  show OG p e below Φ T17 m 57 #[rv s_, rv a, iv 0, iv 2, .val .null, rv b3] []
  refine OGo.fin X17 hlk (v := none) (fun _ => rfl) (by decide) (by decide) (fun fs hr => X17.returnOut hx hret (hb hby d4_57) hr) fun U eU hF => hΦ _ _ _ ?_ hF
  rw [eU, e17]
  show Q_rsb2_0i4 Z s_ a ca qc c0_ c1_ h0 n0 _ _ _
  exact ⟨rfl, N17, K17, F18, _, _, F19, F20, F23, sq3⟩

theorem ef_rsb2_0i1 (m : MethodId) (x0 : Addr) (x1 : Addr) : entryFrame m #[(.ref x0), (.ref x1)] 2 = mkF m 0 #[.val (.ref x0), .val (.ref x1)] [] := by first | (simp [entryFrame, mkF, argsToLocals, Value.category]; done) | rfl
def Q_rsb2_0i1 (Z : State) (s_ : Addr) (a : Addr) (ca : ClassId) (qc : Int32) (c0_ : Int32) (c1_ : Int32) (h0 : Heap) (n0 : Nat) (v : Option Value) (h : Heap) (L : List Loc) : Prop := v = none ∧ Fr n0 L ∧ Keep h0 h [s_] ∧ Exa Z h s_ "java/lang/String" ∧ ∃ b cb, Fld Z h s_ "java/lang/String" "value" "[B" (.ref b) ∧ Fld Z h s_ "java/lang/String" "coder" "B" (.int (1 : Int32)) ∧ Arv Z h b cb .byte (4 : Int32) [(.int (nar .byte (c0_ >>> (0 &&& 31)).toInt8.toInt32)), (.int (nar .byte (c0_ >>> (8 &&& 31)).toInt8.toInt32)), (.int (nar .byte (c1_ >>> (0 &&& 31)).toInt8.toInt32)), (.int (nar .byte (c1_ >>> (8 &&& 31)).toInt8.toInt32))] (.int (0 : Int32)) ∧ h0.size ≤ b
set_option maxRecDepth 65536 in
set_option maxHeartbeats 40000000 in
theorem rsb2_0i1 (l : Launch) (Z : State) (a0 : Array Value) (hw : ∀ d ∈ tables_1, d.before a0 Z = true) (ws : List Jvm.Cond) (s_ : Addr) (a : Addr) (ca : ClassId) (qc : Int32) (c0_ : Int32) (c1_ : Int32) (h0 : Heap) (n0 : Nat) (Z0 : n0 ≤ h0.size) (E_s : Exa Z h0 s_ "java/lang/String") (g_s : n0 ≤ s_) (F_v : Fld Z h0 s_ "java/lang/String" "value" "[B" .null) (F_c : Fld Z h0 s_ "java/lang/String" "coder" "B" (.int (0 : Int32))) (V_a : Arv Z h0 a ca .char (2 : Int32) [(.int c0_), (.int c1_)] (.int (0 : Int32))) (nsa : s_ ≠ a) (S_cs : Sta Z Z.heap "java/lang/String" "COMPACT_STRINGS" "Z" (.int qc)) (hq : ¬ qc = 0) (O_0 : Old Z n0 h0) (S_ad : Sta Z Z.heap "java/lang/StringUTF16" "$assertionsDisabled" "Z" (.int (1 : Int32))) (S_hb : Sta Z Z.heap "java/lang/StringUTF16" "HI_BYTE_SHIFT" "I" (.int (0 : Int32))) (S_lb : Sta Z Z.heap "java/lang/StringUTF16" "LO_BYTE_SHIFT" "I" (.int (8 : Int32))) (hb0 : (255 : Int32) < c0_) (hr0 : nar .char c0_ = c0_) :
    OCon l Z (⟨"java/lang/String", "<init>", "([C)V"⟩ : MethodName) jdk_42_method_3_code 2 none ws ({ frames := 5, cells := 2, slots := 6, locals := 74 } : Room) #[(.ref s_), (.ref a)] h0 (Q_rsb2_0i1 Z s_ a ca qc c0_ c1_ h0 n0) := by
  refine OCon.of (plainFor_of_name pn0) ?_
  intro p e s m below meth c s₁ Φ X0 hx hby hml hown hnm hret hlk hZ e0 hΦ
  have N0 := Fr.nil n0
  refine OGo.st (fun _ kz => castTop (ef_rsb2_0i1 m s_ a) kz) ?_
  have K0 := Keep.refl h0 [s_]
  show OG p e below Φ s₁ m 0 #[rv s_, rv a] []
  refine OGo.st (fun _ kz => XS.aloadN X0.here hx rfl (hb hby d3_0) rfl rfl kz) ?_
  show OG p e below Φ s₁ m 1 #[rv s_, rv a] [(.ref s_)]
  refine OGo.st (fun _ kz => XS.aloadN X0.here hx rfl (hb hby d3_1) rfl rfl kz) ?_
  show OG p e below Φ s₁ m 2 #[rv s_, rv a] [(.ref a), (.ref s_)]
  refine OGo.st (fun _ kz => XS.iconst X0.here hx rfl (hb hby d3_2) kz) ?_
  show OG p e below Φ s₁ m 3 #[rv s_, rv a] [(.int 0), (.ref a), (.ref s_)]
  refine OGo.st (fun _ kz => XS.aloadN X0.here hx rfl (hb hby d3_3) rfl rfl kz) ?_
  show OG p e below Φ s₁ m 4 #[rv s_, rv a] [(.ref a), (.int 0), (.ref a), (.ref s_)]
  obtain ⟨cl1, Aq1, -, S1, M1, -, -⟩ := id V_a
  refine OGo.st (fun _ kz => X0.arraylength hx (by rw [e0]; exact Aq1.1) (State.isArrayOf_alike hZ.alike Aq1.2.1) (g := (mkF m 4 #[rv s_, rv a] [(.ref a), (.int 0), (.ref a), (.ref s_)])) rfl rfl (hb hby d3_4) _ kz) ?_
  rw [len_of S1 M1]
  show OG p e below Φ s₁ m 5 #[rv s_, rv a] [(.int 2), (.int 0), (.ref a), (.ref s_)]
  refine OGo.st (fun _ kz => XS.aconstNull X0.here hx rfl (hb hby d3_5) kz) ?_
  show OG p e below Φ s₁ m 6 #[rv s_, rv a] [.null, (.int 2), (.int 0), (.ref a), (.ref s_)]
  obtain ⟨_, T2, L2, X2, hQ2, st2⟩ := own_callSp X0 hx hZ rfl hown (ow18 hw) (ow19 hw) (ow13 hw) (ow21 hw) (by decide) (rsb2_0i4 l Z a0 hw [] s_ a ca qc c0_ c1_ h0 n0 Z0 E_s g_s F_v F_c V_a nsa S_cs hq O_0 S_ad S_hb S_lb hb0 hr0) e0 (W := 0) (by decide) (by decide) (by decide) (by decide) (pc := 6) (ls := #[rv s_, rv a]) (stk := [.null, (.int 2), (.int 0), (.ref a), (.ref s_)]) (by rw [hml]; rfl) (a := s_) (argsL := [(.ref a), (.int 0), (.int 2), .null]) (rest := []) (lenOf pd0 rfl) rfl rfl (Nat.le_of_eq rfl) (hb hby d3_6)
  obtain ⟨rfl, Nq2, Kq2, Eq2, b2, cb2, Fv2, Fc2, Vq2, hz2⟩ := hQ2
  have nq2_a : a ≠ b2 := Nat.ne_of_lt (Nat.lt_of_lt_of_le V_a.lt hz2)
  have nq2_s_ : s_ ≠ b2 := Nat.ne_of_lt (Nat.lt_of_lt_of_le E_s.lt hz2)
  have gq2 : n0 ≤ b2 := Nat.le_trans Z0 hz2
  have sq2 : h0.size ≤ b2 := Nat.le_trans K0.1 hz2
  have N2 := Fr.app N0 Nq2
  have Zs2 : n0 ≤ T2.heap.size := Nat.le_trans Z0 Kq2.1
  have F3 := V_a.keep Kq2 (ninS (Ne.symm nsa) nin0)
  have F4 := O_0.keep Kq2 (allS g_s all0)
  have K2 := K0.trans Kq2 (allS (Or.inl (List.mem_of_getElem? (i := 0) rfl)) all0)
  refine OGo.st st2 ?_
  show OG p e below Φ T2 m 9 #[rv s_, rv a] []
  refine OGo.fin X2 hlk (v := none) (fun _ => rfl) (by decide) (by decide) (fun fs hr => X2.returnOut hx hret (hb hby d3_9) hr) fun U eU hF => hΦ _ _ _ ?_ hF
  rw [eU]
  show Q_rsb2_0i1 Z s_ a ca qc c0_ c1_ h0 n0 _ _ _
  exact ⟨rfl, N2, K2, Eq2, _, _, Fv2, Fc2, Vq2, sq2⟩

theorem ef_rsb2_1c2 (m : MethodId) (x0 : Addr) (x1 : Int32) (x2 : Addr) (x3 : Int32) (x4 : Int32) : entryFrame m #[(.ref x0), (.int x1), (.ref x2), (.int x3), (.int x4)] 7 = mkF m 0 #[.val (.ref x0), .val (.int x1), .val (.ref x2), .val (.int x3), .val (.int x4), .unset, .unset] [] := by first | (simp [entryFrame, mkF, argsToLocals, Value.category]; done) | rfl
def Q_rsb2_1c2 (Z : State) (a : Addr) (ca : ClassId) (b : Addr) (cb : ClassId) (c0_ : Int32) (c1_ : Int32) (h0 : Heap) (n0 : Nat) (v : Option Value) (h : Heap) (L : List Loc) : Prop := v = some (.int (1 : Int32)) ∧ Fr n0 L ∧ Keep h0 h [b]
set_option maxRecDepth 65536 in
set_option maxHeartbeats 40000000 in
theorem rsb2_1c2 (l : Launch) (Z : State) (a0 : Array Value) (hw : ∀ d ∈ tables_1, d.before a0 Z = true) (ws : List Jvm.Cond) (a : Addr) (ca : ClassId) (b : Addr) (cb : ClassId) (c0_ : Int32) (c1_ : Int32) (h0 : Heap) (n0 : Nat) (Z0 : n0 ≤ h0.size) (V_a : Arv Z h0 a ca .char (2 : Int32) [(.int c0_), (.int c1_)] (.int (0 : Int32))) (V_b : Arv Z h0 b cb .byte (2 : Int32) [(.int (0 : Int32)), (.int (0 : Int32))] (.int (0 : Int32))) (nab : a ≠ b) (g_b : n0 ≤ b) (hl0 : ¬ (255 : Int32) < c0_) (hb1 : (255 : Int32) < c1_) :
    OCon l Z (⟨"java/lang/StringUTF16", "compress", "([CI[BII)I"⟩ : MethodName) jdk_52_method_21_code 7 (some .int) ws ({ frames := 0, cells := 0, slots := 0, locals := 0 } : Room) #[(.ref a), (.int (0 : Int32)), (.ref b), (.int (0 : Int32)), (.int (2 : Int32))] h0 (Q_rsb2_1c2 Z a ca b cb c0_ c1_ h0 n0) := by
  refine OCon.of (plainFor_of_name pn1) ?_
  intro p e s m below meth c s₁ Φ X0 hx hby hml hown hnm hret hlk hZ e0 hΦ
  have N0 := Fr.nil n0
  refine OGo.st (fun _ kz => castTop (ef_rsb2_1c2 m a (0 : Int32) b (0 : Int32) (2 : Int32)) kz) ?_
  have K0 := Keep.refl h0 [b]
  show OG p e below Φ s₁ m 0 #[rv a, iv 0, rv b, iv 0, iv 2, .unset, .unset] []
  refine OGo.st (fun _ kz => XS.iconst X0.here hx rfl (hb hby d7_0) kz) ?_
  show OG p e below Φ s₁ m 1 #[rv a, iv 0, rv b, iv 0, iv 2, .unset, .unset] [(.int 0)]
  refine OGo.st (fun _ kz => XS.istore X0.here hx rfl (hb hby d7_1) rfl (l' := #[rv a, iv 0, rv b, iv 0, iv 2, iv 0, .unset]) rfl kz) ?_
  show OG p e below Φ s₁ m 3 #[rv a, iv 0, rv b, iv 0, iv 2, iv 0, .unset] []
  refine OGo.st (fun _ kz => XS.iload X0.here hx rfl (hb hby d7_3) rfl kz) ?_
  show OG p e below Φ s₁ m 5 #[rv a, iv 0, rv b, iv 0, iv 2, iv 0, .unset] [(.int 0)]
  refine OGo.st (fun _ kz => XS.iload X0.here hx rfl (hb hby d7_5) rfl kz) ?_
  show OG p e below Φ s₁ m 7 #[rv a, iv 0, rv b, iv 0, iv 2, iv 0, .unset] [(.int 2), (.int 0)]
  refine OGo.st (fun _ kz => XS.icmpNo X0.here hx rfl (hb hby d7_7) rfl (XT.ii_ge_f (by decide)) kz) ?_
  show OG p e below Φ s₁ m 10 #[rv a, iv 0, rv b, iv 0, iv 2, iv 0, .unset] []
  refine OGo.st (fun _ kz => XS.aloadN X0.here hx rfl (hb hby d7_10) rfl rfl kz) ?_
  show OG p e below Φ s₁ m 11 #[rv a, iv 0, rv b, iv 0, iv 2, iv 0, .unset] [(.ref a)]
  refine OGo.st (fun _ kz => XS.iloadN X0.here hx rfl (hb hby d7_11) rfl kz) ?_
  show OG p e below Φ s₁ m 12 #[rv a, iv 0, rv b, iv 0, iv 2, iv 0, .unset] [(.int 0), (.ref a)]
  obtain ⟨cl1, Aq1, -, S1, M1, H1, -⟩ := id V_a
  have in1 : ¬ ((0 : Int32) < 0 ∨ cl1.slots.size ≤ (0 : Int32).toNatClampNeg) := inb_of S1 ⟨by decide, by decide⟩
  have at1 : cl1.slots[(0 : Int32).toNatClampNeg]? = some (.int c0_) := H1.at in1 rfl
  refine OGo.st (fun _ kz => X0.caload hx (by rw [e0]; exact Aq1.1) (State.isArrayOf_alike hZ.alike Aq1.2.1) Aq1.2.2 in1 at1 (g := (mkF m 12 #[rv a, iv 0, rv b, iv 0, iv 2, iv 0, .unset] [(.int 0), (.ref a)])) rfl rfl (hb hby d7_12) _ kz) ?_
  show OG p e below Φ s₁ m 13 #[rv a, iv 0, rv b, iv 0, iv 2, iv 0, .unset] [(.int c0_)]
  refine OGo.st (fun _ kz => XS.istore X0.here hx rfl (hb hby d7_13) rfl (l' := #[rv a, iv 0, rv b, iv 0, iv 2, iv 0, iv c0_]) rfl kz) ?_
  show OG p e below Φ s₁ m 15 #[rv a, iv 0, rv b, iv 0, iv 2, iv 0, iv c0_] []
  refine OGo.st (fun _ kz => XS.iload X0.here hx rfl (hb hby d7_15) rfl kz) ?_
  show OG p e below Φ s₁ m 17 #[rv a, iv 0, rv b, iv 0, iv 2, iv 0, iv c0_] [(.int c0_)]
  refine OGo.st (fun _ kz => XS.sipush X0.here hx rfl (hb hby d7_17) kz) ?_
  show OG p e below Φ s₁ m 20 #[rv a, iv 0, rv b, iv 0, iv 2, iv 0, iv c0_] [(.int 255), (.int c0_)]
  refine OGo.st (fun _ kz => XS.icmpYes X0.here hx rfl (pc0 := 20) (pc' := 26) rfl (hb hby d7_20) rfl (XT.ii_le_t hl0) (by decide) (by decide) kz) ?_
  show OG p e below Φ s₁ m 26 #[rv a, iv 0, rv b, iv 0, iv 2, iv 0, iv c0_] []
  refine OGo.st (fun _ kz => XS.aloadN X0.here hx rfl (hb hby d7_26) rfl rfl kz) ?_
  show OG p e below Φ s₁ m 27 #[rv a, iv 0, rv b, iv 0, iv 2, iv 0, iv c0_] [(.ref b)]
  refine OGo.st (fun _ kz => XS.iloadN X0.here hx rfl (hb hby d7_27) rfl kz) ?_
  show OG p e below Φ s₁ m 28 #[rv a, iv 0, rv b, iv 0, iv 2, iv 0, iv c0_] [(.int 0), (.ref b)]
  refine OGo.st (fun _ kz => XS.iload X0.here hx rfl (hb hby d7_28) rfl kz) ?_
  show OG p e below Φ s₁ m 30 #[rv a, iv 0, rv b, iv 0, iv 2, iv 0, iv c0_] [(.int c0_), (.int 0), (.ref b)]
  refine OGo.st (fun _ kz => XT.i2b X0.here hx rfl (hb hby d7_30) rfl kz) ?_
  show OG p e below Φ s₁ m 31 #[rv a, iv 0, rv b, iv 0, iv 2, iv 0, iv c0_] [(.int (c0_.toInt8.toInt32)), (.int 0), (.ref b)]
  obtain ⟨cl2, Aq2, Cq2, S2, M2, H2, G2⟩ := id V_b
  have in2 : ¬ ((0 : Int32) < 0 ∨ cl2.slots.size ≤ (0 : Int32).toNatClampNeg) := inb_of S2 ⟨by decide, by decide⟩
  obtain ⟨T2, h2, X2, e2, W2, st2⟩ := stB X0 hx hZ e0 Aq2 in2 (g := (mkF m 31 #[rv a, iv 0, rv b, iv 0, iv 2, iv 0, iv c0_] [(.int (c0_.toInt8.toInt32)), (.int 0), (.ref b)])) rfl rfl (hb hby d7_31)
  have W2 : Wr h0 h2 b (0 : Int32).toNatClampNeg (.int (nar .byte (c0_.toInt8.toInt32))) := W2
  have F3 := V_a.other W2 nab
  have V2 : Arv Z h2 b cb .byte (2 : Int32) [(.int (nar .byte (c0_.toInt8.toInt32))), (.int (0 : Int32))] (.int (0 : Int32)) := Arv.set Aq2 Cq2 S2 M2 H2 G2 (fits_nar_byte _) W2 0 (by decide) (by show 0 < 2; decide)
  have K2 := K0.wr W2 (Or.inl (List.mem_of_getElem? (i := 0) rfl))
  have N2 := Fr.snoc X2 N0 g_b
  have Zs2 : n0 ≤ h2.size := by rw [W2.size]; exact Z0
  refine OGo.st st2 ?_
  show OG p e below Φ T2 m 32 #[rv a, iv 0, rv b, iv 0, iv 2, iv 0, iv c0_] []
  refine OGo.st (fun _ kz => XS.iinc X2.here hx rfl (hb hby d7_32) rfl (l' := #[rv a, iv ((0 : Int32) + (1 : Int32)), rv b, iv 0, iv 2, iv 0, iv c0_]) rfl kz) ?_
  show OG p e below Φ T2 m 35 #[rv a, iv 1, rv b, iv 0, iv 2, iv 0, iv c0_] []
  refine OGo.st (fun _ kz => XS.iinc X2.here hx rfl (hb hby d7_35) rfl (l' := #[rv a, iv 1, rv b, iv ((0 : Int32) + (1 : Int32)), iv 2, iv 0, iv c0_]) rfl kz) ?_
  show OG p e below Φ T2 m 38 #[rv a, iv 1, rv b, iv 1, iv 2, iv 0, iv c0_] []
  refine OGo.st (fun _ kz => XS.iinc X2.here hx rfl (hb hby d7_38) rfl (l' := #[rv a, iv 1, rv b, iv 1, iv 2, iv ((0 : Int32) + (1 : Int32)), iv c0_]) rfl kz) ?_
  show OG p e below Φ T2 m 41 #[rv a, iv 1, rv b, iv 1, iv 2, iv 1, iv c0_] []
  refine OGo.st (fun _ kz => XS.goto X2.here hx rfl (pc0 := 41) (pc' := 3) rfl (hb hby d7_41) (by decide) (by decide) kz) ?_
  show OG p e below Φ T2 m 3 #[rv a, iv 1, rv b, iv 1, iv 2, iv 1, iv c0_] []
  refine OGo.st (fun _ kz => XS.iload X2.here hx rfl (hb hby d7_3) rfl kz) ?_
  show OG p e below Φ T2 m 5 #[rv a, iv 1, rv b, iv 1, iv 2, iv 1, iv c0_] [(.int 1)]
  refine OGo.st (fun _ kz => XS.iload X2.here hx rfl (hb hby d7_5) rfl kz) ?_
  show OG p e below Φ T2 m 7 #[rv a, iv 1, rv b, iv 1, iv 2, iv 1, iv c0_] [(.int 2), (.int 1)]
  refine OGo.st (fun _ kz => XS.icmpNo X2.here hx rfl (hb hby d7_7) rfl (XT.ii_ge_f (by decide)) kz) ?_
  show OG p e below Φ T2 m 10 #[rv a, iv 1, rv b, iv 1, iv 2, iv 1, iv c0_] []
  refine OGo.st (fun _ kz => XS.aloadN X2.here hx rfl (hb hby d7_10) rfl rfl kz) ?_
  show OG p e below Φ T2 m 11 #[rv a, iv 1, rv b, iv 1, iv 2, iv 1, iv c0_] [(.ref a)]
  refine OGo.st (fun _ kz => XS.iloadN X2.here hx rfl (hb hby d7_11) rfl kz) ?_
  show OG p e below Φ T2 m 12 #[rv a, iv 1, rv b, iv 1, iv 2, iv 1, iv c0_] [(.int 1), (.ref a)]
  obtain ⟨cl4, Aq4, -, S4, M4, H4, -⟩ := id F3
  have in4 : ¬ ((1 : Int32) < 0 ∨ cl4.slots.size ≤ (1 : Int32).toNatClampNeg) := inb_of S4 ⟨by decide, by decide⟩
  have at4 : cl4.slots[(1 : Int32).toNatClampNeg]? = some (.int c1_) := H4.at in4 rfl
  refine OGo.st (fun _ kz => X2.caload hx (by rw [e2]; exact Aq4.1) (State.isArrayOf_alike hZ.alike Aq4.2.1) Aq4.2.2 in4 at4 (g := (mkF m 12 #[rv a, iv 1, rv b, iv 1, iv 2, iv 1, iv c0_] [(.int 1), (.ref a)])) rfl rfl (hb hby d7_12) _ kz) ?_
  show OG p e below Φ T2 m 13 #[rv a, iv 1, rv b, iv 1, iv 2, iv 1, iv c0_] [(.int c1_)]
  refine OGo.st (fun _ kz => XS.istore X2.here hx rfl (hb hby d7_13) rfl (l' := #[rv a, iv 1, rv b, iv 1, iv 2, iv 1, iv c1_]) rfl kz) ?_
  show OG p e below Φ T2 m 15 #[rv a, iv 1, rv b, iv 1, iv 2, iv 1, iv c1_] []
  refine OGo.st (fun _ kz => XS.iload X2.here hx rfl (hb hby d7_15) rfl kz) ?_
  show OG p e below Φ T2 m 17 #[rv a, iv 1, rv b, iv 1, iv 2, iv 1, iv c1_] [(.int c1_)]
  refine OGo.st (fun _ kz => XS.sipush X2.here hx rfl (hb hby d7_17) kz) ?_
  show OG p e below Φ T2 m 20 #[rv a, iv 1, rv b, iv 1, iv 2, iv 1, iv c1_] [(.int 255), (.int c1_)]
  refine OGo.st (fun _ kz => XS.icmpNo X2.here hx rfl (hb hby d7_20) rfl (XT.ii_le_f hb1) kz) ?_
  show OG p e below Φ T2 m 23 #[rv a, iv 1, rv b, iv 1, iv 2, iv 1, iv c1_] []
  refine OGo.st (fun _ kz => XS.iload X2.here hx rfl (hb hby d7_23) rfl kz) ?_
  show OG p e below Φ T2 m 25 #[rv a, iv 1, rv b, iv 1, iv 2, iv 1, iv c1_] [(.int 1)]
  refine OGo.fin X2 hlk (v := (some (.int 1))) (fun h => by rw [hret] at h; cases h) (by decide) (by decide) (fun fs hr => X2.ireturnOut hx hret rfl (by simp) (hb hby d7_25) hr) fun U eU hF => hΦ _ _ _ ?_ hF
  rw [eU, e2]
  show Q_rsb2_1c2 Z a ca b cb c0_ c1_ h0 n0 _ _ _
  exact ⟨rfl, N2, K2⟩

theorem ef_rsb2_1nl (m : MethodId) (x0 : Int32) : entryFrame m #[(.int x0)] 1 = mkF m 0 #[.val (.int x0)] [] := by first | (simp [entryFrame, mkF, argsToLocals, Value.category]; done) | rfl
def Q_rsb2_1nl (Z : State)  (h0 : Heap) (n0 : Nat) (v : Option Value) (h : Heap) (L : List Loc) : Prop := v = some (.int (4 : Int32)) ∧ Fr n0 L ∧ h = h0
set_option maxRecDepth 65536 in
set_option maxHeartbeats 40000000 in
theorem rsb2_1nl (l : Launch) (Z : State) (a0 : Array Value) (hw : ∀ d ∈ tables_1, d.before a0 Z = true) (ws : List Jvm.Cond)  (h0 : Heap) (n0 : Nat) (Z0 : n0 ≤ h0.size)  :
    OCon l Z (⟨"java/lang/StringUTF16", "newBytesLength", "(I)I"⟩ : MethodName) jdk_52_method_3_code 1 (some .int) ws ({ frames := 0, cells := 0, slots := 0, locals := 0 } : Room) #[(.int (2 : Int32))] h0 (Q_rsb2_1nl Z  h0 n0) := by
  refine OCon.of (plainFor_of_name pn1) ?_
  intro p e s m below meth c s₁ Φ X0 hx hby hml hown hnm hret hlk hZ e0 hΦ
  have N0 := Fr.nil n0
  refine OGo.st (fun _ kz => castTop (ef_rsb2_1nl m (2 : Int32)) kz) ?_
  show OG p e below Φ s₁ m 0 #[iv 2] []
  refine OGo.st (fun _ kz => XS.iloadN X0.here hx rfl (hb hby d21_0) rfl kz) ?_
  show OG p e below Φ s₁ m 1 #[iv 2] [(.int 2)]
  refine OGo.st (fun _ kz => XS.ifYes X0.here hx rfl (pc0 := 1) (pc' := 12) rfl (hb hby d21_1) rfl (XT.i0_ge_t (by decide)) (by decide) (by decide) kz) ?_
  show OG p e below Φ s₁ m 12 #[iv 2] []
  refine OGo.st (fun _ kz => XS.iloadN X0.here hx rfl (hb hby d21_12) rfl kz) ?_
  show OG p e below Φ s₁ m 13 #[iv 2] [(.int 2)]
  refine OGo.st (fun _ kz => X0.ldcI hx hown (mvT hZ (ow113 hw)) rfl (hb hby d21_13) kz) ?_
  show OG p e below Φ s₁ m 15 #[iv 2] [(.int 1073741823), (.int 2)]
  refine OGo.st (fun _ kz => XS.icmpYes X0.here hx rfl (pc0 := 15) (pc' := 55) rfl (hb hby d21_15) rfl (XT.ii_lt_t (by decide)) (by decide) (by decide) kz) ?_
  show OG p e below Φ s₁ m 55 #[iv 2] []
  refine OGo.st (fun _ kz => XS.iloadN X0.here hx rfl (hb hby d21_55) rfl kz) ?_
  show OG p e below Φ s₁ m 56 #[iv 2] [(.int 2)]
  refine OGo.st (fun _ kz => XS.iconst X0.here hx rfl (hb hby d21_56) kz) ?_
  show OG p e below Φ s₁ m 57 #[iv 2] [(.int 1), (.int 2)]
  refine OGo.st (fun _ kz => XT.ishl X0.here hx rfl (hb hby d21_57) rfl kz) ?_
  show OG p e below Φ s₁ m 58 #[iv 2] [(.int 4)]
  refine OGo.fin X0 hlk (v := (some (.int 4))) (fun h => by rw [hret] at h; cases h) (by decide) (by decide) (fun fs hr => X0.ireturnOut hx hret rfl (by simp) (hb hby d21_58) hr) fun U eU hF => hΦ _ _ _ ?_ hF
  rw [eU, e0]
  show Q_rsb2_1nl Z  h0 n0 _ _ _
  exact ⟨rfl, N0, rfl⟩

theorem ef_rsb2_1nf (m : MethodId) (x0 : Int32) : entryFrame m #[(.int x0)] 1 = mkF m 0 #[.val (.int x0)] [] := by first | (simp [entryFrame, mkF, argsToLocals, Value.category]; done) | rfl
def Q_rsb2_1nf (Z : State)  (h0 : Heap) (n0 : Nat) (v : Option Value) (h : Heap) (L : List Loc) : Prop := ∃ b cb, v = some (.ref b) ∧ Fr n0 L ∧ Keep h0 h [] ∧ Arv Z h b cb .byte (4 : Int32) [(.int (0 : Int32)), (.int (0 : Int32)), (.int (0 : Int32)), (.int (0 : Int32))] (.int (0 : Int32)) ∧ h0.size ≤ b
set_option maxRecDepth 65536 in
set_option maxHeartbeats 40000000 in
theorem rsb2_1nf (l : Launch) (Z : State) (a0 : Array Value) (hw : ∀ d ∈ tables_1, d.before a0 Z = true) (ws : List Jvm.Cond)  (h0 : Heap) (n0 : Nat) (Z0 : n0 ≤ h0.size)  :
    OCon l Z (⟨"java/lang/StringUTF16", "newBytesFor", "(I)[B"⟩ : MethodName) jdk_52_method_2_code 1 (some (.array .byte)) ws ({ frames := 1, cells := 1, slots := 4, locals := 12 } : Room) #[(.int (2 : Int32))] h0 (Q_rsb2_1nf Z  h0 n0) := by
  refine OCon.of (plainFor_of_name pn1) ?_
  intro p e s m below meth c s₁ Φ X0 hx hby hml hown hnm hret hlk hZ e0 hΦ
  have N0 := Fr.nil n0
  refine OGo.st (fun _ kz => castTop (ef_rsb2_1nf m (2 : Int32)) kz) ?_
  have K0 := Keep.refl h0 []
  show OG p e below Φ s₁ m 0 #[iv 2] []
  refine OGo.st (fun _ kz => XS.iloadN X0.here hx rfl (hb hby d20_0) rfl kz) ?_
  show OG p e below Φ s₁ m 1 #[iv 2] [(.int 2)]
  obtain ⟨_, T1, L1, X1, hQ1, st1⟩ := own_callSt X0 hx hZ hown (ow110 hw) (ow111 hw) (ow36 hw) (ow112 hw) (by decide) (rsb2_1nl l Z a0 hw []  h0 n0 Z0 ) e0 (W := 0) (by decide) (by decide) (by decide) (by decide) (pc := 1) (ls := #[iv 2]) (stk := [(.int 2)]) (by rw [hml]; rfl) (argsL := [(.int 2)]) (rest := []) (lenOf pd4 rfl) rfl rfl (Nat.le_of_eq rfl) (hb hby d20_1)
  obtain ⟨rfl, Nq1, e1⟩ := hQ1
  have N1 := Fr.app N0 Nq1
  refine OGo.st st1 ?_
  show OG p e below Φ T1 m 4 #[iv 2] [(.int 4)]
  obtain ⟨T2, h2, c2, X2, e2, E2, Ar2, st2⟩ := newP (aty := .byte) X1 hx hZ (ow26 hw) e1 (g := (mkF m 4 #[iv 2] [(.int 4)])) rfl (hb hby d20_4) rfl (by decide) (cap := 4) (by decide) (by decide) (by decide) (by decide)
  obtain ⟨b2, g2⟩ : ∃ z, z = h0.size := ⟨_, rfl⟩
  rw [← g2] at Ar2 st2
  have gb2 : n0 ≤ b2 := Nat.le_trans Z0 (Nat.le_of_eq g2.symm)
  have sz2 : h0.size ≤ b2 := Nat.le_trans K0.1 (Nat.le_of_eq g2.symm)
  have K2 := K0.ext E2
  have Zs2 : n0 ≤ h2.size := Nat.le_trans Z0 E2.1
  have V2 : Arv Z h2 b2 c2 .byte (4 : Int32) [(.int (0 : Int32)), (.int (0 : Int32)), (.int (0 : Int32)), (.int (0 : Int32))] (.int (0 : Int32)) := (Arv.new Ar2 (by decide)).pad (pad_rep [] _ 4)
  refine OGo.st st2 ?_
  show OG p e below Φ T2 m 6 #[iv 2] [(.ref b2)]
  refine OGo.fin X2 hlk (v := (some (.ref b2))) (fun h => by rw [hret] at h; cases h) (by decide) (by decide) (fun fs hr => X2.areturnOut hx rfl hret rfl (hb hby d20_6) hr) fun U eU hF => hΦ _ _ _ ?_ hF
  rw [eU, e2]
  show Q_rsb2_1nf Z  h0 n0 _ _ _
  exact ⟨_, _, rfl, N1, K2, V2, sz2⟩

theorem ef_rsb2_1pc0 (m : MethodId) (x0 : Addr) (x1 : Int32) (x2 : Int32) : entryFrame m #[(.ref x0), (.int x1), (.int x2)] 3 = mkF m 0 #[.val (.ref x0), .val (.int x1), .val (.int x2)] [] := by first | (simp [entryFrame, mkF, argsToLocals, Value.category]; done) | rfl
def Q_rsb2_1pc0 (Z : State) (b : Addr) (cb : ClassId) (c0_ : Int32) (c1_ : Int32) (h0 : Heap) (n0 : Nat) (v : Option Value) (h : Heap) (L : List Loc) : Prop := v = none ∧ Fr n0 L ∧ Keep h0 h [b] ∧ Arv Z h b cb .byte (4 : Int32) [(.int (nar .byte (c0_ >>> (0 &&& 31)).toInt8.toInt32)), (.int (nar .byte (c0_ >>> (8 &&& 31)).toInt8.toInt32)), (.int (0 : Int32)), (.int (0 : Int32))] (.int (0 : Int32))
set_option maxRecDepth 65536 in
set_option maxHeartbeats 40000000 in
theorem rsb2_1pc0 (l : Launch) (Z : State) (a0 : Array Value) (hw : ∀ d ∈ tables_1, d.before a0 Z = true) (ws : List Jvm.Cond) (b : Addr) (cb : ClassId) (c0_ : Int32) (c1_ : Int32) (h0 : Heap) (n0 : Nat) (Z0 : n0 ≤ h0.size) (V_b : Arv Z h0 b cb .byte (4 : Int32) [(.int (0 : Int32)), (.int (0 : Int32)), (.int (0 : Int32)), (.int (0 : Int32))] (.int (0 : Int32))) (g_b : n0 ≤ b) (S_ad : Sta Z h0 "java/lang/StringUTF16" "$assertionsDisabled" "Z" (.int (1 : Int32))) (S_hb : Sta Z h0 "java/lang/StringUTF16" "HI_BYTE_SHIFT" "I" (.int (0 : Int32))) (S_lb : Sta Z h0 "java/lang/StringUTF16" "LO_BYTE_SHIFT" "I" (.int (8 : Int32))) :
    OCon l Z (⟨"java/lang/StringUTF16", "putChar", "([BII)V"⟩ : MethodName) jdk_52_method_4_code 3 none ws ({ frames := 0, cells := 0, slots := 0, locals := 0 } : Room) #[(.ref b), (.int (0 : Int32)), (.int c0_)] h0 (Q_rsb2_1pc0 Z b cb c0_ c1_ h0 n0) := by
  refine OCon.of (plainFor_of_name pn1) ?_
  intro p e s m below meth c s₁ Φ X0 hx hby hml hown hnm hret hlk hZ e0 hΦ
  have N0 := Fr.nil n0
  refine OGo.st (fun _ kz => castTop (ef_rsb2_1pc0 m b (0 : Int32) c0_) kz) ?_
  have K0 := Keep.refl h0 [b]
  show OG p e below Φ s₁ m 0 #[rv b, iv 0, iv c0_] []
  obtain ⟨T1, X1, e1, st1⟩ := getS2 X0 hx hZ hown (host := "") (Or.inl (ow117 hw)) Via.refl e0 S_ad (g := (mkF m 0 #[rv b, iv 0, iv c0_] [])) rfl (hb hby d22_0)
  refine OGo.st st1 ?_
  show OG p e below Φ T1 m 3 #[rv b, iv 0, iv c0_] [(.int 1)]
  refine OGo.st (fun _ kz => XS.ifYes X1.here hx rfl (pc0 := 3) (pc' := 28) rfl (hb hby d22_3) rfl (XT.i0_ne_t (by decide)) (by decide) (by decide) kz) ?_
  show OG p e below Φ T1 m 28 #[rv b, iv 0, iv c0_] []
  refine OGo.st (fun _ kz => XS.iloadN X1.here hx rfl (hb hby d22_28) rfl kz) ?_
  show OG p e below Φ T1 m 29 #[rv b, iv 0, iv c0_] [(.int 0)]
  refine OGo.st (fun _ kz => XS.iconst X1.here hx rfl (hb hby d22_29) kz) ?_
  show OG p e below Φ T1 m 30 #[rv b, iv 0, iv c0_] [(.int 1), (.int 0)]
  refine OGo.st (fun _ kz => XT.ishl X1.here hx rfl (hb hby d22_30) rfl kz) ?_
  show OG p e below Φ T1 m 31 #[rv b, iv 0, iv c0_] [(.int 0)]
  refine OGo.st (fun _ kz => XS.istoreN X1.here hx rfl (hb hby d22_31) rfl (l' := #[rv b, iv 0, iv c0_]) rfl kz) ?_
  show OG p e below Φ T1 m 32 #[rv b, iv 0, iv c0_] []
  refine OGo.st (fun _ kz => XS.aloadN X1.here hx rfl (hb hby d22_32) rfl rfl kz) ?_
  show OG p e below Φ T1 m 33 #[rv b, iv 0, iv c0_] [(.ref b)]
  refine OGo.st (fun _ kz => XS.iloadN X1.here hx rfl (hb hby d22_33) rfl kz) ?_
  show OG p e below Φ T1 m 34 #[rv b, iv 0, iv c0_] [(.int 0), (.ref b)]
  refine OGo.st (fun _ kz => XS.iinc X1.here hx rfl (hb hby d22_34) rfl (l' := #[rv b, iv ((0 : Int32) + (1 : Int32)), iv c0_]) rfl kz) ?_
  show OG p e below Φ T1 m 37 #[rv b, iv 1, iv c0_] [(.int 0), (.ref b)]
  refine OGo.st (fun _ kz => XS.iloadN X1.here hx rfl (hb hby d22_37) rfl kz) ?_
  show OG p e below Φ T1 m 38 #[rv b, iv 1, iv c0_] [(.int c0_), (.int 0), (.ref b)]
  obtain ⟨T2, X2, e2, st2⟩ := getS2 X1 hx hZ hown (host := "") (Or.inl (ow118 hw)) Via.refl e1 S_hb (g := (mkF m 38 #[rv b, iv 1, iv c0_] [(.int c0_), (.int 0), (.ref b)])) rfl (hb hby d22_38)
  refine OGo.st st2 ?_
  show OG p e below Φ T2 m 41 #[rv b, iv 1, iv c0_] [(.int 0), (.int c0_), (.int 0), (.ref b)]
  refine OGo.st (fun _ kz => XT.ishr X2.here hx rfl (hb hby d22_41) rfl kz) ?_
  show OG p e below Φ T2 m 42 #[rv b, iv 1, iv c0_] [(.int (c0_ >>> ((0 : Int32) &&& 31))), (.int 0), (.ref b)]
  refine OGo.st (fun _ kz => XT.i2b X2.here hx rfl (hb hby d22_42) rfl kz) ?_
  show OG p e below Φ T2 m 43 #[rv b, iv 1, iv c0_] [(.int ((c0_ >>> ((0 : Int32) &&& 31)).toInt8.toInt32)), (.int 0), (.ref b)]
  obtain ⟨cl3, Aq3, Cq3, S3, M3, H3, G3⟩ := id V_b
  have in3 : ¬ ((0 : Int32) < 0 ∨ cl3.slots.size ≤ (0 : Int32).toNatClampNeg) := inb_of S3 ⟨by decide, by decide⟩
  obtain ⟨T3, h3, X3, e3, W3, st3⟩ := stB X2 hx hZ e2 Aq3 in3 (g := (mkF m 43 #[rv b, iv 1, iv c0_] [(.int ((c0_ >>> ((0 : Int32) &&& 31)).toInt8.toInt32)), (.int 0), (.ref b)])) rfl rfl (hb hby d22_43)
  have W3 : Wr h0 h3 b (0 : Int32).toNatClampNeg (.int (nar .byte ((c0_ >>> ((0 : Int32) &&& 31)).toInt8.toInt32))) := W3
  have F4 := S_ad.wr W3
  have F5 := S_hb.wr W3
  have F6 := S_lb.wr W3
  have V3 : Arv Z h3 b cb .byte (4 : Int32) [(.int (nar .byte ((c0_ >>> ((0 : Int32) &&& 31)).toInt8.toInt32))), (.int (0 : Int32)), (.int (0 : Int32)), (.int (0 : Int32))] (.int (0 : Int32)) := Arv.set Aq3 Cq3 S3 M3 H3 G3 (fits_nar_byte _) W3 0 (by decide) (by show 0 < 4; decide)
  have K3 := K0.wr W3 (Or.inl (List.mem_of_getElem? (i := 0) rfl))
  have N3 := Fr.snoc X3 N0 g_b
  have Zs3 : n0 ≤ h3.size := by rw [W3.size]; exact Z0
  refine OGo.st st3 ?_
  show OG p e below Φ T3 m 44 #[rv b, iv 1, iv c0_] []
  refine OGo.st (fun _ kz => XS.aloadN X3.here hx rfl (hb hby d22_44) rfl rfl kz) ?_
  show OG p e below Φ T3 m 45 #[rv b, iv 1, iv c0_] [(.ref b)]
  refine OGo.st (fun _ kz => XS.iloadN X3.here hx rfl (hb hby d22_45) rfl kz) ?_
  show OG p e below Φ T3 m 46 #[rv b, iv 1, iv c0_] [(.int 1), (.ref b)]
  refine OGo.st (fun _ kz => XS.iloadN X3.here hx rfl (hb hby d22_46) rfl kz) ?_
  show OG p e below Φ T3 m 47 #[rv b, iv 1, iv c0_] [(.int c0_), (.int 1), (.ref b)]
  obtain ⟨T7, X7, e7, st7⟩ := getS2 X3 hx hZ hown (host := "") (Or.inl (ow119 hw)) Via.refl e3 F6 (g := (mkF m 47 #[rv b, iv 1, iv c0_] [(.int c0_), (.int 1), (.ref b)])) rfl (hb hby d22_47)
  refine OGo.st st7 ?_
  show OG p e below Φ T7 m 50 #[rv b, iv 1, iv c0_] [(.int 8), (.int c0_), (.int 1), (.ref b)]
  refine OGo.st (fun _ kz => XT.ishr X7.here hx rfl (hb hby d22_50) rfl kz) ?_
  show OG p e below Φ T7 m 51 #[rv b, iv 1, iv c0_] [(.int (c0_ >>> ((8 : Int32) &&& 31))), (.int 1), (.ref b)]
  refine OGo.st (fun _ kz => XT.i2b X7.here hx rfl (hb hby d22_51) rfl kz) ?_
  show OG p e below Φ T7 m 52 #[rv b, iv 1, iv c0_] [(.int ((c0_ >>> ((8 : Int32) &&& 31)).toInt8.toInt32)), (.int 1), (.ref b)]
  obtain ⟨cl8, Aq8, Cq8, S8, M8, H8, G8⟩ := id V3
  have in8 : ¬ ((1 : Int32) < 0 ∨ cl8.slots.size ≤ (1 : Int32).toNatClampNeg) := inb_of S8 ⟨by decide, by decide⟩
  obtain ⟨T8, h8, X8, e8, W8, st8⟩ := stB X7 hx hZ e7 Aq8 in8 (g := (mkF m 52 #[rv b, iv 1, iv c0_] [(.int ((c0_ >>> ((8 : Int32) &&& 31)).toInt8.toInt32)), (.int 1), (.ref b)])) rfl rfl (hb hby d22_52)
  have W8 : Wr h3 h8 b (1 : Int32).toNatClampNeg (.int (nar .byte ((c0_ >>> ((8 : Int32) &&& 31)).toInt8.toInt32))) := W8
  have F9 := F4.wr W8
  have F10 := F5.wr W8
  have F11 := F6.wr W8
  have V8 : Arv Z h8 b cb .byte (4 : Int32) [(.int (nar .byte ((c0_ >>> ((0 : Int32) &&& 31)).toInt8.toInt32))), (.int (nar .byte ((c0_ >>> ((8 : Int32) &&& 31)).toInt8.toInt32))), (.int (0 : Int32)), (.int (0 : Int32))] (.int (0 : Int32)) := Arv.set Aq8 Cq8 S8 M8 H8 G8 (fits_nar_byte _) W8 1 (by decide) (by show 1 < 4; decide)
  have K8 := K3.wr W8 (Or.inl (List.mem_of_getElem? (i := 0) rfl))
  have N8 := Fr.snoc X8 N3 g_b
  have Zs8 : n0 ≤ h8.size := by rw [W8.size]; exact Zs3
  refine OGo.st st8 ?_
  show OG p e below Φ T8 m 53 #[rv b, iv 1, iv c0_] []
  refine OGo.fin X8 hlk (v := none) (fun _ => rfl) (by decide) (by decide) (fun fs hr => X8.returnOut hx hret (hb hby d22_53) hr) fun U eU hF => hΦ _ _ _ ?_ hF
  rw [eU, e8]
  show Q_rsb2_1pc0 Z b cb c0_ c1_ h0 n0 _ _ _
  exact ⟨rfl, N8, K8, V8⟩

theorem ef_rsb2_1pc1 (m : MethodId) (x0 : Addr) (x1 : Int32) (x2 : Int32) : entryFrame m #[(.ref x0), (.int x1), (.int x2)] 3 = mkF m 0 #[.val (.ref x0), .val (.int x1), .val (.int x2)] [] := by first | (simp [entryFrame, mkF, argsToLocals, Value.category]; done) | rfl
def Q_rsb2_1pc1 (Z : State) (b : Addr) (cb : ClassId) (c0_ : Int32) (c1_ : Int32) (h0 : Heap) (n0 : Nat) (v : Option Value) (h : Heap) (L : List Loc) : Prop := v = none ∧ Fr n0 L ∧ Keep h0 h [b] ∧ Arv Z h b cb .byte (4 : Int32) [(.int (nar .byte (c0_ >>> (0 &&& 31)).toInt8.toInt32)), (.int (nar .byte (c0_ >>> (8 &&& 31)).toInt8.toInt32)), (.int (nar .byte (c1_ >>> (0 &&& 31)).toInt8.toInt32)), (.int (nar .byte (c1_ >>> (8 &&& 31)).toInt8.toInt32))] (.int (0 : Int32))
set_option maxRecDepth 65536 in
set_option maxHeartbeats 40000000 in
theorem rsb2_1pc1 (l : Launch) (Z : State) (a0 : Array Value) (hw : ∀ d ∈ tables_1, d.before a0 Z = true) (ws : List Jvm.Cond) (b : Addr) (cb : ClassId) (c0_ : Int32) (c1_ : Int32) (h0 : Heap) (n0 : Nat) (Z0 : n0 ≤ h0.size) (V_b : Arv Z h0 b cb .byte (4 : Int32) [(.int (nar .byte (c0_ >>> (0 &&& 31)).toInt8.toInt32)), (.int (nar .byte (c0_ >>> (8 &&& 31)).toInt8.toInt32)), (.int (0 : Int32)), (.int (0 : Int32))] (.int (0 : Int32))) (g_b : n0 ≤ b) (S_ad : Sta Z h0 "java/lang/StringUTF16" "$assertionsDisabled" "Z" (.int (1 : Int32))) (S_hb : Sta Z h0 "java/lang/StringUTF16" "HI_BYTE_SHIFT" "I" (.int (0 : Int32))) (S_lb : Sta Z h0 "java/lang/StringUTF16" "LO_BYTE_SHIFT" "I" (.int (8 : Int32))) :
    OCon l Z (⟨"java/lang/StringUTF16", "putChar", "([BII)V"⟩ : MethodName) jdk_52_method_4_code 3 none ws ({ frames := 0, cells := 0, slots := 0, locals := 0 } : Room) #[(.ref b), (.int (1 : Int32)), (.int c1_)] h0 (Q_rsb2_1pc1 Z b cb c0_ c1_ h0 n0) := by
  refine OCon.of (plainFor_of_name pn1) ?_
  intro p e s m below meth c s₁ Φ X0 hx hby hml hown hnm hret hlk hZ e0 hΦ
  have N0 := Fr.nil n0
  refine OGo.st (fun _ kz => castTop (ef_rsb2_1pc1 m b (1 : Int32) c1_) kz) ?_
  have K0 := Keep.refl h0 [b]
  show OG p e below Φ s₁ m 0 #[rv b, iv 1, iv c1_] []
  obtain ⟨T1, X1, e1, st1⟩ := getS2 X0 hx hZ hown (host := "") (Or.inl (ow117 hw)) Via.refl e0 S_ad (g := (mkF m 0 #[rv b, iv 1, iv c1_] [])) rfl (hb hby d22_0)
  refine OGo.st st1 ?_
  show OG p e below Φ T1 m 3 #[rv b, iv 1, iv c1_] [(.int 1)]
  refine OGo.st (fun _ kz => XS.ifYes X1.here hx rfl (pc0 := 3) (pc' := 28) rfl (hb hby d22_3) rfl (XT.i0_ne_t (by decide)) (by decide) (by decide) kz) ?_
  show OG p e below Φ T1 m 28 #[rv b, iv 1, iv c1_] []
  refine OGo.st (fun _ kz => XS.iloadN X1.here hx rfl (hb hby d22_28) rfl kz) ?_
  show OG p e below Φ T1 m 29 #[rv b, iv 1, iv c1_] [(.int 1)]
  refine OGo.st (fun _ kz => XS.iconst X1.here hx rfl (hb hby d22_29) kz) ?_
  show OG p e below Φ T1 m 30 #[rv b, iv 1, iv c1_] [(.int 1), (.int 1)]
  refine OGo.st (fun _ kz => XT.ishl X1.here hx rfl (hb hby d22_30) rfl kz) ?_
  show OG p e below Φ T1 m 31 #[rv b, iv 1, iv c1_] [(.int 2)]
  refine OGo.st (fun _ kz => XS.istoreN X1.here hx rfl (hb hby d22_31) rfl (l' := #[rv b, iv 2, iv c1_]) rfl kz) ?_
  show OG p e below Φ T1 m 32 #[rv b, iv 2, iv c1_] []
  refine OGo.st (fun _ kz => XS.aloadN X1.here hx rfl (hb hby d22_32) rfl rfl kz) ?_
  show OG p e below Φ T1 m 33 #[rv b, iv 2, iv c1_] [(.ref b)]
  refine OGo.st (fun _ kz => XS.iloadN X1.here hx rfl (hb hby d22_33) rfl kz) ?_
  show OG p e below Φ T1 m 34 #[rv b, iv 2, iv c1_] [(.int 2), (.ref b)]
  refine OGo.st (fun _ kz => XS.iinc X1.here hx rfl (hb hby d22_34) rfl (l' := #[rv b, iv ((2 : Int32) + (1 : Int32)), iv c1_]) rfl kz) ?_
  show OG p e below Φ T1 m 37 #[rv b, iv 3, iv c1_] [(.int 2), (.ref b)]
  refine OGo.st (fun _ kz => XS.iloadN X1.here hx rfl (hb hby d22_37) rfl kz) ?_
  show OG p e below Φ T1 m 38 #[rv b, iv 3, iv c1_] [(.int c1_), (.int 2), (.ref b)]
  obtain ⟨T2, X2, e2, st2⟩ := getS2 X1 hx hZ hown (host := "") (Or.inl (ow118 hw)) Via.refl e1 S_hb (g := (mkF m 38 #[rv b, iv 3, iv c1_] [(.int c1_), (.int 2), (.ref b)])) rfl (hb hby d22_38)
  refine OGo.st st2 ?_
  show OG p e below Φ T2 m 41 #[rv b, iv 3, iv c1_] [(.int 0), (.int c1_), (.int 2), (.ref b)]
  refine OGo.st (fun _ kz => XT.ishr X2.here hx rfl (hb hby d22_41) rfl kz) ?_
  show OG p e below Φ T2 m 42 #[rv b, iv 3, iv c1_] [(.int (c1_ >>> ((0 : Int32) &&& 31))), (.int 2), (.ref b)]
  refine OGo.st (fun _ kz => XT.i2b X2.here hx rfl (hb hby d22_42) rfl kz) ?_
  show OG p e below Φ T2 m 43 #[rv b, iv 3, iv c1_] [(.int ((c1_ >>> ((0 : Int32) &&& 31)).toInt8.toInt32)), (.int 2), (.ref b)]
  obtain ⟨cl3, Aq3, Cq3, S3, M3, H3, G3⟩ := id V_b
  have in3 : ¬ ((2 : Int32) < 0 ∨ cl3.slots.size ≤ (2 : Int32).toNatClampNeg) := inb_of S3 ⟨by decide, by decide⟩
  obtain ⟨T3, h3, X3, e3, W3, st3⟩ := stB X2 hx hZ e2 Aq3 in3 (g := (mkF m 43 #[rv b, iv 3, iv c1_] [(.int ((c1_ >>> ((0 : Int32) &&& 31)).toInt8.toInt32)), (.int 2), (.ref b)])) rfl rfl (hb hby d22_43)
  have W3 : Wr h0 h3 b (2 : Int32).toNatClampNeg (.int (nar .byte ((c1_ >>> ((0 : Int32) &&& 31)).toInt8.toInt32))) := W3
  have F4 := S_ad.wr W3
  have F5 := S_hb.wr W3
  have F6 := S_lb.wr W3
  have V3 : Arv Z h3 b cb .byte (4 : Int32) [(.int (nar .byte (c0_ >>> (0 &&& 31)).toInt8.toInt32)), (.int (nar .byte (c0_ >>> (8 &&& 31)).toInt8.toInt32)), (.int (nar .byte ((c1_ >>> ((0 : Int32) &&& 31)).toInt8.toInt32))), (.int (0 : Int32))] (.int (0 : Int32)) := Arv.set Aq3 Cq3 S3 M3 H3 G3 (fits_nar_byte _) W3 2 (by decide) (by show 2 < 4; decide)
  have K3 := K0.wr W3 (Or.inl (List.mem_of_getElem? (i := 0) rfl))
  have N3 := Fr.snoc X3 N0 g_b
  have Zs3 : n0 ≤ h3.size := by rw [W3.size]; exact Z0
  refine OGo.st st3 ?_
  show OG p e below Φ T3 m 44 #[rv b, iv 3, iv c1_] []
  refine OGo.st (fun _ kz => XS.aloadN X3.here hx rfl (hb hby d22_44) rfl rfl kz) ?_
  show OG p e below Φ T3 m 45 #[rv b, iv 3, iv c1_] [(.ref b)]
  refine OGo.st (fun _ kz => XS.iloadN X3.here hx rfl (hb hby d22_45) rfl kz) ?_
  show OG p e below Φ T3 m 46 #[rv b, iv 3, iv c1_] [(.int 3), (.ref b)]
  refine OGo.st (fun _ kz => XS.iloadN X3.here hx rfl (hb hby d22_46) rfl kz) ?_
  show OG p e below Φ T3 m 47 #[rv b, iv 3, iv c1_] [(.int c1_), (.int 3), (.ref b)]
  obtain ⟨T7, X7, e7, st7⟩ := getS2 X3 hx hZ hown (host := "") (Or.inl (ow119 hw)) Via.refl e3 F6 (g := (mkF m 47 #[rv b, iv 3, iv c1_] [(.int c1_), (.int 3), (.ref b)])) rfl (hb hby d22_47)
  refine OGo.st st7 ?_
  show OG p e below Φ T7 m 50 #[rv b, iv 3, iv c1_] [(.int 8), (.int c1_), (.int 3), (.ref b)]
  refine OGo.st (fun _ kz => XT.ishr X7.here hx rfl (hb hby d22_50) rfl kz) ?_
  show OG p e below Φ T7 m 51 #[rv b, iv 3, iv c1_] [(.int (c1_ >>> ((8 : Int32) &&& 31))), (.int 3), (.ref b)]
  refine OGo.st (fun _ kz => XT.i2b X7.here hx rfl (hb hby d22_51) rfl kz) ?_
  show OG p e below Φ T7 m 52 #[rv b, iv 3, iv c1_] [(.int ((c1_ >>> ((8 : Int32) &&& 31)).toInt8.toInt32)), (.int 3), (.ref b)]
  obtain ⟨cl8, Aq8, Cq8, S8, M8, H8, G8⟩ := id V3
  have in8 : ¬ ((3 : Int32) < 0 ∨ cl8.slots.size ≤ (3 : Int32).toNatClampNeg) := inb_of S8 ⟨by decide, by decide⟩
  obtain ⟨T8, h8, X8, e8, W8, st8⟩ := stB X7 hx hZ e7 Aq8 in8 (g := (mkF m 52 #[rv b, iv 3, iv c1_] [(.int ((c1_ >>> ((8 : Int32) &&& 31)).toInt8.toInt32)), (.int 3), (.ref b)])) rfl rfl (hb hby d22_52)
  have W8 : Wr h3 h8 b (3 : Int32).toNatClampNeg (.int (nar .byte ((c1_ >>> ((8 : Int32) &&& 31)).toInt8.toInt32))) := W8
  have F9 := F4.wr W8
  have F10 := F5.wr W8
  have F11 := F6.wr W8
  have V8 : Arv Z h8 b cb .byte (4 : Int32) [(.int (nar .byte (c0_ >>> (0 &&& 31)).toInt8.toInt32)), (.int (nar .byte (c0_ >>> (8 &&& 31)).toInt8.toInt32)), (.int (nar .byte ((c1_ >>> ((0 : Int32) &&& 31)).toInt8.toInt32))), (.int (nar .byte ((c1_ >>> ((8 : Int32) &&& 31)).toInt8.toInt32)))] (.int (0 : Int32)) := Arv.set Aq8 Cq8 S8 M8 H8 G8 (fits_nar_byte _) W8 3 (by decide) (by show 3 < 4; decide)
  have K8 := K3.wr W8 (Or.inl (List.mem_of_getElem? (i := 0) rfl))
  have N8 := Fr.snoc X8 N3 g_b
  have Zs8 : n0 ≤ h8.size := by rw [W8.size]; exact Zs3
  refine OGo.st st8 ?_
  show OG p e below Φ T8 m 53 #[rv b, iv 3, iv c1_] []
  refine OGo.fin X8 hlk (v := none) (fun _ => rfl) (by decide) (by decide) (fun fs hr => X8.returnOut hx hret (hb hby d22_53) hr) fun U eU hF => hΦ _ _ _ ?_ hF
  rw [eU, e8]
  show Q_rsb2_1pc1 Z b cb c0_ c1_ h0 n0 _ _ _
  exact ⟨rfl, N8, K8, V8⟩

theorem ef_rsb2_1tb (m : MethodId) (x0 : Addr) (x1 : Int32) (x2 : Int32) : entryFrame m #[(.ref x0), (.int x1), (.int x2)] 5 = mkF m 0 #[.val (.ref x0), .val (.int x1), .val (.int x2), .unset, .unset] [] := by first | (simp [entryFrame, mkF, argsToLocals, Value.category]; done) | rfl
def Q_rsb2_1tb (Z : State) (a : Addr) (ca : ClassId) (c0_ : Int32) (c1_ : Int32) (h0 : Heap) (n0 : Nat) (v : Option Value) (h : Heap) (L : List Loc) : Prop := ∃ b cb, v = some (.ref b) ∧ Fr n0 L ∧ Keep h0 h [] ∧ Arv Z h b cb .byte (4 : Int32) [(.int (nar .byte (c0_ >>> (0 &&& 31)).toInt8.toInt32)), (.int (nar .byte (c0_ >>> (8 &&& 31)).toInt8.toInt32)), (.int (nar .byte (c1_ >>> (0 &&& 31)).toInt8.toInt32)), (.int (nar .byte (c1_ >>> (8 &&& 31)).toInt8.toInt32))] (.int (0 : Int32)) ∧ h0.size ≤ b
set_option maxRecDepth 65536 in
set_option maxHeartbeats 40000000 in
theorem rsb2_1tb (l : Launch) (Z : State) (a0 : Array Value) (hw : ∀ d ∈ tables_1, d.before a0 Z = true) (ws : List Jvm.Cond) (a : Addr) (ca : ClassId) (c0_ : Int32) (c1_ : Int32) (h0 : Heap) (n0 : Nat) (Z0 : n0 ≤ h0.size) (V_a : Arv Z h0 a ca .char (2 : Int32) [(.int c0_), (.int c1_)] (.int (0 : Int32))) (O_0 : Old Z n0 h0) (S_ad : Sta Z Z.heap "java/lang/StringUTF16" "$assertionsDisabled" "Z" (.int (1 : Int32))) (S_hb : Sta Z Z.heap "java/lang/StringUTF16" "HI_BYTE_SHIFT" "I" (.int (0 : Int32))) (S_lb : Sta Z Z.heap "java/lang/StringUTF16" "LO_BYTE_SHIFT" "I" (.int (8 : Int32))) :
    OCon l Z (⟨"java/lang/StringUTF16", "toBytes", "([CII)[B"⟩ : MethodName) jdk_52_method_14_code 5 (some (.array .byte)) ws ({ frames := 2, cells := 1, slots := 4, locals := 24 } : Room) #[(.ref a), (.int (0 : Int32)), (.int (2 : Int32))] h0 (Q_rsb2_1tb Z a ca c0_ c1_ h0 n0) := by
  refine OCon.of (plainFor_of_name pn1) ?_
  intro p e s m below meth c s₁ Φ X0 hx hby hml hown hnm hret hlk hZ e0 hΦ
  have N0 := Fr.nil n0
  refine OGo.st (fun _ kz => castTop (ef_rsb2_1tb m a (0 : Int32) (2 : Int32)) kz) ?_
  have K0 := Keep.refl h0 []
  show OG p e below Φ s₁ m 0 #[rv a, iv 0, iv 2, .unset, .unset] []
  refine OGo.st (fun _ kz => XS.iloadN X0.here hx rfl (hb hby d19_0) rfl kz) ?_
  show OG p e below Φ s₁ m 1 #[rv a, iv 0, iv 2, .unset, .unset] [(.int 2)]
  obtain ⟨_, T1, L1, X1, hQ1, st1⟩ := own_callSt X0 hx hZ hown (ow107 hw) (ow108 hw) (ow36 hw) (ow109 hw) (by decide) (rsb2_1nf l Z a0 hw []  h0 n0 Z0 ) e0 (W := 0) (by decide) (by decide) (by decide) (by decide) (pc := 1) (ls := #[rv a, iv 0, iv 2, .unset, .unset]) (stk := [(.int 2)]) (by rw [hml]; rfl) (argsL := [(.int 2)]) (rest := []) (lenOf pd5 rfl) rfl rfl (Nat.le_of_eq rfl) (hb hby d19_1)
  obtain ⟨b1, cb1, rfl, Nq1, Kq1, Vq1, hz1⟩ := hQ1
  have nq1_a : a ≠ b1 := Nat.ne_of_lt (Nat.lt_of_lt_of_le V_a.lt hz1)
  have gq1 : n0 ≤ b1 := Nat.le_trans Z0 hz1
  have sq1 : h0.size ≤ b1 := Nat.le_trans K0.1 hz1
  have N1 := Fr.app N0 Nq1
  have Zs1 : n0 ≤ T1.heap.size := Nat.le_trans Z0 Kq1.1
  have F2 := V_a.keep Kq1 nin0
  have F3 := O_0.keep Kq1 all0
  have K1 := K0.trans Kq1 all0
  refine OGo.st st1 ?_
  show OG p e below Φ T1 m 4 #[rv a, iv 0, iv 2, .unset, .unset] [(.ref b1)]
  refine OGo.st (fun _ kz => XS.astoreN X1.here hx rfl (hb hby d19_4) rfl rfl (l' := #[rv a, iv 0, iv 2, rv b1, .unset]) rfl kz) ?_
  show OG p e below Φ T1 m 5 #[rv a, iv 0, iv 2, rv b1, .unset] []
  refine OGo.st (fun _ kz => XS.iconst X1.here hx rfl (hb hby d19_5) kz) ?_
  show OG p e below Φ T1 m 6 #[rv a, iv 0, iv 2, rv b1, .unset] [(.int 0)]
  refine OGo.st (fun _ kz => XS.istore X1.here hx rfl (hb hby d19_6) rfl (l' := #[rv a, iv 0, iv 2, rv b1, iv 0]) rfl kz) ?_
  show OG p e below Φ T1 m 8 #[rv a, iv 0, iv 2, rv b1, iv 0] []
  refine OGo.st (fun _ kz => XS.iload X1.here hx rfl (hb hby d19_8) rfl kz) ?_
  show OG p e below Φ T1 m 10 #[rv a, iv 0, iv 2, rv b1, iv 0] [(.int 0)]
  refine OGo.st (fun _ kz => XS.iloadN X1.here hx rfl (hb hby d19_10) rfl kz) ?_
  show OG p e below Φ T1 m 11 #[rv a, iv 0, iv 2, rv b1, iv 0] [(.int 2), (.int 0)]
  refine OGo.st (fun _ kz => XS.icmpNo X1.here hx rfl (hb hby d19_11) rfl (XT.ii_ge_f (by decide)) kz) ?_
  show OG p e below Φ T1 m 14 #[rv a, iv 0, iv 2, rv b1, iv 0] []
  refine OGo.st (fun _ kz => XS.aloadN X1.here hx rfl (hb hby d19_14) rfl rfl kz) ?_
  show OG p e below Φ T1 m 15 #[rv a, iv 0, iv 2, rv b1, iv 0] [(.ref b1)]
  refine OGo.st (fun _ kz => XS.iload X1.here hx rfl (hb hby d19_15) rfl kz) ?_
  show OG p e below Φ T1 m 17 #[rv a, iv 0, iv 2, rv b1, iv 0] [(.int 0), (.ref b1)]
  refine OGo.st (fun _ kz => XS.aloadN X1.here hx rfl (hb hby d19_17) rfl rfl kz) ?_
  show OG p e below Φ T1 m 18 #[rv a, iv 0, iv 2, rv b1, iv 0] [(.ref a), (.int 0), (.ref b1)]
  refine OGo.st (fun _ kz => XS.iloadN X1.here hx rfl (hb hby d19_18) rfl kz) ?_
  show OG p e below Φ T1 m 19 #[rv a, iv 0, iv 2, rv b1, iv 0] [(.int 0), (.ref a), (.int 0), (.ref b1)]
  obtain ⟨cl4, Aq4, -, S4, M4, H4, -⟩ := id F2
  have in4 : ¬ ((0 : Int32) < 0 ∨ cl4.slots.size ≤ (0 : Int32).toNatClampNeg) := inb_of S4 ⟨by decide, by decide⟩
  have at4 : cl4.slots[(0 : Int32).toNatClampNeg]? = some (.int c0_) := H4.at in4 rfl
  refine OGo.st (fun _ kz => X1.caload hx Aq4.1 (State.isArrayOf_alike hZ.alike Aq4.2.1) Aq4.2.2 in4 at4 (g := (mkF m 19 #[rv a, iv 0, iv 2, rv b1, iv 0] [(.int 0), (.ref a), (.int 0), (.ref b1)])) rfl rfl (hb hby d19_19) _ kz) ?_
  show OG p e below Φ T1 m 20 #[rv a, iv 0, iv 2, rv b1, iv 0] [(.int c0_), (.int 0), (.ref b1)]
  obtain ⟨_, T5, L5, X5, hQ5, st5⟩ := own_callSt X1 hx hZ hown (ow114 hw) (ow115 hw) (ow36 hw) (ow116 hw) (by decide) (rsb2_1pc0 l Z a0 hw [] b1 cb1 c0_ c1_ T1.heap n0 Zs1 Vq1 gq1 (S_ad.ext F3.2) (S_hb.ext F3.2) (S_lb.ext F3.2)) rfl (W := 0) (by decide) (by decide) (by decide) (by decide) (pc := 20) (ls := #[rv a, iv 0, iv 2, rv b1, iv 0]) (stk := [(.int c0_), (.int 0), (.ref b1)]) (by rw [hml]; rfl) (argsL := [(.ref b1), (.int 0), (.int c0_)]) (rest := []) (lenOf pd6 rfl) rfl rfl (Nat.le_of_eq rfl) (hb hby d19_20)
  obtain ⟨rfl, Nq5, Kq5, Vq5⟩ := hQ5
  have N5 := Fr.app N1 Nq5
  have Zs5 : n0 ≤ T5.heap.size := Nat.le_trans Zs1 Kq5.1
  have F6 := F2.keep Kq5 (ninS nq1_a nin0)
  have F7 := F3.keep Kq5 (allS gq1 all0)
  have K5 := K1.trans Kq5 (allS (Or.inr sq1) all0)
  refine OGo.st st5 ?_
  show OG p e below Φ T5 m 23 #[rv a, iv 0, iv 2, rv b1, iv 0] []
  refine OGo.st (fun _ kz => XS.iinc X5.here hx rfl (hb hby d19_23) rfl (l' := #[rv a, iv ((0 : Int32) + (1 : Int32)), iv 2, rv b1, iv 0]) rfl kz) ?_
  show OG p e below Φ T5 m 26 #[rv a, iv 1, iv 2, rv b1, iv 0] []
  refine OGo.st (fun _ kz => XS.iinc X5.here hx rfl (hb hby d19_26) rfl (l' := #[rv a, iv 1, iv 2, rv b1, iv ((0 : Int32) + (1 : Int32))]) rfl kz) ?_
  show OG p e below Φ T5 m 29 #[rv a, iv 1, iv 2, rv b1, iv 1] []
  refine OGo.st (fun _ kz => XS.goto X5.here hx rfl (pc0 := 29) (pc' := 8) rfl (hb hby d19_29) (by decide) (by decide) kz) ?_
  show OG p e below Φ T5 m 8 #[rv a, iv 1, iv 2, rv b1, iv 1] []
  refine OGo.st (fun _ kz => XS.iload X5.here hx rfl (hb hby d19_8) rfl kz) ?_
  show OG p e below Φ T5 m 10 #[rv a, iv 1, iv 2, rv b1, iv 1] [(.int 1)]
  refine OGo.st (fun _ kz => XS.iloadN X5.here hx rfl (hb hby d19_10) rfl kz) ?_
  show OG p e below Φ T5 m 11 #[rv a, iv 1, iv 2, rv b1, iv 1] [(.int 2), (.int 1)]
  refine OGo.st (fun _ kz => XS.icmpNo X5.here hx rfl (hb hby d19_11) rfl (XT.ii_ge_f (by decide)) kz) ?_
  show OG p e below Φ T5 m 14 #[rv a, iv 1, iv 2, rv b1, iv 1] []
  refine OGo.st (fun _ kz => XS.aloadN X5.here hx rfl (hb hby d19_14) rfl rfl kz) ?_
  show OG p e below Φ T5 m 15 #[rv a, iv 1, iv 2, rv b1, iv 1] [(.ref b1)]
  refine OGo.st (fun _ kz => XS.iload X5.here hx rfl (hb hby d19_15) rfl kz) ?_
  show OG p e below Φ T5 m 17 #[rv a, iv 1, iv 2, rv b1, iv 1] [(.int 1), (.ref b1)]
  refine OGo.st (fun _ kz => XS.aloadN X5.here hx rfl (hb hby d19_17) rfl rfl kz) ?_
  show OG p e below Φ T5 m 18 #[rv a, iv 1, iv 2, rv b1, iv 1] [(.ref a), (.int 1), (.ref b1)]
  refine OGo.st (fun _ kz => XS.iloadN X5.here hx rfl (hb hby d19_18) rfl kz) ?_
  show OG p e below Φ T5 m 19 #[rv a, iv 1, iv 2, rv b1, iv 1] [(.int 1), (.ref a), (.int 1), (.ref b1)]
  obtain ⟨cl8, Aq8, -, S8, M8, H8, -⟩ := id F6
  have in8 : ¬ ((1 : Int32) < 0 ∨ cl8.slots.size ≤ (1 : Int32).toNatClampNeg) := inb_of S8 ⟨by decide, by decide⟩
  have at8 : cl8.slots[(1 : Int32).toNatClampNeg]? = some (.int c1_) := H8.at in8 rfl
  refine OGo.st (fun _ kz => X5.caload hx Aq8.1 (State.isArrayOf_alike hZ.alike Aq8.2.1) Aq8.2.2 in8 at8 (g := (mkF m 19 #[rv a, iv 1, iv 2, rv b1, iv 1] [(.int 1), (.ref a), (.int 1), (.ref b1)])) rfl rfl (hb hby d19_19) _ kz) ?_
  show OG p e below Φ T5 m 20 #[rv a, iv 1, iv 2, rv b1, iv 1] [(.int c1_), (.int 1), (.ref b1)]
  obtain ⟨_, T9, L9, X9, hQ9, st9⟩ := own_callSt X5 hx hZ hown (ow114 hw) (ow115 hw) (ow36 hw) (ow116 hw) (by decide) (rsb2_1pc1 l Z a0 hw [] b1 cb1 c0_ c1_ T5.heap n0 Zs5 Vq5 gq1 (S_ad.ext F7.2) (S_hb.ext F7.2) (S_lb.ext F7.2)) rfl (W := 0) (by decide) (by decide) (by decide) (by decide) (pc := 20) (ls := #[rv a, iv 1, iv 2, rv b1, iv 1]) (stk := [(.int c1_), (.int 1), (.ref b1)]) (by rw [hml]; rfl) (argsL := [(.ref b1), (.int 1), (.int c1_)]) (rest := []) (lenOf pd6 rfl) rfl rfl (Nat.le_of_eq rfl) (hb hby d19_20)
  obtain ⟨rfl, Nq9, Kq9, Vq9⟩ := hQ9
  have N9 := Fr.app N5 Nq9
  have Zs9 : n0 ≤ T9.heap.size := Nat.le_trans Zs5 Kq9.1
  have F10 := F6.keep Kq9 (ninS nq1_a nin0)
  have F11 := F7.keep Kq9 (allS gq1 all0)
  have K9 := K5.trans Kq9 (allS (Or.inr sq1) all0)
  refine OGo.st st9 ?_
  show OG p e below Φ T9 m 23 #[rv a, iv 1, iv 2, rv b1, iv 1] []
  refine OGo.st (fun _ kz => XS.iinc X9.here hx rfl (hb hby d19_23) rfl (l' := #[rv a, iv ((1 : Int32) + (1 : Int32)), iv 2, rv b1, iv 1]) rfl kz) ?_
  show OG p e below Φ T9 m 26 #[rv a, iv 2, iv 2, rv b1, iv 1] []
  refine OGo.st (fun _ kz => XS.iinc X9.here hx rfl (hb hby d19_26) rfl (l' := #[rv a, iv 2, iv 2, rv b1, iv ((1 : Int32) + (1 : Int32))]) rfl kz) ?_
  show OG p e below Φ T9 m 29 #[rv a, iv 2, iv 2, rv b1, iv 2] []
  refine OGo.st (fun _ kz => XS.goto X9.here hx rfl (pc0 := 29) (pc' := 8) rfl (hb hby d19_29) (by decide) (by decide) kz) ?_
  show OG p e below Φ T9 m 8 #[rv a, iv 2, iv 2, rv b1, iv 2] []
  refine OGo.st (fun _ kz => XS.iload X9.here hx rfl (hb hby d19_8) rfl kz) ?_
  show OG p e below Φ T9 m 10 #[rv a, iv 2, iv 2, rv b1, iv 2] [(.int 2)]
  refine OGo.st (fun _ kz => XS.iloadN X9.here hx rfl (hb hby d19_10) rfl kz) ?_
  show OG p e below Φ T9 m 11 #[rv a, iv 2, iv 2, rv b1, iv 2] [(.int 2), (.int 2)]
  refine OGo.st (fun _ kz => XS.icmpYes X9.here hx rfl (pc0 := 11) (pc' := 32) rfl (hb hby d19_11) rfl (XT.ii_ge_t (by decide)) (by decide) (by decide) kz) ?_
  show OG p e below Φ T9 m 32 #[rv a, iv 2, iv 2, rv b1, iv 2] []
  refine OGo.st (fun _ kz => XS.aloadN X9.here hx rfl (hb hby d19_32) rfl rfl kz) ?_
  show OG p e below Φ T9 m 33 #[rv a, iv 2, iv 2, rv b1, iv 2] [(.ref b1)]
  refine OGo.fin X9 hlk (v := (some (.ref b1))) (fun h => by rw [hret] at h; cases h) (by decide) (by decide) (fun fs hr => X9.areturnOut hx rfl hret rfl (hb hby d19_33) hr) fun U eU hF => hΦ _ _ _ ?_ hF
  rw [eU]
  show Q_rsb2_1tb Z a ca c0_ c1_ h0 n0 _ _ _
  exact ⟨_, _, rfl, N9, K9, Vq9, sq1⟩

theorem ef_rsb2_1gc (m : MethodId) (x0 : Addr) (x1 : Int32) : entryFrame m #[(.ref x0), (.int x1)] 2 = mkF m 0 #[.val (.ref x0), .val (.int x1)] [] := by first | (simp [entryFrame, mkF, argsToLocals, Value.category]; done) | rfl
def Q_rsb2_1gc (Z : State) (b : Addr) (cb : ClassId) (c0_ : Int32) (c1_ : Int32) (h0 : Heap) (n0 : Nat) (v : Option Value) (h : Heap) (L : List Loc) : Prop := v = some (.int c1_) ∧ Fr n0 L ∧ h = h0
set_option maxRecDepth 65536 in
set_option maxHeartbeats 40000000 in
theorem rsb2_1gc (l : Launch) (Z : State) (a0 : Array Value) (hw : ∀ d ∈ tables_1, d.before a0 Z = true) (ws : List Jvm.Cond) (b : Addr) (cb : ClassId) (c0_ : Int32) (c1_ : Int32) (h0 : Heap) (n0 : Nat) (Z0 : n0 ≤ h0.size) (V_b : Arv Z h0 b cb .byte (4 : Int32) [(.int (nar .byte (c0_ >>> (0 &&& 31)).toInt8.toInt32)), (.int (nar .byte (c0_ >>> (8 &&& 31)).toInt8.toInt32)), (.int (nar .byte (c1_ >>> (0 &&& 31)).toInt8.toInt32)), (.int (nar .byte (c1_ >>> (8 &&& 31)).toInt8.toInt32))] (.int (0 : Int32))) (S_ad : Sta Z h0 "java/lang/StringUTF16" "$assertionsDisabled" "Z" (.int (1 : Int32))) (S_hb : Sta Z h0 "java/lang/StringUTF16" "HI_BYTE_SHIFT" "I" (.int (0 : Int32))) (S_lb : Sta Z h0 "java/lang/StringUTF16" "LO_BYTE_SHIFT" "I" (.int (8 : Int32))) (hr1 : nar .char c1_ = c1_) :
    OCon l Z (⟨"java/lang/StringUTF16", "getChar", "([BI)C"⟩ : MethodName) jdk_52_method_5_code 2 (some .char) ws ({ frames := 0, cells := 0, slots := 0, locals := 0 } : Room) #[(.ref b), (.int (1 : Int32))] h0 (Q_rsb2_1gc Z b cb c0_ c1_ h0 n0) := by
  refine OCon.of (plainFor_of_name pn1) ?_
  intro p e s m below meth c s₁ Φ X0 hx hby hml hown hnm hret hlk hZ e0 hΦ
  have N0 := Fr.nil n0
  refine OGo.st (fun _ kz => castTop (ef_rsb2_1gc m b (1 : Int32)) kz) ?_
  show OG p e below Φ s₁ m 0 #[rv b, iv 1] []
  obtain ⟨T1, X1, e1, st1⟩ := getS2 X0 hx hZ hown (host := "") (Or.inl (ow117 hw)) Via.refl e0 S_ad (g := (mkF m 0 #[rv b, iv 1] [])) rfl (hb hby d23_0)
  refine OGo.st st1 ?_
  show OG p e below Φ T1 m 3 #[rv b, iv 1] [(.int 1)]
  refine OGo.st (fun _ kz => XS.ifYes X1.here hx rfl (pc0 := 3) (pc' := 28) rfl (hb hby d23_3) rfl (XT.i0_ne_t (by decide)) (by decide) (by decide) kz) ?_
  show OG p e below Φ T1 m 28 #[rv b, iv 1] []
  refine OGo.st (fun _ kz => XS.iloadN X1.here hx rfl (hb hby d23_28) rfl kz) ?_
  show OG p e below Φ T1 m 29 #[rv b, iv 1] [(.int 1)]
  refine OGo.st (fun _ kz => XS.iconst X1.here hx rfl (hb hby d23_29) kz) ?_
  show OG p e below Φ T1 m 30 #[rv b, iv 1] [(.int 1), (.int 1)]
  refine OGo.st (fun _ kz => XT.ishl X1.here hx rfl (hb hby d23_30) rfl kz) ?_
  show OG p e below Φ T1 m 31 #[rv b, iv 1] [(.int 2)]
  refine OGo.st (fun _ kz => XS.istoreN X1.here hx rfl (hb hby d23_31) rfl (l' := #[rv b, iv 2]) rfl kz) ?_
  show OG p e below Φ T1 m 32 #[rv b, iv 2] []
  refine OGo.st (fun _ kz => XS.aloadN X1.here hx rfl (hb hby d23_32) rfl rfl kz) ?_
  show OG p e below Φ T1 m 33 #[rv b, iv 2] [(.ref b)]
  refine OGo.st (fun _ kz => XS.iloadN X1.here hx rfl (hb hby d23_33) rfl kz) ?_
  show OG p e below Φ T1 m 34 #[rv b, iv 2] [(.int 2), (.ref b)]
  refine OGo.st (fun _ kz => XS.iinc X1.here hx rfl (hb hby d23_34) rfl (l' := #[rv b, iv ((2 : Int32) + (1 : Int32))]) rfl kz) ?_
  show OG p e below Φ T1 m 37 #[rv b, iv 3] [(.int 2), (.ref b)]
  obtain ⟨cl2, Aq2, -, S2, M2, H2, -⟩ := id V_b
  have in2 : ¬ ((2 : Int32) < 0 ∨ cl2.slots.size ≤ (2 : Int32).toNatClampNeg) := inb_of S2 ⟨by decide, by decide⟩
  have at2 : cl2.slots[(2 : Int32).toNatClampNeg]? = some (.int (nar .byte (c1_ >>> (0 &&& 31)).toInt8.toInt32)) := H2.at in2 rfl
  refine OGo.st (fun _ kz => X1.baloadBytes hx (by rw [e1]; exact Aq2.1) (State.isArrayOf_alike hZ.alike Aq2.2.1) Aq2.2.2 in2 at2 (g := (mkF m 37 #[rv b, iv 3] [(.int 2), (.ref b)])) rfl rfl (hb hby d23_37) _ kz) ?_
  show OG p e below Φ T1 m 38 #[rv b, iv 3] [(.int (nar .byte (c1_ >>> (0 &&& 31)).toInt8.toInt32))]
  refine OGo.st (fun _ kz => XS.sipush X1.here hx rfl (hb hby d23_38) kz) ?_
  show OG p e below Φ T1 m 41 #[rv b, iv 3] [(.int 255), (.int (nar .byte (c1_ >>> (0 &&& 31)).toInt8.toInt32))]
  refine OGo.st (fun _ kz => XS.iand X1.here hx rfl (hb hby d23_41) rfl kz) ?_
  show OG p e below Φ T1 m 42 #[rv b, iv 3] [(.int ((nar .byte (c1_ >>> (0 &&& 31)).toInt8.toInt32) &&& (255 : Int32)))]
  obtain ⟨T3, X3, e3, st3⟩ := getS2 X1 hx hZ hown (host := "") (Or.inl (ow118 hw)) Via.refl e1 S_hb (g := (mkF m 42 #[rv b, iv 3] [(.int ((nar .byte (c1_ >>> (0 &&& 31)).toInt8.toInt32) &&& (255 : Int32)))])) rfl (hb hby d23_42)
  refine OGo.st st3 ?_
  show OG p e below Φ T3 m 45 #[rv b, iv 3] [(.int 0), (.int ((nar .byte (c1_ >>> (0 &&& 31)).toInt8.toInt32) &&& (255 : Int32)))]
  refine OGo.st (fun _ kz => XT.ishl X3.here hx rfl (hb hby d23_45) rfl kz) ?_
  show OG p e below Φ T3 m 46 #[rv b, iv 3] [(.int (((nar .byte (c1_ >>> (0 &&& 31)).toInt8.toInt32) &&& (255 : Int32)) <<< ((0 : Int32) &&& 31)))]
  refine OGo.st (fun _ kz => XS.aloadN X3.here hx rfl (hb hby d23_46) rfl rfl kz) ?_
  show OG p e below Φ T3 m 47 #[rv b, iv 3] [(.ref b), (.int (((nar .byte (c1_ >>> (0 &&& 31)).toInt8.toInt32) &&& (255 : Int32)) <<< ((0 : Int32) &&& 31)))]
  refine OGo.st (fun _ kz => XS.iloadN X3.here hx rfl (hb hby d23_47) rfl kz) ?_
  show OG p e below Φ T3 m 48 #[rv b, iv 3] [(.int 3), (.ref b), (.int (((nar .byte (c1_ >>> (0 &&& 31)).toInt8.toInt32) &&& (255 : Int32)) <<< ((0 : Int32) &&& 31)))]
  obtain ⟨cl4, Aq4, -, S4, M4, H4, -⟩ := id V_b
  have in4 : ¬ ((3 : Int32) < 0 ∨ cl4.slots.size ≤ (3 : Int32).toNatClampNeg) := inb_of S4 ⟨by decide, by decide⟩
  have at4 : cl4.slots[(3 : Int32).toNatClampNeg]? = some (.int (nar .byte (c1_ >>> (8 &&& 31)).toInt8.toInt32)) := H4.at in4 rfl
  refine OGo.st (fun _ kz => X3.baloadBytes hx (by rw [e3]; exact Aq4.1) (State.isArrayOf_alike hZ.alike Aq4.2.1) Aq4.2.2 in4 at4 (g := (mkF m 48 #[rv b, iv 3] [(.int 3), (.ref b), (.int (((nar .byte (c1_ >>> (0 &&& 31)).toInt8.toInt32) &&& (255 : Int32)) <<< ((0 : Int32) &&& 31)))])) rfl rfl (hb hby d23_48) _ kz) ?_
  show OG p e below Φ T3 m 49 #[rv b, iv 3] [(.int (nar .byte (c1_ >>> (8 &&& 31)).toInt8.toInt32)), (.int (((nar .byte (c1_ >>> (0 &&& 31)).toInt8.toInt32) &&& (255 : Int32)) <<< ((0 : Int32) &&& 31)))]
  refine OGo.st (fun _ kz => XS.sipush X3.here hx rfl (hb hby d23_49) kz) ?_
  show OG p e below Φ T3 m 52 #[rv b, iv 3] [(.int 255), (.int (nar .byte (c1_ >>> (8 &&& 31)).toInt8.toInt32)), (.int (((nar .byte (c1_ >>> (0 &&& 31)).toInt8.toInt32) &&& (255 : Int32)) <<< ((0 : Int32) &&& 31)))]
  refine OGo.st (fun _ kz => XS.iand X3.here hx rfl (hb hby d23_52) rfl kz) ?_
  show OG p e below Φ T3 m 53 #[rv b, iv 3] [(.int ((nar .byte (c1_ >>> (8 &&& 31)).toInt8.toInt32) &&& (255 : Int32))), (.int (((nar .byte (c1_ >>> (0 &&& 31)).toInt8.toInt32) &&& (255 : Int32)) <<< ((0 : Int32) &&& 31)))]
  obtain ⟨T5, X5, e5, st5⟩ := getS2 X3 hx hZ hown (host := "") (Or.inl (ow119 hw)) Via.refl e3 S_lb (g := (mkF m 53 #[rv b, iv 3] [(.int ((nar .byte (c1_ >>> (8 &&& 31)).toInt8.toInt32) &&& (255 : Int32))), (.int (((nar .byte (c1_ >>> (0 &&& 31)).toInt8.toInt32) &&& (255 : Int32)) <<< ((0 : Int32) &&& 31)))])) rfl (hb hby d23_53)
  refine OGo.st st5 ?_
  show OG p e below Φ T5 m 56 #[rv b, iv 3] [(.int 8), (.int ((nar .byte (c1_ >>> (8 &&& 31)).toInt8.toInt32) &&& (255 : Int32))), (.int (((nar .byte (c1_ >>> (0 &&& 31)).toInt8.toInt32) &&& (255 : Int32)) <<< ((0 : Int32) &&& 31)))]
  refine OGo.st (fun _ kz => XT.ishl X5.here hx rfl (hb hby d23_56) rfl kz) ?_
  show OG p e below Φ T5 m 57 #[rv b, iv 3] [(.int (((nar .byte (c1_ >>> (8 &&& 31)).toInt8.toInt32) &&& (255 : Int32)) <<< ((8 : Int32) &&& 31))), (.int (((nar .byte (c1_ >>> (0 &&& 31)).toInt8.toInt32) &&& (255 : Int32)) <<< ((0 : Int32) &&& 31)))]
  refine OGo.st (fun _ kz => XT.ior X5.here hx rfl (hb hby d23_57) rfl kz) ?_
  show OG p e below Φ T5 m 58 #[rv b, iv 3] [(.int ((((nar .byte (c1_ >>> (0 &&& 31)).toInt8.toInt32) &&& (255 : Int32)) <<< ((0 : Int32) &&& 31)) ||| (((nar .byte (c1_ >>> (8 &&& 31)).toInt8.toInt32) &&& (255 : Int32)) <<< ((8 : Int32) &&& 31))))]
  refine OGo.st (fun _ kz => XT.i2c X5.here hx rfl (hb hby d23_58) rfl kz) ?_
  show OG p e below Φ T5 m 59 #[rv b, iv 3] [(.int (((((nar .byte (c1_ >>> (0 &&& 31)).toInt8.toInt32) &&& (255 : Int32)) <<< ((0 : Int32) &&& 31)) ||| (((nar .byte (c1_ >>> (8 &&& 31)).toInt8.toInt32) &&& (255 : Int32)) <<< ((8 : Int32) &&& 31))).toUInt32.toUInt16.toUInt32.toInt32))]
  refine OGo.fin X5 hlk (v := (some (.int (((((nar .byte (c1_ >>> (0 &&& 31)).toInt8.toInt32) &&& (255 : Int32)) <<< ((0 : Int32) &&& 31)) ||| (((nar .byte (c1_ >>> (8 &&& 31)).toInt8.toInt32) &&& (255 : Int32)) <<< ((8 : Int32) &&& 31))).toUInt32.toUInt16.toUInt32.toInt32)))) (fun h => by rw [hret] at h; cases h) (by decide) (by decide) (fun fs hr => X5.ireturnOut hx hret (XT.narrow_c _) (by simp) (hb hby d23_59) hr) fun U eU hF => hΦ _ _ _ ?_ hF
  rw [eU, e5]
  show Q_rsb2_1gc Z b cb c0_ c1_ h0 n0 _ _ _
  rw [own_gc _ hr1]
  exact ⟨rfl, N0, rfl⟩

theorem ef_rsb2_1c3 (m : MethodId) (x0 : Addr) (x1 : Int32) (x2 : Int32) : entryFrame m #[(.ref x0), (.int x1), (.int x2)] 6 = mkF m 0 #[.val (.ref x0), .val (.int x1), .val (.int x2), .unset, .unset, .unset] [] := by first | (simp [entryFrame, mkF, argsToLocals, Value.category]; done) | rfl
def Q_rsb2_1c3 (Z : State) (a : Addr) (ca : ClassId) (c0_ : Int32) (c1_ : Int32) (h0 : Heap) (n0 : Nat) (v : Option Value) (h : Heap) (L : List Loc) : Prop := ∃ b cb, v = some (.ref b) ∧ Fr n0 L ∧ Keep h0 h [] ∧ Arv Z h b cb .byte (4 : Int32) [(.int (nar .byte (c0_ >>> (0 &&& 31)).toInt8.toInt32)), (.int (nar .byte (c0_ >>> (8 &&& 31)).toInt8.toInt32)), (.int (nar .byte (c1_ >>> (0 &&& 31)).toInt8.toInt32)), (.int (nar .byte (c1_ >>> (8 &&& 31)).toInt8.toInt32))] (.int (0 : Int32)) ∧ h0.size ≤ b
set_option maxRecDepth 65536 in
set_option maxHeartbeats 40000000 in
theorem rsb2_1c3 (l : Launch) (Z : State) (a0 : Array Value) (hw : ∀ d ∈ tables_1, d.before a0 Z = true) (ws : List Jvm.Cond) (a : Addr) (ca : ClassId) (c0_ : Int32) (c1_ : Int32) (h0 : Heap) (n0 : Nat) (Z0 : n0 ≤ h0.size) (V_a : Arv Z h0 a ca .char (2 : Int32) [(.int c0_), (.int c1_)] (.int (0 : Int32))) (O_0 : Old Z n0 h0) (S_ad : Sta Z Z.heap "java/lang/StringUTF16" "$assertionsDisabled" "Z" (.int (1 : Int32))) (S_hb : Sta Z Z.heap "java/lang/StringUTF16" "HI_BYTE_SHIFT" "I" (.int (0 : Int32))) (S_lb : Sta Z Z.heap "java/lang/StringUTF16" "LO_BYTE_SHIFT" "I" (.int (8 : Int32))) (hl0 : ¬ (255 : Int32) < c0_) (hb1 : (255 : Int32) < c1_) (hr1 : nar .char c1_ = c1_) :
    OCon l Z (⟨"java/lang/StringUTF16", "compress", "([CII)[B"⟩ : MethodName) jdk_52_method_16_code 6 (some (.array .byte)) ws ({ frames := 3, cells := 2, slots := 6, locals := 40 } : Room) #[(.ref a), (.int (0 : Int32)), (.int (2 : Int32))] h0 (Q_rsb2_1c3 Z a ca c0_ c1_ h0 n0) := by
  refine OCon.of (plainFor_of_name pn1) ?_
  intro p e s m below meth c s₁ Φ X0 hx hby hml hown hnm hret hlk hZ e0 hΦ
  have N0 := Fr.nil n0
  refine OGo.st (fun _ kz => castTop (ef_rsb2_1c3 m a (0 : Int32) (2 : Int32)) kz) ?_
  have K0 := Keep.refl h0 []
  show OG p e below Φ s₁ m 0 #[rv a, iv 0, iv 2, .unset, .unset, .unset] []
  refine OGo.st (fun _ kz => XS.iloadN X0.here hx rfl (hb hby d6_0) rfl kz) ?_
  show OG p e below Φ s₁ m 1 #[rv a, iv 0, iv 2, .unset, .unset, .unset] [(.int 2)]
  obtain ⟨T1, h1, c1, X1, e1, E1, Ar1, st1⟩ := newP (aty := .byte) X0 hx hZ (ow26 hw) e0 (g := (mkF m 1 #[rv a, iv 0, iv 2, .unset, .unset, .unset] [(.int 2)])) rfl (hb hby d6_1) rfl (by decide) (cap := 2) (by decide) (by decide) (by decide) (by decide)
  obtain ⟨b1, g1⟩ : ∃ z, z = h0.size := ⟨_, rfl⟩
  rw [← g1] at Ar1 st1
  have ne1_a : a ≠ b1 := by rw [g1]; exact Nat.ne_of_lt V_a.lt
  have F2 := V_a.ext E1
  have F3 := O_0.ext E1
  have gb1 : n0 ≤ b1 := Nat.le_trans Z0 (Nat.le_of_eq g1.symm)
  have sz1 : h0.size ≤ b1 := Nat.le_trans K0.1 (Nat.le_of_eq g1.symm)
  have K1 := K0.ext E1
  have Zs1 : n0 ≤ h1.size := Nat.le_trans Z0 E1.1
  have V1 : Arv Z h1 b1 c1 .byte (2 : Int32) [(.int (0 : Int32)), (.int (0 : Int32))] (.int (0 : Int32)) := (Arv.new Ar1 (by decide)).pad (pad_rep [] _ 2)
  refine OGo.st st1 ?_
  show OG p e below Φ T1 m 3 #[rv a, iv 0, iv 2, .unset, .unset, .unset] [(.ref b1)]
  refine OGo.st (fun _ kz => XS.astoreN X1.here hx rfl (hb hby d6_3) rfl rfl (l' := #[rv a, iv 0, iv 2, rv b1, .unset, .unset]) rfl kz) ?_
  show OG p e below Φ T1 m 4 #[rv a, iv 0, iv 2, rv b1, .unset, .unset] []
  refine OGo.st (fun _ kz => XS.aloadN X1.here hx rfl (hb hby d6_4) rfl rfl kz) ?_
  show OG p e below Φ T1 m 5 #[rv a, iv 0, iv 2, rv b1, .unset, .unset] [(.ref a)]
  refine OGo.st (fun _ kz => XS.iloadN X1.here hx rfl (hb hby d6_5) rfl kz) ?_
  show OG p e below Φ T1 m 6 #[rv a, iv 0, iv 2, rv b1, .unset, .unset] [(.int 0), (.ref a)]
  refine OGo.st (fun _ kz => XS.aloadN X1.here hx rfl (hb hby d6_6) rfl rfl kz) ?_
  show OG p e below Φ T1 m 7 #[rv a, iv 0, iv 2, rv b1, .unset, .unset] [(.ref b1), (.int 0), (.ref a)]
  refine OGo.st (fun _ kz => XS.iconst X1.here hx rfl (hb hby d6_7) kz) ?_
  show OG p e below Φ T1 m 8 #[rv a, iv 0, iv 2, rv b1, .unset, .unset] [(.int 0), (.ref b1), (.int 0), (.ref a)]
  refine OGo.st (fun _ kz => XS.iloadN X1.here hx rfl (hb hby d6_8) rfl kz) ?_
  show OG p e below Φ T1 m 9 #[rv a, iv 0, iv 2, rv b1, .unset, .unset] [(.int 2), (.int 0), (.ref b1), (.int 0), (.ref a)]
  obtain ⟨_, T4, L4, X4, hQ4, st4⟩ := own_callSt X1 hx hZ hown (ow38 hw) (ow39 hw) (ow36 hw) (ow40 hw) (by decide) (rsb2_1c2 l Z a0 hw [] a ca b1 c1 c0_ c1_ h1 n0 Zs1 F2 V1 ne1_a gb1 hl0 hb1) e1 (W := 0) (by decide) (by decide) (by decide) (by decide) (pc := 9) (ls := #[rv a, iv 0, iv 2, rv b1, .unset, .unset]) (stk := [(.int 2), (.int 0), (.ref b1), (.int 0), (.ref a)]) (by rw [hml]; rfl) (argsL := [(.ref a), (.int 0), (.ref b1), (.int 0), (.int 2)]) (rest := []) (lenOf pd1 rfl) rfl rfl (Nat.le_of_eq rfl) (hb hby d6_9)
  obtain ⟨rfl, Nq4, Kq4⟩ := hQ4
  have N4 := Fr.app N0 Nq4
  have Zs4 : n0 ≤ T4.heap.size := Nat.le_trans Zs1 Kq4.1
  have F5 := F2.keep Kq4 (ninS ne1_a nin0)
  have F6 := F3.keep Kq4 (allS gb1 all0)
  have K4 := K1.trans Kq4 (allS (Or.inr sz1) all0)
  refine OGo.st st4 ?_
  show OG p e below Φ T4 m 12 #[rv a, iv 0, iv 2, rv b1, .unset, .unset] [(.int 1)]
  refine OGo.st (fun _ kz => XS.istore X4.here hx rfl (hb hby d6_12) rfl (l' := #[rv a, iv 0, iv 2, rv b1, iv 1, .unset]) rfl kz) ?_
  show OG p e below Φ T4 m 14 #[rv a, iv 0, iv 2, rv b1, iv 1, .unset] []
  refine OGo.st (fun _ kz => XS.iload X4.here hx rfl (hb hby d6_14) rfl kz) ?_
  show OG p e below Φ T4 m 16 #[rv a, iv 0, iv 2, rv b1, iv 1, .unset] [(.int 1)]
  refine OGo.st (fun _ kz => XS.iloadN X4.here hx rfl (hb hby d6_16) rfl kz) ?_
  show OG p e below Φ T4 m 17 #[rv a, iv 0, iv 2, rv b1, iv 1, .unset] [(.int 2), (.int 1)]
  refine OGo.st (fun _ kz => XS.icmpNo X4.here hx rfl (hb hby d6_17) rfl (XT.ii_eq_f (by decide)) kz) ?_
  show OG p e below Φ T4 m 20 #[rv a, iv 0, iv 2, rv b1, iv 1, .unset] []
  refine OGo.st (fun _ kz => XS.aloadN X4.here hx rfl (hb hby d6_20) rfl rfl kz) ?_
  show OG p e below Φ T4 m 21 #[rv a, iv 0, iv 2, rv b1, iv 1, .unset] [(.ref a)]
  refine OGo.st (fun _ kz => XS.iloadN X4.here hx rfl (hb hby d6_21) rfl kz) ?_
  show OG p e below Φ T4 m 22 #[rv a, iv 0, iv 2, rv b1, iv 1, .unset] [(.int 0), (.ref a)]
  refine OGo.st (fun _ kz => XS.iloadN X4.here hx rfl (hb hby d6_22) rfl kz) ?_
  show OG p e below Φ T4 m 23 #[rv a, iv 0, iv 2, rv b1, iv 1, .unset] [(.int 2), (.int 0), (.ref a)]
  obtain ⟨_, T7, L7, X7, hQ7, st7⟩ := own_callSt X4 hx hZ hown (ow104 hw) (ow105 hw) (ow36 hw) (ow106 hw) (by decide) (rsb2_1tb l Z a0 hw [] a ca c0_ c1_ T4.heap n0 Zs4 F5 F6 S_ad S_hb S_lb) rfl (W := 0) (by decide) (by decide) (by decide) (by decide) (pc := 23) (ls := #[rv a, iv 0, iv 2, rv b1, iv 1, .unset]) (stk := [(.int 2), (.int 0), (.ref a)]) (by rw [hml]; rfl) (argsL := [(.ref a), (.int 0), (.int 2)]) (rest := []) (lenOf pd2 rfl) rfl rfl (Nat.le_of_eq rfl) (hb hby d6_23)
  obtain ⟨b7, cb7, rfl, Nq7, Kq7, Vq7, hz7⟩ := hQ7
  have nq7_a : a ≠ b7 := Nat.ne_of_lt (Nat.lt_of_lt_of_le F5.lt hz7)
  have gq7 : n0 ≤ b7 := Nat.le_trans Zs4 hz7
  have sq7 : h0.size ≤ b7 := Nat.le_trans K4.1 hz7
  have N7 := Fr.app N4 Nq7
  have Zs7 : n0 ≤ T7.heap.size := Nat.le_trans Zs4 Kq7.1
  have F8 := F5.keep Kq7 nin0
  have F9 := F6.keep Kq7 all0
  have K7 := K4.trans Kq7 all0
  refine OGo.st st7 ?_
  show OG p e below Φ T7 m 26 #[rv a, iv 0, iv 2, rv b1, iv 1, .unset] [(.ref b7)]
  refine OGo.st (fun _ kz => XS.astore X7.here hx rfl (hb hby d6_26) rfl rfl (l' := #[rv a, iv 0, iv 2, rv b1, iv 1, rv b7]) rfl kz) ?_
  show OG p e below Φ T7 m 28 #[rv a, iv 0, iv 2, rv b1, iv 1, rv b7] []
  refine OGo.st (fun _ kz => XS.aload X7.here hx rfl (hb hby d6_28) rfl rfl kz) ?_
  show OG p e below Φ T7 m 30 #[rv a, iv 0, iv 2, rv b1, iv 1, rv b7] [(.ref b7)]
  refine OGo.st (fun _ kz => XS.iload X7.here hx rfl (hb hby d6_30) rfl kz) ?_
  show OG p e below Φ T7 m 32 #[rv a, iv 0, iv 2, rv b1, iv 1, rv b7] [(.int 1), (.ref b7)]
  obtain ⟨_, T10, L10, X10, hQ10, st10⟩ := own_callSt X7 hx hZ hown (ow120 hw) (ow121 hw) (ow36 hw) (ow122 hw) (by decide) (rsb2_1gc l Z a0 hw [] b7 cb7 c0_ c1_ T7.heap n0 Zs7 Vq7 (S_ad.ext F9.2) (S_hb.ext F9.2) (S_lb.ext F9.2) hr1) rfl (W := 0) (by decide) (by decide) (by decide) (by decide) (pc := 32) (ls := #[rv a, iv 0, iv 2, rv b1, iv 1, rv b7]) (stk := [(.int 1), (.ref b7)]) (by rw [hml]; rfl) (argsL := [(.ref b7), (.int 1)]) (rest := []) (lenOf pd7 rfl) rfl rfl (Nat.le_of_eq rfl) (hb hby d6_32)
  obtain ⟨rfl, Nq10, e10⟩ := hQ10
  have N10 := Fr.app N7 Nq10
  refine OGo.st st10 ?_
  show OG p e below Φ T10 m 35 #[rv a, iv 0, iv 2, rv b1, iv 1, rv b7] [(.int c1_)]
  refine OGo.st (fun _ kz => XS.sipush X10.here hx rfl (hb hby d6_35) kz) ?_
  show OG p e below Φ T10 m 38 #[rv a, iv 0, iv 2, rv b1, iv 1, rv b7] [(.int 255), (.int c1_)]
  refine OGo.st (fun _ kz => XS.icmpYes X10.here hx rfl (pc0 := 38) (pc' := 54) rfl (hb hby d6_38) rfl (XT.ii_gt_t hb1) (by decide) (by decide) kz) ?_
  show OG p e below Φ T10 m 54 #[rv a, iv 0, iv 2, rv b1, iv 1, rv b7] []
  refine OGo.st (fun _ kz => XS.aload X10.here hx rfl (hb hby d6_54) rfl rfl kz) ?_
  show OG p e below Φ T10 m 56 #[rv a, iv 0, iv 2, rv b1, iv 1, rv b7] [(.ref b7)]
  refine OGo.fin X10 hlk (v := (some (.ref b7))) (fun h => by rw [hret] at h; cases h) (by decide) (by decide) (fun fs hr => X10.areturnOut hx rfl hret rfl (hb hby d6_56) hr) fun U eU hF => hΦ _ _ _ ?_ hF
  rw [eU, e10]
  show Q_rsb2_1c3 Z a ca c0_ c1_ h0 n0 _ _ _
  exact ⟨_, _, rfl, N10, K7, Vq7, sq7⟩

theorem ef_rsb2_1cf (m : MethodId) (x0 : Addr) (x1 : Int32) : entryFrame m #[(.ref x0), (.int x1)] 2 = mkF m 0 #[.val (.ref x0), .val (.int x1)] [] := by first | (simp [entryFrame, mkF, argsToLocals, Value.category]; done) | rfl
def Q_rsb2_1cf (Z : State) (b : Addr) (cb : ClassId) (c0_ : Int32) (c1_ : Int32) (h0 : Heap) (n0 : Nat) (v : Option Value) (h : Heap) (L : List Loc) : Prop := v = some (.int (1 : Int32)) ∧ Fr n0 L ∧ h = h0
set_option maxRecDepth 65536 in
set_option maxHeartbeats 40000000 in
theorem rsb2_1cf (l : Launch) (Z : State) (a0 : Array Value) (hw : ∀ d ∈ tables_1, d.before a0 Z = true) (ws : List Jvm.Cond) (b : Addr) (cb : ClassId) (c0_ : Int32) (c1_ : Int32) (h0 : Heap) (n0 : Nat) (Z0 : n0 ≤ h0.size) (V_b : Arv Z h0 b cb .byte (4 : Int32) [(.int (nar .byte (c0_ >>> (0 &&& 31)).toInt8.toInt32)), (.int (nar .byte (c0_ >>> (8 &&& 31)).toInt8.toInt32)), (.int (nar .byte (c1_ >>> (0 &&& 31)).toInt8.toInt32)), (.int (nar .byte (c1_ >>> (8 &&& 31)).toInt8.toInt32))] (.int (0 : Int32))) :
    OCon l Z (⟨"java/lang/StringUTF16", "coderFromArrayLen", "([BI)B"⟩ : MethodName) jdk_52_method_15_code 2 (some .byte) ws ({ frames := 0, cells := 0, slots := 0, locals := 0 } : Room) #[(.ref b), (.int (2 : Int32))] h0 (Q_rsb2_1cf Z b cb c0_ c1_ h0 n0) := by
  refine OCon.of (plainFor_of_name pn1) ?_
  intro p e s m below meth c s₁ Φ X0 hx hby hml hown hnm hret hlk hZ e0 hΦ
  have N0 := Fr.nil n0
  refine OGo.st (fun _ kz => castTop (ef_rsb2_1cf m b (2 : Int32)) kz) ?_
  show OG p e below Φ s₁ m 0 #[rv b, iv 2] []
  refine OGo.st (fun _ kz => XS.iloadN X0.here hx rfl (hb hby d8_0) rfl kz) ?_
  show OG p e below Φ s₁ m 1 #[rv b, iv 2] [(.int 2)]
  refine OGo.st (fun _ kz => XS.aloadN X0.here hx rfl (hb hby d8_1) rfl rfl kz) ?_
  show OG p e below Φ s₁ m 2 #[rv b, iv 2] [(.ref b), (.int 2)]
  obtain ⟨cl1, Aq1, -, S1, M1, -, -⟩ := id V_b
  refine OGo.st (fun _ kz => X0.arraylength hx (by rw [e0]; exact Aq1.1) (State.isArrayOf_alike hZ.alike Aq1.2.1) (g := (mkF m 2 #[rv b, iv 2] [(.ref b), (.int 2)])) rfl rfl (hb hby d8_2) _ kz) ?_
  rw [len_of S1 M1]
  show OG p e below Φ s₁ m 3 #[rv b, iv 2] [(.int 4), (.int 2)]
  refine OGo.st (fun _ kz => XS.isub X0.here hx rfl (hb hby d8_3) rfl kz) ?_
  show OG p e below Φ s₁ m 4 #[rv b, iv 2] [(.int (-2))]
  refine OGo.st (fun _ kz => XS.bipush X0.here hx rfl (hb hby d8_4) kz) ?_
  show OG p e below Φ s₁ m 6 #[rv b, iv 2] [(.int 31), (.int (-2))]
  refine OGo.st (fun _ kz => XT.iushr X0.here hx rfl (hb hby d8_6) rfl kz) ?_
  show OG p e below Φ s₁ m 7 #[rv b, iv 2] [(.int 1)]
  refine OGo.st (fun _ kz => XT.i2b X0.here hx rfl (hb hby d8_7) rfl kz) ?_
  show OG p e below Φ s₁ m 8 #[rv b, iv 2] [(.int 1)]
  refine OGo.fin X0 hlk (v := (some (.int 1))) (fun h => by rw [hret] at h; cases h) (by decide) (by decide) (fun fs hr => X0.ireturnOut hx hret rfl (by simp) (hb hby d8_8) hr) fun U eU hF => hΦ _ _ _ ?_ hF
  rw [eU, e0]
  show Q_rsb2_1cf Z b cb c0_ c1_ h0 n0 _ _ _
  exact ⟨rfl, N0, rfl⟩

theorem ef_rsb2_1i4 (m : MethodId) (x0 : Addr) (x1 : Addr) (x2 : Int32) (x3 : Int32) : entryFrame m #[(.ref x0), (.ref x1), (.int x2), (.int x3), .null] 6 = mkF m 0 #[.val (.ref x0), .val (.ref x1), .val (.int x2), .val (.int x3), .val .null, .unset] [] := by first | (simp [entryFrame, mkF, argsToLocals, Value.category]; done) | rfl
def Q_rsb2_1i4 (Z : State) (s_ : Addr) (a : Addr) (ca : ClassId) (qc : Int32) (c0_ : Int32) (c1_ : Int32) (h0 : Heap) (n0 : Nat) (v : Option Value) (h : Heap) (L : List Loc) : Prop := v = none ∧ Fr n0 L ∧ Keep h0 h [s_] ∧ Exa Z h s_ "java/lang/String" ∧ ∃ b cb, Fld Z h s_ "java/lang/String" "value" "[B" (.ref b) ∧ Fld Z h s_ "java/lang/String" "coder" "B" (.int (1 : Int32)) ∧ Arv Z h b cb .byte (4 : Int32) [(.int (nar .byte (c0_ >>> (0 &&& 31)).toInt8.toInt32)), (.int (nar .byte (c0_ >>> (8 &&& 31)).toInt8.toInt32)), (.int (nar .byte (c1_ >>> (0 &&& 31)).toInt8.toInt32)), (.int (nar .byte (c1_ >>> (8 &&& 31)).toInt8.toInt32))] (.int (0 : Int32)) ∧ h0.size ≤ b
set_option maxRecDepth 65536 in
set_option maxHeartbeats 40000000 in
theorem rsb2_1i4 (l : Launch) (Z : State) (a0 : Array Value) (hw : ∀ d ∈ tables_1, d.before a0 Z = true) (ws : List Jvm.Cond) (s_ : Addr) (a : Addr) (ca : ClassId) (qc : Int32) (c0_ : Int32) (c1_ : Int32) (h0 : Heap) (n0 : Nat) (Z0 : n0 ≤ h0.size) (E_s : Exa Z h0 s_ "java/lang/String") (g_s : n0 ≤ s_) (F_v : Fld Z h0 s_ "java/lang/String" "value" "[B" .null) (F_c : Fld Z h0 s_ "java/lang/String" "coder" "B" (.int (0 : Int32))) (V_a : Arv Z h0 a ca .char (2 : Int32) [(.int c0_), (.int c1_)] (.int (0 : Int32))) (nsa : s_ ≠ a) (S_cs : Sta Z Z.heap "java/lang/String" "COMPACT_STRINGS" "Z" (.int qc)) (hq : ¬ qc = 0) (O_0 : Old Z n0 h0) (S_ad : Sta Z Z.heap "java/lang/StringUTF16" "$assertionsDisabled" "Z" (.int (1 : Int32))) (S_hb : Sta Z Z.heap "java/lang/StringUTF16" "HI_BYTE_SHIFT" "I" (.int (0 : Int32))) (S_lb : Sta Z Z.heap "java/lang/StringUTF16" "LO_BYTE_SHIFT" "I" (.int (8 : Int32))) (hl0 : ¬ (255 : Int32) < c0_) (hb1 : (255 : Int32) < c1_) (hr1 : nar .char c1_ = c1_) :
    OCon l Z (⟨"java/lang/String", "<init>", "([CIILjava/lang/Void;)V"⟩ : MethodName) jdk_42_method_149_code 6 none ws ({ frames := 4, cells := 2, slots := 6, locals := 57 } : Room) #[(.ref s_), (.ref a), (.int (0 : Int32)), (.int (2 : Int32)), .null] h0 (Q_rsb2_1i4 Z s_ a ca qc c0_ c1_ h0 n0) := by
  refine OCon.of (plainFor_of_name pn0) ?_
  intro p e s m below meth c s₁ Φ X0 hx hby hml hown hnm hret hlk hZ e0 hΦ
  have N0 := Fr.nil n0
  refine OGo.st (fun _ kz => castTop (ef_rsb2_1i4 m s_ a (0 : Int32) (2 : Int32)) kz) ?_
  have K0 := Keep.refl h0 [s_]
  show OG p e below Φ s₁ m 0 #[rv s_, rv a, iv 0, iv 2, .val .null, .unset] []
  refine OGo.st (fun _ kz => XS.aloadN X0.here hx rfl (hb hby d4_0) rfl rfl kz) ?_
  show OG p e below Φ s₁ m 1 #[rv s_, rv a, iv 0, iv 2, .val .null, .unset] [(.ref s_)]
  obtain ⟨T1, X1, e1, st1⟩ := initO X0 hx hZ hown (ow22 hw) (ow23 hw) (ow24 hw) e0 (g := (mkF m 1 #[rv s_, rv a, iv 0, iv 2, .val .null, .unset] [(.ref s_)])) rfl (by rw [hml]; rfl) rfl (hb hby d4_1) (by decide) (W := 0) (Nat.le_of_eq rfl) (by decide)
  refine OGo.st st1 ?_
  show OG p e below Φ T1 m 4 #[rv s_, rv a, iv 0, iv 2, .val .null, .unset] []
  refine OGo.st (fun _ kz => XS.iloadN X1.here hx rfl (hb hby d4_4) rfl kz) ?_
  show OG p e below Φ T1 m 5 #[rv s_, rv a, iv 0, iv 2, .val .null, .unset] [(.int 2)]
  refine OGo.st (fun _ kz => XS.ifYes X1.here hx rfl (pc0 := 5) (pc' := 27) rfl (hb hby d4_5) rfl (XT.i0_ne_t (by decide)) (by decide) (by decide) kz) ?_
  show OG p e below Φ T1 m 27 #[rv s_, rv a, iv 0, iv 2, .val .null, .unset] []
  have Sq := S_cs.ext O_0.2
  obtain ⟨T2, X2, e2, st2⟩ := getS2 X1 hx hZ hown (host := "") (Or.inl (ow33 hw)) Via.refl e1 Sq (g := (mkF m 27 #[rv s_, rv a, iv 0, iv 2, .val .null, .unset] [])) rfl (hb hby d4_27)
  refine OGo.st st2 ?_
  show OG p e below Φ T2 m 30 #[rv s_, rv a, iv 0, iv 2, .val .null, .unset] [(.int qc)]
  refine OGo.st (fun _ kz => XS.ifNo X2.here hx rfl (hb hby d4_30) rfl (XT.i0_eq_f hq) kz) ?_
  show OG p e below Φ T2 m 33 #[rv s_, rv a, iv 0, iv 2, .val .null, .unset] []
  refine OGo.st (fun _ kz => XS.aloadN X2.here hx rfl (hb hby d4_33) rfl rfl kz) ?_
  show OG p e below Φ T2 m 34 #[rv s_, rv a, iv 0, iv 2, .val .null, .unset] [(.ref a)]
  refine OGo.st (fun _ kz => XS.iloadN X2.here hx rfl (hb hby d4_34) rfl kz) ?_
  show OG p e below Φ T2 m 35 #[rv s_, rv a, iv 0, iv 2, .val .null, .unset] [(.int 0), (.ref a)]
  refine OGo.st (fun _ kz => XS.iloadN X2.here hx rfl (hb hby d4_35) rfl kz) ?_
  show OG p e below Φ T2 m 36 #[rv s_, rv a, iv 0, iv 2, .val .null, .unset] [(.int 2), (.int 0), (.ref a)]
  obtain ⟨_, T3, L3, X3, hQ3, st3⟩ := own_callSt X2 hx hZ hown (ow34 hw) (ow35 hw) (ow36 hw) (ow37 hw) (by decide) (rsb2_1c3 l Z a0 hw [] a ca c0_ c1_ h0 n0 Z0 V_a O_0 S_ad S_hb S_lb hl0 hb1 hr1) e2 (W := 0) (by decide) (by decide) (by decide) (by decide) (pc := 36) (ls := #[rv s_, rv a, iv 0, iv 2, .val .null, .unset]) (stk := [(.int 2), (.int 0), (.ref a)]) (by rw [hml]; rfl) (argsL := [(.ref a), (.int 0), (.int 2)]) (rest := []) (lenOf pd2 rfl) rfl rfl (Nat.le_of_eq rfl) (hb hby d4_36)
  obtain ⟨b3, cb3, rfl, Nq3, Kq3, Vq3, hz3⟩ := hQ3
  have nq3_a : a ≠ b3 := Nat.ne_of_lt (Nat.lt_of_lt_of_le V_a.lt hz3)
  have nq3_s_ : s_ ≠ b3 := Nat.ne_of_lt (Nat.lt_of_lt_of_le E_s.lt hz3)
  have gq3 : n0 ≤ b3 := Nat.le_trans Z0 hz3
  have sq3 : h0.size ≤ b3 := Nat.le_trans K0.1 hz3
  have N3 := Fr.app N0 Nq3
  have Zs3 : n0 ≤ T3.heap.size := Nat.le_trans Z0 Kq3.1
  have F4 := E_s.keep Kq3
  have F5 := F_v.keep Kq3 nin0
  have F6 := F_c.keep Kq3 nin0
  have F7 := V_a.keep Kq3 nin0
  have F8 := O_0.keep Kq3 all0
  have K3 := K0.trans Kq3 all0
  refine OGo.st st3 ?_
  show OG p e below Φ T3 m 39 #[rv s_, rv a, iv 0, iv 2, .val .null, .unset] [(.ref b3)]
  refine OGo.st (fun _ kz => XS.astore X3.here hx rfl (hb hby d4_39) rfl rfl (l' := #[rv s_, rv a, iv 0, iv 2, .val .null, rv b3]) rfl kz) ?_
  show OG p e below Φ T3 m 41 #[rv s_, rv a, iv 0, iv 2, .val .null, rv b3] []
  refine OGo.st (fun _ kz => XS.aloadN X3.here hx rfl (hb hby d4_41) rfl rfl kz) ?_
  show OG p e below Φ T3 m 42 #[rv s_, rv a, iv 0, iv 2, .val .null, rv b3] [(.ref s_)]
  refine OGo.st (fun _ kz => XS.aload X3.here hx rfl (hb hby d4_42) rfl rfl kz) ?_
  show OG p e below Φ T3 m 44 #[rv s_, rv a, iv 0, iv 2, .val .null, rv b3] [(.ref b3), (.ref s_)]
  refine OGo.st (fun _ kz => XS.iloadN X3.here hx rfl (hb hby d4_44) rfl kz) ?_
  show OG p e below Φ T3 m 45 #[rv s_, rv a, iv 0, iv 2, .val .null, rv b3] [(.int 2), (.ref b3), (.ref s_)]
  obtain ⟨_, T9, L9, X9, hQ9, st9⟩ := own_callSt X3 hx hZ hown (ow41 hw) (ow42 hw) (ow36 hw) (ow43 hw) (by decide) (rsb2_1cf l Z a0 hw [] b3 cb3 c0_ c1_ T3.heap n0 Zs3 Vq3) rfl (W := 1) (by decide) (by decide) (by decide) (by decide) (pc := 45) (ls := #[rv s_, rv a, iv 0, iv 2, .val .null, rv b3]) (stk := [(.int 2), (.ref b3), (.ref s_)]) (by rw [hml]; rfl) (argsL := [(.ref b3), (.int 2)]) (rest := [(.ref s_)]) (lenOf pd3 rfl) rfl rfl (Nat.le_of_eq rfl) (hb hby d4_45)
  obtain ⟨rfl, Nq9, e9⟩ := hQ9
  have N9 := Fr.app N3 Nq9
  refine OGo.st st9 ?_
  show OG p e below Φ T9 m 48 #[rv s_, rv a, iv 0, iv 2, .val .null, rv b3] [(.int 1), (.ref s_)]
  obtain ⟨T10, h10, X10, e10, W10, st10⟩ := putF X9 hx hZ hown (host := "") (Or.inl (ow32 hw)) Via.refl e9 F6 F4 (Or.inr ⟨(ow28 hw), rfl, hnm⟩) (ow12 hw) (ty := .byte) (by decide) (by decide) (by decide) (g := (mkF m 48 #[rv s_, rv a, iv 0, iv 2, .val .null, rv b3] [(.int 1), (.ref s_)])) rfl rfl (hb hby d4_48)
  have F11 := F4.wr W10
  have F12 := F5.other W10 (Or.inr (slot_ne (Or.inr (ow27 hw)) (Or.inr (ow28 hw)) (by decide) (t := (.array .byte)) (t' := .byte) (by decide) (by decide)))
  have F13 := F6.same W10
  have F14 := F7.other W10 (Ne.symm nsa)
  have F15 := F8.wr W10 g_s
  have F16 := Vq3.other W10 (Ne.symm nq3_s_)
  have K10 := K3.wr W10 (Or.inl (List.mem_of_getElem? (i := 0) rfl))
  have N10 := Fr.snoc X10 N9 g_s
  have Zs10 : n0 ≤ h10.size := by rw [W10.size]; exact Zs3
  refine OGo.st st10 ?_
  show OG p e below Φ T10 m 51 #[rv s_, rv a, iv 0, iv 2, .val .null, rv b3] []
  refine OGo.st (fun _ kz => XS.aloadN X10.here hx rfl (hb hby d4_51) rfl rfl kz) ?_
  show OG p e below Φ T10 m 52 #[rv s_, rv a, iv 0, iv 2, .val .null, rv b3] [(.ref s_)]
  refine OGo.st (fun _ kz => XS.aload X10.here hx rfl (hb hby d4_52) rfl rfl kz) ?_
  show OG p e below Φ T10 m 54 #[rv s_, rv a, iv 0, iv 2, .val .null, rv b3] [(.ref b3), (.ref s_)]
  obtain ⟨T17, h17, X17, e17, W17, st17⟩ := putF X10 hx hZ hown (host := "") (Or.inl (ow31 hw)) Via.refl e10 F12 F11 (Or.inr ⟨(ow27 hw), rfl, hnm⟩) (ow12 hw) (ty := (.array .byte)) (by decide) rfl rfl (g := (mkF m 54 #[rv s_, rv a, iv 0, iv 2, .val .null, rv b3] [(.ref b3), (.ref s_)])) rfl rfl (hb hby d4_54)
  have F18 := F11.wr W17
  have F19 := F12.same W17
  have F20 := F13.other W17 (Or.inr (slot_ne (Or.inr (ow28 hw)) (Or.inr (ow27 hw)) (by decide) (t := .byte) (t' := (.array .byte)) (by decide) (by decide)))
  have F21 := F14.other W17 (Ne.symm nsa)
  have F22 := F15.wr W17 g_s
  have F23 := F16.other W17 (Ne.symm nq3_s_)
  have K17 := K10.wr W17 (Or.inl (List.mem_of_getElem? (i := 0) rfl))
  have N17 := Fr.snoc X17 N10 g_s
  have Zs17 : n0 ≤ h17.size := by rw [W17.size]; exact Zs10
  refine OGo.st st17 ?_
  show OG p e below Φ T17 m 57 #[rv s_, rv a, iv 0, iv 2, .val .null, rv b3] []
  refine OGo.fin X17 hlk (v := none) (fun _ => rfl) (by decide) (by decide) (fun fs hr => X17.returnOut hx hret (hb hby d4_57) hr) fun U eU hF => hΦ _ _ _ ?_ hF
  rw [eU, e17]
  show Q_rsb2_1i4 Z s_ a ca qc c0_ c1_ h0 n0 _ _ _
  exact ⟨rfl, N17, K17, F18, _, _, F19, F20, F23, sq3⟩

theorem ef_rsb2_1i1 (m : MethodId) (x0 : Addr) (x1 : Addr) : entryFrame m #[(.ref x0), (.ref x1)] 2 = mkF m 0 #[.val (.ref x0), .val (.ref x1)] [] := by first | (simp [entryFrame, mkF, argsToLocals, Value.category]; done) | rfl
def Q_rsb2_1i1 (Z : State) (s_ : Addr) (a : Addr) (ca : ClassId) (qc : Int32) (c0_ : Int32) (c1_ : Int32) (h0 : Heap) (n0 : Nat) (v : Option Value) (h : Heap) (L : List Loc) : Prop := v = none ∧ Fr n0 L ∧ Keep h0 h [s_] ∧ Exa Z h s_ "java/lang/String" ∧ ∃ b cb, Fld Z h s_ "java/lang/String" "value" "[B" (.ref b) ∧ Fld Z h s_ "java/lang/String" "coder" "B" (.int (1 : Int32)) ∧ Arv Z h b cb .byte (4 : Int32) [(.int (nar .byte (c0_ >>> (0 &&& 31)).toInt8.toInt32)), (.int (nar .byte (c0_ >>> (8 &&& 31)).toInt8.toInt32)), (.int (nar .byte (c1_ >>> (0 &&& 31)).toInt8.toInt32)), (.int (nar .byte (c1_ >>> (8 &&& 31)).toInt8.toInt32))] (.int (0 : Int32)) ∧ h0.size ≤ b
set_option maxRecDepth 65536 in
set_option maxHeartbeats 40000000 in
theorem rsb2_1i1 (l : Launch) (Z : State) (a0 : Array Value) (hw : ∀ d ∈ tables_1, d.before a0 Z = true) (ws : List Jvm.Cond) (s_ : Addr) (a : Addr) (ca : ClassId) (qc : Int32) (c0_ : Int32) (c1_ : Int32) (h0 : Heap) (n0 : Nat) (Z0 : n0 ≤ h0.size) (E_s : Exa Z h0 s_ "java/lang/String") (g_s : n0 ≤ s_) (F_v : Fld Z h0 s_ "java/lang/String" "value" "[B" .null) (F_c : Fld Z h0 s_ "java/lang/String" "coder" "B" (.int (0 : Int32))) (V_a : Arv Z h0 a ca .char (2 : Int32) [(.int c0_), (.int c1_)] (.int (0 : Int32))) (nsa : s_ ≠ a) (S_cs : Sta Z Z.heap "java/lang/String" "COMPACT_STRINGS" "Z" (.int qc)) (hq : ¬ qc = 0) (O_0 : Old Z n0 h0) (S_ad : Sta Z Z.heap "java/lang/StringUTF16" "$assertionsDisabled" "Z" (.int (1 : Int32))) (S_hb : Sta Z Z.heap "java/lang/StringUTF16" "HI_BYTE_SHIFT" "I" (.int (0 : Int32))) (S_lb : Sta Z Z.heap "java/lang/StringUTF16" "LO_BYTE_SHIFT" "I" (.int (8 : Int32))) (hl0 : ¬ (255 : Int32) < c0_) (hb1 : (255 : Int32) < c1_) (hr1 : nar .char c1_ = c1_) :
    OCon l Z (⟨"java/lang/String", "<init>", "([C)V"⟩ : MethodName) jdk_42_method_3_code 2 none ws ({ frames := 5, cells := 2, slots := 6, locals := 74 } : Room) #[(.ref s_), (.ref a)] h0 (Q_rsb2_1i1 Z s_ a ca qc c0_ c1_ h0 n0) := by
  refine OCon.of (plainFor_of_name pn0) ?_
  intro p e s m below meth c s₁ Φ X0 hx hby hml hown hnm hret hlk hZ e0 hΦ
  have N0 := Fr.nil n0
  refine OGo.st (fun _ kz => castTop (ef_rsb2_1i1 m s_ a) kz) ?_
  have K0 := Keep.refl h0 [s_]
  show OG p e below Φ s₁ m 0 #[rv s_, rv a] []
  refine OGo.st (fun _ kz => XS.aloadN X0.here hx rfl (hb hby d3_0) rfl rfl kz) ?_
  show OG p e below Φ s₁ m 1 #[rv s_, rv a] [(.ref s_)]
  refine OGo.st (fun _ kz => XS.aloadN X0.here hx rfl (hb hby d3_1) rfl rfl kz) ?_
  show OG p e below Φ s₁ m 2 #[rv s_, rv a] [(.ref a), (.ref s_)]
  refine OGo.st (fun _ kz => XS.iconst X0.here hx rfl (hb hby d3_2) kz) ?_
  show OG p e below Φ s₁ m 3 #[rv s_, rv a] [(.int 0), (.ref a), (.ref s_)]
  refine OGo.st (fun _ kz => XS.aloadN X0.here hx rfl (hb hby d3_3) rfl rfl kz) ?_
  show OG p e below Φ s₁ m 4 #[rv s_, rv a] [(.ref a), (.int 0), (.ref a), (.ref s_)]
  obtain ⟨cl1, Aq1, -, S1, M1, -, -⟩ := id V_a
  refine OGo.st (fun _ kz => X0.arraylength hx (by rw [e0]; exact Aq1.1) (State.isArrayOf_alike hZ.alike Aq1.2.1) (g := (mkF m 4 #[rv s_, rv a] [(.ref a), (.int 0), (.ref a), (.ref s_)])) rfl rfl (hb hby d3_4) _ kz) ?_
  rw [len_of S1 M1]
  show OG p e below Φ s₁ m 5 #[rv s_, rv a] [(.int 2), (.int 0), (.ref a), (.ref s_)]
  refine OGo.st (fun _ kz => XS.aconstNull X0.here hx rfl (hb hby d3_5) kz) ?_
  show OG p e below Φ s₁ m 6 #[rv s_, rv a] [.null, (.int 2), (.int 0), (.ref a), (.ref s_)]
  obtain ⟨_, T2, L2, X2, hQ2, st2⟩ := own_callSp X0 hx hZ rfl hown (ow18 hw) (ow19 hw) (ow13 hw) (ow21 hw) (by decide) (rsb2_1i4 l Z a0 hw [] s_ a ca qc c0_ c1_ h0 n0 Z0 E_s g_s F_v F_c V_a nsa S_cs hq O_0 S_ad S_hb S_lb hl0 hb1 hr1) e0 (W := 0) (by decide) (by decide) (by decide) (by decide) (pc := 6) (ls := #[rv s_, rv a]) (stk := [.null, (.int 2), (.int 0), (.ref a), (.ref s_)]) (by rw [hml]; rfl) (a := s_) (argsL := [(.ref a), (.int 0), (.int 2), .null]) (rest := []) (lenOf pd0 rfl) rfl rfl (Nat.le_of_eq rfl) (hb hby d3_6)
  obtain ⟨rfl, Nq2, Kq2, Eq2, b2, cb2, Fv2, Fc2, Vq2, hz2⟩ := hQ2
  have nq2_a : a ≠ b2 := Nat.ne_of_lt (Nat.lt_of_lt_of_le V_a.lt hz2)
  have nq2_s_ : s_ ≠ b2 := Nat.ne_of_lt (Nat.lt_of_lt_of_le E_s.lt hz2)
  have gq2 : n0 ≤ b2 := Nat.le_trans Z0 hz2
  have sq2 : h0.size ≤ b2 := Nat.le_trans K0.1 hz2
  have N2 := Fr.app N0 Nq2
  have Zs2 : n0 ≤ T2.heap.size := Nat.le_trans Z0 Kq2.1
  have F3 := V_a.keep Kq2 (ninS (Ne.symm nsa) nin0)
  have F4 := O_0.keep Kq2 (allS g_s all0)
  have K2 := K0.trans Kq2 (allS (Or.inl (List.mem_of_getElem? (i := 0) rfl)) all0)
  refine OGo.st st2 ?_
  show OG p e below Φ T2 m 9 #[rv s_, rv a] []
  refine OGo.fin X2 hlk (v := none) (fun _ => rfl) (by decide) (by decide) (fun fs hr => X2.returnOut hx hret (hb hby d3_9) hr) fun U eU hF => hΦ _ _ _ ?_ hF
  rw [eU]
  show Q_rsb2_1i1 Z s_ a ca qc c0_ c1_ h0 n0 _ _ _
  exact ⟨rfl, N2, K2, Eq2, _, _, Fv2, Fc2, Vq2, sq2⟩

theorem ef_rsl3c2 (m : MethodId) (x0 : Addr) (x1 : Int32) (x2 : Addr) (x3 : Int32) (x4 : Int32) : entryFrame m #[(.ref x0), (.int x1), (.ref x2), (.int x3), (.int x4)] 7 = mkF m 0 #[.val (.ref x0), .val (.int x1), .val (.ref x2), .val (.int x3), .val (.int x4), .unset, .unset] [] := by first | (simp [entryFrame, mkF, argsToLocals, Value.category]; done) | rfl
def Q_rsl3c2 (Z : State) (a : Addr) (ca : ClassId) (b : Addr) (cb : ClassId) (c0_ : Int32) (c1_ : Int32) (c2_ : Int32) (h0 : Heap) (n0 : Nat) (v : Option Value) (h : Heap) (L : List Loc) : Prop := v = some (.int (3 : Int32)) ∧ Fr n0 L ∧ Keep h0 h [b] ∧ Arv Z h b cb .byte (3 : Int32) [(.int (nar .byte (c0_.toInt8.toInt32))), (.int (nar .byte (c1_.toInt8.toInt32))), (.int (nar .byte (c2_.toInt8.toInt32)))] (.int (0 : Int32))
set_option maxRecDepth 65536 in
set_option maxHeartbeats 40000000 in
theorem rsl3c2 (l : Launch) (Z : State) (a0 : Array Value) (hw : ∀ d ∈ tables_1, d.before a0 Z = true) (ws : List Jvm.Cond) (a : Addr) (ca : ClassId) (b : Addr) (cb : ClassId) (c0_ : Int32) (c1_ : Int32) (c2_ : Int32) (h0 : Heap) (n0 : Nat) (Z0 : n0 ≤ h0.size) (V_a : Arv Z h0 a ca .char (3 : Int32) [(.int c0_), (.int c1_), (.int c2_)] (.int (0 : Int32))) (V_b : Arv Z h0 b cb .byte (3 : Int32) [(.int (0 : Int32)), (.int (0 : Int32)), (.int (0 : Int32))] (.int (0 : Int32))) (nab : a ≠ b) (g_b : n0 ≤ b) (hl0 : ¬ (255 : Int32) < c0_) (hl1 : ¬ (255 : Int32) < c1_) (hl2 : ¬ (255 : Int32) < c2_) :
    OCon l Z (⟨"java/lang/StringUTF16", "compress", "([CI[BII)I"⟩ : MethodName) jdk_52_method_21_code 7 (some .int) ws ({ frames := 0, cells := 0, slots := 0, locals := 0 } : Room) #[(.ref a), (.int (0 : Int32)), (.ref b), (.int (0 : Int32)), (.int (3 : Int32))] h0 (Q_rsl3c2 Z a ca b cb c0_ c1_ c2_ h0 n0) := by
  refine OCon.of (plainFor_of_name pn1) ?_
  intro p e s m below meth c s₁ Φ X0 hx hby hml hown hnm hret hlk hZ e0 hΦ
  have N0 := Fr.nil n0
  refine OGo.st (fun _ kz => castTop (ef_rsl3c2 m a (0 : Int32) b (0 : Int32) (3 : Int32)) kz) ?_
  have K0 := Keep.refl h0 [b]
  show OG p e below Φ s₁ m 0 #[rv a, iv 0, rv b, iv 0, iv 3, .unset, .unset] []
  refine OGo.st (fun _ kz => XS.iconst X0.here hx rfl (hb hby d7_0) kz) ?_
  show OG p e below Φ s₁ m 1 #[rv a, iv 0, rv b, iv 0, iv 3, .unset, .unset] [(.int 0)]
  refine OGo.st (fun _ kz => XS.istore X0.here hx rfl (hb hby d7_1) rfl (l' := #[rv a, iv 0, rv b, iv 0, iv 3, iv 0, .unset]) rfl kz) ?_
  show OG p e below Φ s₁ m 3 #[rv a, iv 0, rv b, iv 0, iv 3, iv 0, .unset] []
  refine OGo.st (fun _ kz => XS.iload X0.here hx rfl (hb hby d7_3) rfl kz) ?_
  show OG p e below Φ s₁ m 5 #[rv a, iv 0, rv b, iv 0, iv 3, iv 0, .unset] [(.int 0)]
  refine OGo.st (fun _ kz => XS.iload X0.here hx rfl (hb hby d7_5) rfl kz) ?_
  show OG p e below Φ s₁ m 7 #[rv a, iv 0, rv b, iv 0, iv 3, iv 0, .unset] [(.int 3), (.int 0)]
  refine OGo.st (fun _ kz => XS.icmpNo X0.here hx rfl (hb hby d7_7) rfl (XT.ii_ge_f (by decide)) kz) ?_
  show OG p e below Φ s₁ m 10 #[rv a, iv 0, rv b, iv 0, iv 3, iv 0, .unset] []
  refine OGo.st (fun _ kz => XS.aloadN X0.here hx rfl (hb hby d7_10) rfl rfl kz) ?_
  show OG p e below Φ s₁ m 11 #[rv a, iv 0, rv b, iv 0, iv 3, iv 0, .unset] [(.ref a)]
  refine OGo.st (fun _ kz => XS.iloadN X0.here hx rfl (hb hby d7_11) rfl kz) ?_
  show OG p e below Φ s₁ m 12 #[rv a, iv 0, rv b, iv 0, iv 3, iv 0, .unset] [(.int 0), (.ref a)]
  obtain ⟨cl1, Aq1, -, S1, M1, H1, -⟩ := id V_a
  have in1 : ¬ ((0 : Int32) < 0 ∨ cl1.slots.size ≤ (0 : Int32).toNatClampNeg) := inb_of S1 ⟨by decide, by decide⟩
  have at1 : cl1.slots[(0 : Int32).toNatClampNeg]? = some (.int c0_) := H1.at in1 rfl
  refine OGo.st (fun _ kz => X0.caload hx (by rw [e0]; exact Aq1.1) (State.isArrayOf_alike hZ.alike Aq1.2.1) Aq1.2.2 in1 at1 (g := (mkF m 12 #[rv a, iv 0, rv b, iv 0, iv 3, iv 0, .unset] [(.int 0), (.ref a)])) rfl rfl (hb hby d7_12) _ kz) ?_
  show OG p e below Φ s₁ m 13 #[rv a, iv 0, rv b, iv 0, iv 3, iv 0, .unset] [(.int c0_)]
  refine OGo.st (fun _ kz => XS.istore X0.here hx rfl (hb hby d7_13) rfl (l' := #[rv a, iv 0, rv b, iv 0, iv 3, iv 0, iv c0_]) rfl kz) ?_
  show OG p e below Φ s₁ m 15 #[rv a, iv 0, rv b, iv 0, iv 3, iv 0, iv c0_] []
  refine OGo.st (fun _ kz => XS.iload X0.here hx rfl (hb hby d7_15) rfl kz) ?_
  show OG p e below Φ s₁ m 17 #[rv a, iv 0, rv b, iv 0, iv 3, iv 0, iv c0_] [(.int c0_)]
  refine OGo.st (fun _ kz => XS.sipush X0.here hx rfl (hb hby d7_17) kz) ?_
  show OG p e below Φ s₁ m 20 #[rv a, iv 0, rv b, iv 0, iv 3, iv 0, iv c0_] [(.int 255), (.int c0_)]
  refine OGo.st (fun _ kz => XS.icmpYes X0.here hx rfl (pc0 := 20) (pc' := 26) rfl (hb hby d7_20) rfl (XT.ii_le_t hl0) (by decide) (by decide) kz) ?_
  show OG p e below Φ s₁ m 26 #[rv a, iv 0, rv b, iv 0, iv 3, iv 0, iv c0_] []
  refine OGo.st (fun _ kz => XS.aloadN X0.here hx rfl (hb hby d7_26) rfl rfl kz) ?_
  show OG p e below Φ s₁ m 27 #[rv a, iv 0, rv b, iv 0, iv 3, iv 0, iv c0_] [(.ref b)]
  refine OGo.st (fun _ kz => XS.iloadN X0.here hx rfl (hb hby d7_27) rfl kz) ?_
  show OG p e below Φ s₁ m 28 #[rv a, iv 0, rv b, iv 0, iv 3, iv 0, iv c0_] [(.int 0), (.ref b)]
  refine OGo.st (fun _ kz => XS.iload X0.here hx rfl (hb hby d7_28) rfl kz) ?_
  show OG p e below Φ s₁ m 30 #[rv a, iv 0, rv b, iv 0, iv 3, iv 0, iv c0_] [(.int c0_), (.int 0), (.ref b)]
  refine OGo.st (fun _ kz => XT.i2b X0.here hx rfl (hb hby d7_30) rfl kz) ?_
  show OG p e below Φ s₁ m 31 #[rv a, iv 0, rv b, iv 0, iv 3, iv 0, iv c0_] [(.int (c0_.toInt8.toInt32)), (.int 0), (.ref b)]
  obtain ⟨cl2, Aq2, Cq2, S2, M2, H2, G2⟩ := id V_b
  have in2 : ¬ ((0 : Int32) < 0 ∨ cl2.slots.size ≤ (0 : Int32).toNatClampNeg) := inb_of S2 ⟨by decide, by decide⟩
  obtain ⟨T2, h2, X2, e2, W2, st2⟩ := stB X0 hx hZ e0 Aq2 in2 (g := (mkF m 31 #[rv a, iv 0, rv b, iv 0, iv 3, iv 0, iv c0_] [(.int (c0_.toInt8.toInt32)), (.int 0), (.ref b)])) rfl rfl (hb hby d7_31)
  have W2 : Wr h0 h2 b (0 : Int32).toNatClampNeg (.int (nar .byte (c0_.toInt8.toInt32))) := W2
  have F3 := V_a.other W2 nab
  have V2 : Arv Z h2 b cb .byte (3 : Int32) [(.int (nar .byte (c0_.toInt8.toInt32))), (.int (0 : Int32)), (.int (0 : Int32))] (.int (0 : Int32)) := Arv.set Aq2 Cq2 S2 M2 H2 G2 (fits_nar_byte _) W2 0 (by decide) (by show 0 < 3; decide)
  have K2 := K0.wr W2 (Or.inl (List.mem_of_getElem? (i := 0) rfl))
  have N2 := Fr.snoc X2 N0 g_b
  have Zs2 : n0 ≤ h2.size := by rw [W2.size]; exact Z0
  refine OGo.st st2 ?_
  show OG p e below Φ T2 m 32 #[rv a, iv 0, rv b, iv 0, iv 3, iv 0, iv c0_] []
  refine OGo.st (fun _ kz => XS.iinc X2.here hx rfl (hb hby d7_32) rfl (l' := #[rv a, iv ((0 : Int32) + (1 : Int32)), rv b, iv 0, iv 3, iv 0, iv c0_]) rfl kz) ?_
  show OG p e below Φ T2 m 35 #[rv a, iv 1, rv b, iv 0, iv 3, iv 0, iv c0_] []
  refine OGo.st (fun _ kz => XS.iinc X2.here hx rfl (hb hby d7_35) rfl (l' := #[rv a, iv 1, rv b, iv ((0 : Int32) + (1 : Int32)), iv 3, iv 0, iv c0_]) rfl kz) ?_
  show OG p e below Φ T2 m 38 #[rv a, iv 1, rv b, iv 1, iv 3, iv 0, iv c0_] []
  refine OGo.st (fun _ kz => XS.iinc X2.here hx rfl (hb hby d7_38) rfl (l' := #[rv a, iv 1, rv b, iv 1, iv 3, iv ((0 : Int32) + (1 : Int32)), iv c0_]) rfl kz) ?_
  show OG p e below Φ T2 m 41 #[rv a, iv 1, rv b, iv 1, iv 3, iv 1, iv c0_] []
  refine OGo.st (fun _ kz => XS.goto X2.here hx rfl (pc0 := 41) (pc' := 3) rfl (hb hby d7_41) (by decide) (by decide) kz) ?_
  show OG p e below Φ T2 m 3 #[rv a, iv 1, rv b, iv 1, iv 3, iv 1, iv c0_] []
  refine OGo.st (fun _ kz => XS.iload X2.here hx rfl (hb hby d7_3) rfl kz) ?_
  show OG p e below Φ T2 m 5 #[rv a, iv 1, rv b, iv 1, iv 3, iv 1, iv c0_] [(.int 1)]
  refine OGo.st (fun _ kz => XS.iload X2.here hx rfl (hb hby d7_5) rfl kz) ?_
  show OG p e below Φ T2 m 7 #[rv a, iv 1, rv b, iv 1, iv 3, iv 1, iv c0_] [(.int 3), (.int 1)]
  refine OGo.st (fun _ kz => XS.icmpNo X2.here hx rfl (hb hby d7_7) rfl (XT.ii_ge_f (by decide)) kz) ?_
  show OG p e below Φ T2 m 10 #[rv a, iv 1, rv b, iv 1, iv 3, iv 1, iv c0_] []
  refine OGo.st (fun _ kz => XS.aloadN X2.here hx rfl (hb hby d7_10) rfl rfl kz) ?_
  show OG p e below Φ T2 m 11 #[rv a, iv 1, rv b, iv 1, iv 3, iv 1, iv c0_] [(.ref a)]
  refine OGo.st (fun _ kz => XS.iloadN X2.here hx rfl (hb hby d7_11) rfl kz) ?_
  show OG p e below Φ T2 m 12 #[rv a, iv 1, rv b, iv 1, iv 3, iv 1, iv c0_] [(.int 1), (.ref a)]
  obtain ⟨cl4, Aq4, -, S4, M4, H4, -⟩ := id F3
  have in4 : ¬ ((1 : Int32) < 0 ∨ cl4.slots.size ≤ (1 : Int32).toNatClampNeg) := inb_of S4 ⟨by decide, by decide⟩
  have at4 : cl4.slots[(1 : Int32).toNatClampNeg]? = some (.int c1_) := H4.at in4 rfl
  refine OGo.st (fun _ kz => X2.caload hx (by rw [e2]; exact Aq4.1) (State.isArrayOf_alike hZ.alike Aq4.2.1) Aq4.2.2 in4 at4 (g := (mkF m 12 #[rv a, iv 1, rv b, iv 1, iv 3, iv 1, iv c0_] [(.int 1), (.ref a)])) rfl rfl (hb hby d7_12) _ kz) ?_
  show OG p e below Φ T2 m 13 #[rv a, iv 1, rv b, iv 1, iv 3, iv 1, iv c0_] [(.int c1_)]
  refine OGo.st (fun _ kz => XS.istore X2.here hx rfl (hb hby d7_13) rfl (l' := #[rv a, iv 1, rv b, iv 1, iv 3, iv 1, iv c1_]) rfl kz) ?_
  show OG p e below Φ T2 m 15 #[rv a, iv 1, rv b, iv 1, iv 3, iv 1, iv c1_] []
  refine OGo.st (fun _ kz => XS.iload X2.here hx rfl (hb hby d7_15) rfl kz) ?_
  show OG p e below Φ T2 m 17 #[rv a, iv 1, rv b, iv 1, iv 3, iv 1, iv c1_] [(.int c1_)]
  refine OGo.st (fun _ kz => XS.sipush X2.here hx rfl (hb hby d7_17) kz) ?_
  show OG p e below Φ T2 m 20 #[rv a, iv 1, rv b, iv 1, iv 3, iv 1, iv c1_] [(.int 255), (.int c1_)]
  refine OGo.st (fun _ kz => XS.icmpYes X2.here hx rfl (pc0 := 20) (pc' := 26) rfl (hb hby d7_20) rfl (XT.ii_le_t hl1) (by decide) (by decide) kz) ?_
  show OG p e below Φ T2 m 26 #[rv a, iv 1, rv b, iv 1, iv 3, iv 1, iv c1_] []
  refine OGo.st (fun _ kz => XS.aloadN X2.here hx rfl (hb hby d7_26) rfl rfl kz) ?_
  show OG p e below Φ T2 m 27 #[rv a, iv 1, rv b, iv 1, iv 3, iv 1, iv c1_] [(.ref b)]
  refine OGo.st (fun _ kz => XS.iloadN X2.here hx rfl (hb hby d7_27) rfl kz) ?_
  show OG p e below Φ T2 m 28 #[rv a, iv 1, rv b, iv 1, iv 3, iv 1, iv c1_] [(.int 1), (.ref b)]
  refine OGo.st (fun _ kz => XS.iload X2.here hx rfl (hb hby d7_28) rfl kz) ?_
  show OG p e below Φ T2 m 30 #[rv a, iv 1, rv b, iv 1, iv 3, iv 1, iv c1_] [(.int c1_), (.int 1), (.ref b)]
  refine OGo.st (fun _ kz => XT.i2b X2.here hx rfl (hb hby d7_30) rfl kz) ?_
  show OG p e below Φ T2 m 31 #[rv a, iv 1, rv b, iv 1, iv 3, iv 1, iv c1_] [(.int (c1_.toInt8.toInt32)), (.int 1), (.ref b)]
  obtain ⟨cl5, Aq5, Cq5, S5, M5, H5, G5⟩ := id V2
  have in5 : ¬ ((1 : Int32) < 0 ∨ cl5.slots.size ≤ (1 : Int32).toNatClampNeg) := inb_of S5 ⟨by decide, by decide⟩
  obtain ⟨T5, h5, X5, e5, W5, st5⟩ := stB X2 hx hZ e2 Aq5 in5 (g := (mkF m 31 #[rv a, iv 1, rv b, iv 1, iv 3, iv 1, iv c1_] [(.int (c1_.toInt8.toInt32)), (.int 1), (.ref b)])) rfl rfl (hb hby d7_31)
  have W5 : Wr h2 h5 b (1 : Int32).toNatClampNeg (.int (nar .byte (c1_.toInt8.toInt32))) := W5
  have F6 := F3.other W5 nab
  have V5 : Arv Z h5 b cb .byte (3 : Int32) [(.int (nar .byte (c0_.toInt8.toInt32))), (.int (nar .byte (c1_.toInt8.toInt32))), (.int (0 : Int32))] (.int (0 : Int32)) := Arv.set Aq5 Cq5 S5 M5 H5 G5 (fits_nar_byte _) W5 1 (by decide) (by show 1 < 3; decide)
  have K5 := K2.wr W5 (Or.inl (List.mem_of_getElem? (i := 0) rfl))
  have N5 := Fr.snoc X5 N2 g_b
  have Zs5 : n0 ≤ h5.size := by rw [W5.size]; exact Zs2
  refine OGo.st st5 ?_
  show OG p e below Φ T5 m 32 #[rv a, iv 1, rv b, iv 1, iv 3, iv 1, iv c1_] []
  refine OGo.st (fun _ kz => XS.iinc X5.here hx rfl (hb hby d7_32) rfl (l' := #[rv a, iv ((1 : Int32) + (1 : Int32)), rv b, iv 1, iv 3, iv 1, iv c1_]) rfl kz) ?_
  show OG p e below Φ T5 m 35 #[rv a, iv 2, rv b, iv 1, iv 3, iv 1, iv c1_] []
  refine OGo.st (fun _ kz => XS.iinc X5.here hx rfl (hb hby d7_35) rfl (l' := #[rv a, iv 2, rv b, iv ((1 : Int32) + (1 : Int32)), iv 3, iv 1, iv c1_]) rfl kz) ?_
  show OG p e below Φ T5 m 38 #[rv a, iv 2, rv b, iv 2, iv 3, iv 1, iv c1_] []
  refine OGo.st (fun _ kz => XS.iinc X5.here hx rfl (hb hby d7_38) rfl (l' := #[rv a, iv 2, rv b, iv 2, iv 3, iv ((1 : Int32) + (1 : Int32)), iv c1_]) rfl kz) ?_
  show OG p e below Φ T5 m 41 #[rv a, iv 2, rv b, iv 2, iv 3, iv 2, iv c1_] []
  refine OGo.st (fun _ kz => XS.goto X5.here hx rfl (pc0 := 41) (pc' := 3) rfl (hb hby d7_41) (by decide) (by decide) kz) ?_
  show OG p e below Φ T5 m 3 #[rv a, iv 2, rv b, iv 2, iv 3, iv 2, iv c1_] []
  refine OGo.st (fun _ kz => XS.iload X5.here hx rfl (hb hby d7_3) rfl kz) ?_
  show OG p e below Φ T5 m 5 #[rv a, iv 2, rv b, iv 2, iv 3, iv 2, iv c1_] [(.int 2)]
  refine OGo.st (fun _ kz => XS.iload X5.here hx rfl (hb hby d7_5) rfl kz) ?_
  show OG p e below Φ T5 m 7 #[rv a, iv 2, rv b, iv 2, iv 3, iv 2, iv c1_] [(.int 3), (.int 2)]
  refine OGo.st (fun _ kz => XS.icmpNo X5.here hx rfl (hb hby d7_7) rfl (XT.ii_ge_f (by decide)) kz) ?_
  show OG p e below Φ T5 m 10 #[rv a, iv 2, rv b, iv 2, iv 3, iv 2, iv c1_] []
  refine OGo.st (fun _ kz => XS.aloadN X5.here hx rfl (hb hby d7_10) rfl rfl kz) ?_
  show OG p e below Φ T5 m 11 #[rv a, iv 2, rv b, iv 2, iv 3, iv 2, iv c1_] [(.ref a)]
  refine OGo.st (fun _ kz => XS.iloadN X5.here hx rfl (hb hby d7_11) rfl kz) ?_
  show OG p e below Φ T5 m 12 #[rv a, iv 2, rv b, iv 2, iv 3, iv 2, iv c1_] [(.int 2), (.ref a)]
  obtain ⟨cl7, Aq7, -, S7, M7, H7, -⟩ := id F6
  have in7 : ¬ ((2 : Int32) < 0 ∨ cl7.slots.size ≤ (2 : Int32).toNatClampNeg) := inb_of S7 ⟨by decide, by decide⟩
  have at7 : cl7.slots[(2 : Int32).toNatClampNeg]? = some (.int c2_) := H7.at in7 rfl
  refine OGo.st (fun _ kz => X5.caload hx (by rw [e5]; exact Aq7.1) (State.isArrayOf_alike hZ.alike Aq7.2.1) Aq7.2.2 in7 at7 (g := (mkF m 12 #[rv a, iv 2, rv b, iv 2, iv 3, iv 2, iv c1_] [(.int 2), (.ref a)])) rfl rfl (hb hby d7_12) _ kz) ?_
  show OG p e below Φ T5 m 13 #[rv a, iv 2, rv b, iv 2, iv 3, iv 2, iv c1_] [(.int c2_)]
  refine OGo.st (fun _ kz => XS.istore X5.here hx rfl (hb hby d7_13) rfl (l' := #[rv a, iv 2, rv b, iv 2, iv 3, iv 2, iv c2_]) rfl kz) ?_
  show OG p e below Φ T5 m 15 #[rv a, iv 2, rv b, iv 2, iv 3, iv 2, iv c2_] []
  refine OGo.st (fun _ kz => XS.iload X5.here hx rfl (hb hby d7_15) rfl kz) ?_
  show OG p e below Φ T5 m 17 #[rv a, iv 2, rv b, iv 2, iv 3, iv 2, iv c2_] [(.int c2_)]
  refine OGo.st (fun _ kz => XS.sipush X5.here hx rfl (hb hby d7_17) kz) ?_
  show OG p e below Φ T5 m 20 #[rv a, iv 2, rv b, iv 2, iv 3, iv 2, iv c2_] [(.int 255), (.int c2_)]
  refine OGo.st (fun _ kz => XS.icmpYes X5.here hx rfl (pc0 := 20) (pc' := 26) rfl (hb hby d7_20) rfl (XT.ii_le_t hl2) (by decide) (by decide) kz) ?_
  show OG p e below Φ T5 m 26 #[rv a, iv 2, rv b, iv 2, iv 3, iv 2, iv c2_] []
  refine OGo.st (fun _ kz => XS.aloadN X5.here hx rfl (hb hby d7_26) rfl rfl kz) ?_
  show OG p e below Φ T5 m 27 #[rv a, iv 2, rv b, iv 2, iv 3, iv 2, iv c2_] [(.ref b)]
  refine OGo.st (fun _ kz => XS.iloadN X5.here hx rfl (hb hby d7_27) rfl kz) ?_
  show OG p e below Φ T5 m 28 #[rv a, iv 2, rv b, iv 2, iv 3, iv 2, iv c2_] [(.int 2), (.ref b)]
  refine OGo.st (fun _ kz => XS.iload X5.here hx rfl (hb hby d7_28) rfl kz) ?_
  show OG p e below Φ T5 m 30 #[rv a, iv 2, rv b, iv 2, iv 3, iv 2, iv c2_] [(.int c2_), (.int 2), (.ref b)]
  refine OGo.st (fun _ kz => XT.i2b X5.here hx rfl (hb hby d7_30) rfl kz) ?_
  show OG p e below Φ T5 m 31 #[rv a, iv 2, rv b, iv 2, iv 3, iv 2, iv c2_] [(.int (c2_.toInt8.toInt32)), (.int 2), (.ref b)]
  obtain ⟨cl8, Aq8, Cq8, S8, M8, H8, G8⟩ := id V5
  have in8 : ¬ ((2 : Int32) < 0 ∨ cl8.slots.size ≤ (2 : Int32).toNatClampNeg) := inb_of S8 ⟨by decide, by decide⟩
  obtain ⟨T8, h8, X8, e8, W8, st8⟩ := stB X5 hx hZ e5 Aq8 in8 (g := (mkF m 31 #[rv a, iv 2, rv b, iv 2, iv 3, iv 2, iv c2_] [(.int (c2_.toInt8.toInt32)), (.int 2), (.ref b)])) rfl rfl (hb hby d7_31)
  have W8 : Wr h5 h8 b (2 : Int32).toNatClampNeg (.int (nar .byte (c2_.toInt8.toInt32))) := W8
  have F9 := F6.other W8 nab
  have V8 : Arv Z h8 b cb .byte (3 : Int32) [(.int (nar .byte (c0_.toInt8.toInt32))), (.int (nar .byte (c1_.toInt8.toInt32))), (.int (nar .byte (c2_.toInt8.toInt32)))] (.int (0 : Int32)) := Arv.set Aq8 Cq8 S8 M8 H8 G8 (fits_nar_byte _) W8 2 (by decide) (by show 2 < 3; decide)
  have K8 := K5.wr W8 (Or.inl (List.mem_of_getElem? (i := 0) rfl))
  have N8 := Fr.snoc X8 N5 g_b
  have Zs8 : n0 ≤ h8.size := by rw [W8.size]; exact Zs5
  refine OGo.st st8 ?_
  show OG p e below Φ T8 m 32 #[rv a, iv 2, rv b, iv 2, iv 3, iv 2, iv c2_] []
  refine OGo.st (fun _ kz => XS.iinc X8.here hx rfl (hb hby d7_32) rfl (l' := #[rv a, iv ((2 : Int32) + (1 : Int32)), rv b, iv 2, iv 3, iv 2, iv c2_]) rfl kz) ?_
  show OG p e below Φ T8 m 35 #[rv a, iv 3, rv b, iv 2, iv 3, iv 2, iv c2_] []
  refine OGo.st (fun _ kz => XS.iinc X8.here hx rfl (hb hby d7_35) rfl (l' := #[rv a, iv 3, rv b, iv ((2 : Int32) + (1 : Int32)), iv 3, iv 2, iv c2_]) rfl kz) ?_
  show OG p e below Φ T8 m 38 #[rv a, iv 3, rv b, iv 3, iv 3, iv 2, iv c2_] []
  refine OGo.st (fun _ kz => XS.iinc X8.here hx rfl (hb hby d7_38) rfl (l' := #[rv a, iv 3, rv b, iv 3, iv 3, iv ((2 : Int32) + (1 : Int32)), iv c2_]) rfl kz) ?_
  show OG p e below Φ T8 m 41 #[rv a, iv 3, rv b, iv 3, iv 3, iv 3, iv c2_] []
  refine OGo.st (fun _ kz => XS.goto X8.here hx rfl (pc0 := 41) (pc' := 3) rfl (hb hby d7_41) (by decide) (by decide) kz) ?_
  show OG p e below Φ T8 m 3 #[rv a, iv 3, rv b, iv 3, iv 3, iv 3, iv c2_] []
  refine OGo.st (fun _ kz => XS.iload X8.here hx rfl (hb hby d7_3) rfl kz) ?_
  show OG p e below Φ T8 m 5 #[rv a, iv 3, rv b, iv 3, iv 3, iv 3, iv c2_] [(.int 3)]
  refine OGo.st (fun _ kz => XS.iload X8.here hx rfl (hb hby d7_5) rfl kz) ?_
  show OG p e below Φ T8 m 7 #[rv a, iv 3, rv b, iv 3, iv 3, iv 3, iv c2_] [(.int 3), (.int 3)]
  refine OGo.st (fun _ kz => XS.icmpYes X8.here hx rfl (pc0 := 7) (pc' := 44) rfl (hb hby d7_7) rfl (XT.ii_ge_t (by decide)) (by decide) (by decide) kz) ?_
  show OG p e below Φ T8 m 44 #[rv a, iv 3, rv b, iv 3, iv 3, iv 3, iv c2_] []
  refine OGo.st (fun _ kz => XS.iload X8.here hx rfl (hb hby d7_44) rfl kz) ?_
  show OG p e below Φ T8 m 46 #[rv a, iv 3, rv b, iv 3, iv 3, iv 3, iv c2_] [(.int 3)]
  refine OGo.fin X8 hlk (v := (some (.int 3))) (fun h => by rw [hret] at h; cases h) (by decide) (by decide) (fun fs hr => X8.ireturnOut hx hret rfl (by simp) (hb hby d7_46) hr) fun U eU hF => hΦ _ _ _ ?_ hF
  rw [eU, e8]
  show Q_rsl3c2 Z a ca b cb c0_ c1_ c2_ h0 n0 _ _ _
  exact ⟨rfl, N8, K8, V8⟩

theorem ef_rsl3c3 (m : MethodId) (x0 : Addr) (x1 : Int32) (x2 : Int32) : entryFrame m #[(.ref x0), (.int x1), (.int x2)] 6 = mkF m 0 #[.val (.ref x0), .val (.int x1), .val (.int x2), .unset, .unset, .unset] [] := by first | (simp [entryFrame, mkF, argsToLocals, Value.category]; done) | rfl
def Q_rsl3c3 (Z : State) (a : Addr) (ca : ClassId) (c0_ : Int32) (c1_ : Int32) (c2_ : Int32) (h0 : Heap) (n0 : Nat) (v : Option Value) (h : Heap) (L : List Loc) : Prop := ∃ b cb, v = some (.ref b) ∧ Fr n0 L ∧ Keep h0 h [] ∧ Arv Z h b cb .byte (3 : Int32) [(.int (nar .byte (c0_.toInt8.toInt32))), (.int (nar .byte (c1_.toInt8.toInt32))), (.int (nar .byte (c2_.toInt8.toInt32)))] (.int (0 : Int32)) ∧ h0.size ≤ b
set_option maxRecDepth 65536 in
set_option maxHeartbeats 40000000 in
theorem rsl3c3 (l : Launch) (Z : State) (a0 : Array Value) (hw : ∀ d ∈ tables_1, d.before a0 Z = true) (ws : List Jvm.Cond) (a : Addr) (ca : ClassId) (c0_ : Int32) (c1_ : Int32) (c2_ : Int32) (h0 : Heap) (n0 : Nat) (Z0 : n0 ≤ h0.size) (V_a : Arv Z h0 a ca .char (3 : Int32) [(.int c0_), (.int c1_), (.int c2_)] (.int (0 : Int32))) (hl0 : ¬ (255 : Int32) < c0_) (hl1 : ¬ (255 : Int32) < c1_) (hl2 : ¬ (255 : Int32) < c2_) :
    OCon l Z (⟨"java/lang/StringUTF16", "compress", "([CII)[B"⟩ : MethodName) jdk_52_method_16_code 6 (some (.array .byte)) ws ({ frames := 1, cells := 1, slots := 3, locals := 18 } : Room) #[(.ref a), (.int (0 : Int32)), (.int (3 : Int32))] h0 (Q_rsl3c3 Z a ca c0_ c1_ c2_ h0 n0) := by
  refine OCon.of (plainFor_of_name pn1) ?_
  intro p e s m below meth c s₁ Φ X0 hx hby hml hown hnm hret hlk hZ e0 hΦ
  have N0 := Fr.nil n0
  refine OGo.st (fun _ kz => castTop (ef_rsl3c3 m a (0 : Int32) (3 : Int32)) kz) ?_
  have K0 := Keep.refl h0 []
  show OG p e below Φ s₁ m 0 #[rv a, iv 0, iv 3, .unset, .unset, .unset] []
  refine OGo.st (fun _ kz => XS.iloadN X0.here hx rfl (hb hby d6_0) rfl kz) ?_
  show OG p e below Φ s₁ m 1 #[rv a, iv 0, iv 3, .unset, .unset, .unset] [(.int 3)]
  obtain ⟨T1, h1, c1, X1, e1, E1, Ar1, st1⟩ := newP (aty := .byte) X0 hx hZ (ow26 hw) e0 (g := (mkF m 1 #[rv a, iv 0, iv 3, .unset, .unset, .unset] [(.int 3)])) rfl (hb hby d6_1) rfl (by decide) (cap := 3) (by decide) (by decide) (by decide) (by decide)
  obtain ⟨b1, g1⟩ : ∃ z, z = h0.size := ⟨_, rfl⟩
  rw [← g1] at Ar1 st1
  have ne1_a : a ≠ b1 := by rw [g1]; exact Nat.ne_of_lt V_a.lt
  have F2 := V_a.ext E1
  have gb1 : n0 ≤ b1 := Nat.le_trans Z0 (Nat.le_of_eq g1.symm)
  have sz1 : h0.size ≤ b1 := Nat.le_trans K0.1 (Nat.le_of_eq g1.symm)
  have K1 := K0.ext E1
  have Zs1 : n0 ≤ h1.size := Nat.le_trans Z0 E1.1
  have V1 : Arv Z h1 b1 c1 .byte (3 : Int32) [(.int (0 : Int32)), (.int (0 : Int32)), (.int (0 : Int32))] (.int (0 : Int32)) := (Arv.new Ar1 (by decide)).pad (pad_rep [] _ 3)
  refine OGo.st st1 ?_
  show OG p e below Φ T1 m 3 #[rv a, iv 0, iv 3, .unset, .unset, .unset] [(.ref b1)]
  refine OGo.st (fun _ kz => XS.astoreN X1.here hx rfl (hb hby d6_3) rfl rfl (l' := #[rv a, iv 0, iv 3, rv b1, .unset, .unset]) rfl kz) ?_
  show OG p e below Φ T1 m 4 #[rv a, iv 0, iv 3, rv b1, .unset, .unset] []
  refine OGo.st (fun _ kz => XS.aloadN X1.here hx rfl (hb hby d6_4) rfl rfl kz) ?_
  show OG p e below Φ T1 m 5 #[rv a, iv 0, iv 3, rv b1, .unset, .unset] [(.ref a)]
  refine OGo.st (fun _ kz => XS.iloadN X1.here hx rfl (hb hby d6_5) rfl kz) ?_
  show OG p e below Φ T1 m 6 #[rv a, iv 0, iv 3, rv b1, .unset, .unset] [(.int 0), (.ref a)]
  refine OGo.st (fun _ kz => XS.aloadN X1.here hx rfl (hb hby d6_6) rfl rfl kz) ?_
  show OG p e below Φ T1 m 7 #[rv a, iv 0, iv 3, rv b1, .unset, .unset] [(.ref b1), (.int 0), (.ref a)]
  refine OGo.st (fun _ kz => XS.iconst X1.here hx rfl (hb hby d6_7) kz) ?_
  show OG p e below Φ T1 m 8 #[rv a, iv 0, iv 3, rv b1, .unset, .unset] [(.int 0), (.ref b1), (.int 0), (.ref a)]
  refine OGo.st (fun _ kz => XS.iloadN X1.here hx rfl (hb hby d6_8) rfl kz) ?_
  show OG p e below Φ T1 m 9 #[rv a, iv 0, iv 3, rv b1, .unset, .unset] [(.int 3), (.int 0), (.ref b1), (.int 0), (.ref a)]
  obtain ⟨_, T3, L3, X3, hQ3, st3⟩ := own_callSt X1 hx hZ hown (ow38 hw) (ow39 hw) (ow36 hw) (ow40 hw) (by decide) (rsl3c2 l Z a0 hw [] a ca b1 c1 c0_ c1_ c2_ h1 n0 Zs1 F2 V1 ne1_a gb1 hl0 hl1 hl2) e1 (W := 0) (by decide) (by decide) (by decide) (by decide) (pc := 9) (ls := #[rv a, iv 0, iv 3, rv b1, .unset, .unset]) (stk := [(.int 3), (.int 0), (.ref b1), (.int 0), (.ref a)]) (by rw [hml]; rfl) (argsL := [(.ref a), (.int 0), (.ref b1), (.int 0), (.int 3)]) (rest := []) (lenOf pd1 rfl) rfl rfl (Nat.le_of_eq rfl) (hb hby d6_9)
  obtain ⟨rfl, Nq3, Kq3, Vq3⟩ := hQ3
  have N3 := Fr.app N0 Nq3
  have Zs3 : n0 ≤ T3.heap.size := Nat.le_trans Zs1 Kq3.1
  have F4 := F2.keep Kq3 (ninS ne1_a nin0)
  have K3 := K1.trans Kq3 (allS (Or.inr sz1) all0)
  refine OGo.st st3 ?_
  show OG p e below Φ T3 m 12 #[rv a, iv 0, iv 3, rv b1, .unset, .unset] [(.int 3)]
  refine OGo.st (fun _ kz => XS.istore X3.here hx rfl (hb hby d6_12) rfl (l' := #[rv a, iv 0, iv 3, rv b1, iv 3, .unset]) rfl kz) ?_
  show OG p e below Φ T3 m 14 #[rv a, iv 0, iv 3, rv b1, iv 3, .unset] []
  refine OGo.st (fun _ kz => XS.iload X3.here hx rfl (hb hby d6_14) rfl kz) ?_
  show OG p e below Φ T3 m 16 #[rv a, iv 0, iv 3, rv b1, iv 3, .unset] [(.int 3)]
  refine OGo.st (fun _ kz => XS.iloadN X3.here hx rfl (hb hby d6_16) rfl kz) ?_
  show OG p e below Φ T3 m 17 #[rv a, iv 0, iv 3, rv b1, iv 3, .unset] [(.int 3), (.int 3)]
  refine OGo.st (fun _ kz => XS.icmpYes X3.here hx rfl (pc0 := 17) (pc' := 57) rfl (hb hby d6_17) rfl (XT.ii_eq_t (by decide)) (by decide) (by decide) kz) ?_
  show OG p e below Φ T3 m 57 #[rv a, iv 0, iv 3, rv b1, iv 3, .unset] []
  refine OGo.st (fun _ kz => XS.aloadN X3.here hx rfl (hb hby d6_57) rfl rfl kz) ?_
  show OG p e below Φ T3 m 58 #[rv a, iv 0, iv 3, rv b1, iv 3, .unset] [(.ref b1)]
  refine OGo.fin X3 hlk (v := (some (.ref b1))) (fun h => by rw [hret] at h; cases h) (by decide) (by decide) (fun fs hr => X3.areturnOut hx rfl hret rfl (hb hby d6_58) hr) fun U eU hF => hΦ _ _ _ ?_ hF
  rw [eU]
  show Q_rsl3c3 Z a ca c0_ c1_ c2_ h0 n0 _ _ _
  exact ⟨_, _, rfl, N3, K3, Vq3, sz1⟩

theorem ef_rsl3cf (m : MethodId) (x0 : Addr) (x1 : Int32) : entryFrame m #[(.ref x0), (.int x1)] 2 = mkF m 0 #[.val (.ref x0), .val (.int x1)] [] := by first | (simp [entryFrame, mkF, argsToLocals, Value.category]; done) | rfl
def Q_rsl3cf (Z : State) (b : Addr) (cb : ClassId) (c0_ : Int32) (c1_ : Int32) (c2_ : Int32) (h0 : Heap) (n0 : Nat) (v : Option Value) (h : Heap) (L : List Loc) : Prop := v = some (.int (0 : Int32)) ∧ Fr n0 L ∧ h = h0
set_option maxRecDepth 65536 in
set_option maxHeartbeats 40000000 in
theorem rsl3cf (l : Launch) (Z : State) (a0 : Array Value) (hw : ∀ d ∈ tables_1, d.before a0 Z = true) (ws : List Jvm.Cond) (b : Addr) (cb : ClassId) (c0_ : Int32) (c1_ : Int32) (c2_ : Int32) (h0 : Heap) (n0 : Nat) (Z0 : n0 ≤ h0.size) (V_b : Arv Z h0 b cb .byte (3 : Int32) [(.int (nar .byte (c0_.toInt8.toInt32))), (.int (nar .byte (c1_.toInt8.toInt32))), (.int (nar .byte (c2_.toInt8.toInt32)))] (.int (0 : Int32))) :
    OCon l Z (⟨"java/lang/StringUTF16", "coderFromArrayLen", "([BI)B"⟩ : MethodName) jdk_52_method_15_code 2 (some .byte) ws ({ frames := 0, cells := 0, slots := 0, locals := 0 } : Room) #[(.ref b), (.int (3 : Int32))] h0 (Q_rsl3cf Z b cb c0_ c1_ c2_ h0 n0) := by
  refine OCon.of (plainFor_of_name pn1) ?_
  intro p e s m below meth c s₁ Φ X0 hx hby hml hown hnm hret hlk hZ e0 hΦ
  have N0 := Fr.nil n0
  refine OGo.st (fun _ kz => castTop (ef_rsl3cf m b (3 : Int32)) kz) ?_
  show OG p e below Φ s₁ m 0 #[rv b, iv 3] []
  refine OGo.st (fun _ kz => XS.iloadN X0.here hx rfl (hb hby d8_0) rfl kz) ?_
  show OG p e below Φ s₁ m 1 #[rv b, iv 3] [(.int 3)]
  refine OGo.st (fun _ kz => XS.aloadN X0.here hx rfl (hb hby d8_1) rfl rfl kz) ?_
  show OG p e below Φ s₁ m 2 #[rv b, iv 3] [(.ref b), (.int 3)]
  obtain ⟨cl1, Aq1, -, S1, M1, -, -⟩ := id V_b
  refine OGo.st (fun _ kz => X0.arraylength hx (by rw [e0]; exact Aq1.1) (State.isArrayOf_alike hZ.alike Aq1.2.1) (g := (mkF m 2 #[rv b, iv 3] [(.ref b), (.int 3)])) rfl rfl (hb hby d8_2) _ kz) ?_
  rw [len_of S1 M1]
  show OG p e below Φ s₁ m 3 #[rv b, iv 3] [(.int 3), (.int 3)]
  refine OGo.st (fun _ kz => XS.isub X0.here hx rfl (hb hby d8_3) rfl kz) ?_
  show OG p e below Φ s₁ m 4 #[rv b, iv 3] [(.int 0)]
  refine OGo.st (fun _ kz => XS.bipush X0.here hx rfl (hb hby d8_4) kz) ?_
  show OG p e below Φ s₁ m 6 #[rv b, iv 3] [(.int 31), (.int 0)]
  refine OGo.st (fun _ kz => XT.iushr X0.here hx rfl (hb hby d8_6) rfl kz) ?_
  show OG p e below Φ s₁ m 7 #[rv b, iv 3] [(.int 0)]
  refine OGo.st (fun _ kz => XT.i2b X0.here hx rfl (hb hby d8_7) rfl kz) ?_
  show OG p e below Φ s₁ m 8 #[rv b, iv 3] [(.int 0)]
  refine OGo.fin X0 hlk (v := (some (.int 0))) (fun h => by rw [hret] at h; cases h) (by decide) (by decide) (fun fs hr => X0.ireturnOut hx hret rfl (by simp) (hb hby d8_8) hr) fun U eU hF => hΦ _ _ _ ?_ hF
  rw [eU, e0]
  show Q_rsl3cf Z b cb c0_ c1_ c2_ h0 n0 _ _ _
  exact ⟨rfl, N0, rfl⟩

theorem ef_rsl3i4 (m : MethodId) (x0 : Addr) (x1 : Addr) (x2 : Int32) (x3 : Int32) : entryFrame m #[(.ref x0), (.ref x1), (.int x2), (.int x3), .null] 6 = mkF m 0 #[.val (.ref x0), .val (.ref x1), .val (.int x2), .val (.int x3), .val .null, .unset] [] := by first | (simp [entryFrame, mkF, argsToLocals, Value.category]; done) | rfl
def Q_rsl3i4 (Z : State) (s_ : Addr) (a : Addr) (ca : ClassId) (qc : Int32) (c0_ : Int32) (c1_ : Int32) (c2_ : Int32) (h0 : Heap) (n0 : Nat) (v : Option Value) (h : Heap) (L : List Loc) : Prop := v = none ∧ Fr n0 L ∧ Keep h0 h [s_] ∧ Exa Z h s_ "java/lang/String" ∧ ∃ b cb, Fld Z h s_ "java/lang/String" "value" "[B" (.ref b) ∧ Fld Z h s_ "java/lang/String" "coder" "B" (.int (0 : Int32)) ∧ Arv Z h b cb .byte (3 : Int32) [(.int (nar .byte (c0_.toInt8.toInt32))), (.int (nar .byte (c1_.toInt8.toInt32))), (.int (nar .byte (c2_.toInt8.toInt32)))] (.int (0 : Int32)) ∧ h0.size ≤ b
set_option maxRecDepth 65536 in
set_option maxHeartbeats 40000000 in
theorem rsl3i4 (l : Launch) (Z : State) (a0 : Array Value) (hw : ∀ d ∈ tables_1, d.before a0 Z = true) (ws : List Jvm.Cond) (s_ : Addr) (a : Addr) (ca : ClassId) (qc : Int32) (c0_ : Int32) (c1_ : Int32) (c2_ : Int32) (h0 : Heap) (n0 : Nat) (Z0 : n0 ≤ h0.size) (E_s : Exa Z h0 s_ "java/lang/String") (g_s : n0 ≤ s_) (F_v : Fld Z h0 s_ "java/lang/String" "value" "[B" .null) (F_c : Fld Z h0 s_ "java/lang/String" "coder" "B" (.int (0 : Int32))) (V_a : Arv Z h0 a ca .char (3 : Int32) [(.int c0_), (.int c1_), (.int c2_)] (.int (0 : Int32))) (nsa : s_ ≠ a) (S_q : Sta Z h0 "java/lang/String" "COMPACT_STRINGS" "Z" (.int qc)) (hq : ¬ qc = 0) (hl0 : ¬ (255 : Int32) < c0_) (hl1 : ¬ (255 : Int32) < c1_) (hl2 : ¬ (255 : Int32) < c2_) :
    OCon l Z (⟨"java/lang/String", "<init>", "([CIILjava/lang/Void;)V"⟩ : MethodName) jdk_42_method_149_code 6 none ws ({ frames := 2, cells := 1, slots := 3, locals := 35 } : Room) #[(.ref s_), (.ref a), (.int (0 : Int32)), (.int (3 : Int32)), .null] h0 (Q_rsl3i4 Z s_ a ca qc c0_ c1_ c2_ h0 n0) := by
  refine OCon.of (plainFor_of_name pn0) ?_
  intro p e s m below meth c s₁ Φ X0 hx hby hml hown hnm hret hlk hZ e0 hΦ
  have N0 := Fr.nil n0
  refine OGo.st (fun _ kz => castTop (ef_rsl3i4 m s_ a (0 : Int32) (3 : Int32)) kz) ?_
  have K0 := Keep.refl h0 [s_]
  show OG p e below Φ s₁ m 0 #[rv s_, rv a, iv 0, iv 3, .val .null, .unset] []
  refine OGo.st (fun _ kz => XS.aloadN X0.here hx rfl (hb hby d4_0) rfl rfl kz) ?_
  show OG p e below Φ s₁ m 1 #[rv s_, rv a, iv 0, iv 3, .val .null, .unset] [(.ref s_)]
  obtain ⟨T1, X1, e1, st1⟩ := initO X0 hx hZ hown (ow22 hw) (ow23 hw) (ow24 hw) e0 (g := (mkF m 1 #[rv s_, rv a, iv 0, iv 3, .val .null, .unset] [(.ref s_)])) rfl (by rw [hml]; rfl) rfl (hb hby d4_1) (by decide) (W := 0) (Nat.le_of_eq rfl) (by decide)
  refine OGo.st st1 ?_
  show OG p e below Φ T1 m 4 #[rv s_, rv a, iv 0, iv 3, .val .null, .unset] []
  refine OGo.st (fun _ kz => XS.iloadN X1.here hx rfl (hb hby d4_4) rfl kz) ?_
  show OG p e below Φ T1 m 5 #[rv s_, rv a, iv 0, iv 3, .val .null, .unset] [(.int 3)]
  refine OGo.st (fun _ kz => XS.ifYes X1.here hx rfl (pc0 := 5) (pc' := 27) rfl (hb hby d4_5) rfl (XT.i0_ne_t (by decide)) (by decide) (by decide) kz) ?_
  show OG p e below Φ T1 m 27 #[rv s_, rv a, iv 0, iv 3, .val .null, .unset] []
  obtain ⟨T2, X2, e2, st2⟩ := getS2 X1 hx hZ hown (host := "") (Or.inl (ow33 hw)) Via.refl e1 S_q (g := (mkF m 27 #[rv s_, rv a, iv 0, iv 3, .val .null, .unset] [])) rfl (hb hby d4_27)
  refine OGo.st st2 ?_
  show OG p e below Φ T2 m 30 #[rv s_, rv a, iv 0, iv 3, .val .null, .unset] [(.int qc)]
  refine OGo.st (fun _ kz => XS.ifNo X2.here hx rfl (hb hby d4_30) rfl (XT.i0_eq_f hq) kz) ?_
  show OG p e below Φ T2 m 33 #[rv s_, rv a, iv 0, iv 3, .val .null, .unset] []
  refine OGo.st (fun _ kz => XS.aloadN X2.here hx rfl (hb hby d4_33) rfl rfl kz) ?_
  show OG p e below Φ T2 m 34 #[rv s_, rv a, iv 0, iv 3, .val .null, .unset] [(.ref a)]
  refine OGo.st (fun _ kz => XS.iloadN X2.here hx rfl (hb hby d4_34) rfl kz) ?_
  show OG p e below Φ T2 m 35 #[rv s_, rv a, iv 0, iv 3, .val .null, .unset] [(.int 0), (.ref a)]
  refine OGo.st (fun _ kz => XS.iloadN X2.here hx rfl (hb hby d4_35) rfl kz) ?_
  show OG p e below Φ T2 m 36 #[rv s_, rv a, iv 0, iv 3, .val .null, .unset] [(.int 3), (.int 0), (.ref a)]
  obtain ⟨_, T3, L3, X3, hQ3, st3⟩ := own_callSt X2 hx hZ hown (ow34 hw) (ow35 hw) (ow36 hw) (ow37 hw) (by decide) (rsl3c3 l Z a0 hw [] a ca c0_ c1_ c2_ h0 n0 Z0 V_a hl0 hl1 hl2) e2 (W := 0) (by decide) (by decide) (by decide) (by decide) (pc := 36) (ls := #[rv s_, rv a, iv 0, iv 3, .val .null, .unset]) (stk := [(.int 3), (.int 0), (.ref a)]) (by rw [hml]; rfl) (argsL := [(.ref a), (.int 0), (.int 3)]) (rest := []) (lenOf pd2 rfl) rfl rfl (Nat.le_of_eq rfl) (hb hby d4_36)
  obtain ⟨b3, cb3, rfl, Nq3, Kq3, Vq3, hz3⟩ := hQ3
  have nq3_a : a ≠ b3 := Nat.ne_of_lt (Nat.lt_of_lt_of_le V_a.lt hz3)
  have nq3_s_ : s_ ≠ b3 := Nat.ne_of_lt (Nat.lt_of_lt_of_le E_s.lt hz3)
  have gq3 : n0 ≤ b3 := Nat.le_trans Z0 hz3
  have sq3 : h0.size ≤ b3 := Nat.le_trans K0.1 hz3
  have N3 := Fr.app N0 Nq3
  have Zs3 : n0 ≤ T3.heap.size := Nat.le_trans Z0 Kq3.1
  have F4 := E_s.keep Kq3
  have F5 := F_v.keep Kq3 nin0
  have F6 := F_c.keep Kq3 nin0
  have F7 := V_a.keep Kq3 nin0
  have K3 := K0.trans Kq3 all0
  refine OGo.st st3 ?_
  show OG p e below Φ T3 m 39 #[rv s_, rv a, iv 0, iv 3, .val .null, .unset] [(.ref b3)]
  refine OGo.st (fun _ kz => XS.astore X3.here hx rfl (hb hby d4_39) rfl rfl (l' := #[rv s_, rv a, iv 0, iv 3, .val .null, rv b3]) rfl kz) ?_
  show OG p e below Φ T3 m 41 #[rv s_, rv a, iv 0, iv 3, .val .null, rv b3] []
  refine OGo.st (fun _ kz => XS.aloadN X3.here hx rfl (hb hby d4_41) rfl rfl kz) ?_
  show OG p e below Φ T3 m 42 #[rv s_, rv a, iv 0, iv 3, .val .null, rv b3] [(.ref s_)]
  refine OGo.st (fun _ kz => XS.aload X3.here hx rfl (hb hby d4_42) rfl rfl kz) ?_
  show OG p e below Φ T3 m 44 #[rv s_, rv a, iv 0, iv 3, .val .null, rv b3] [(.ref b3), (.ref s_)]
  refine OGo.st (fun _ kz => XS.iloadN X3.here hx rfl (hb hby d4_44) rfl kz) ?_
  show OG p e below Φ T3 m 45 #[rv s_, rv a, iv 0, iv 3, .val .null, rv b3] [(.int 3), (.ref b3), (.ref s_)]
  obtain ⟨_, T8, L8, X8, hQ8, st8⟩ := own_callSt X3 hx hZ hown (ow41 hw) (ow42 hw) (ow36 hw) (ow43 hw) (by decide) (rsl3cf l Z a0 hw [] b3 cb3 c0_ c1_ c2_ T3.heap n0 Zs3 Vq3) rfl (W := 1) (by decide) (by decide) (by decide) (by decide) (pc := 45) (ls := #[rv s_, rv a, iv 0, iv 3, .val .null, rv b3]) (stk := [(.int 3), (.ref b3), (.ref s_)]) (by rw [hml]; rfl) (argsL := [(.ref b3), (.int 3)]) (rest := [(.ref s_)]) (lenOf pd3 rfl) rfl rfl (Nat.le_of_eq rfl) (hb hby d4_45)
  obtain ⟨rfl, Nq8, e8⟩ := hQ8
  have N8 := Fr.app N3 Nq8
  refine OGo.st st8 ?_
  show OG p e below Φ T8 m 48 #[rv s_, rv a, iv 0, iv 3, .val .null, rv b3] [(.int 0), (.ref s_)]
  obtain ⟨T9, h9, X9, e9, W9, st9⟩ := putF X8 hx hZ hown (host := "") (Or.inl (ow32 hw)) Via.refl e8 F6 F4 (Or.inr ⟨(ow28 hw), rfl, hnm⟩) (ow12 hw) (ty := .byte) (by decide) (by decide) (by decide) (g := (mkF m 48 #[rv s_, rv a, iv 0, iv 3, .val .null, rv b3] [(.int 0), (.ref s_)])) rfl rfl (hb hby d4_48)
  have F10 := F4.wr W9
  have F11 := F5.other W9 (Or.inr (slot_ne (Or.inr (ow27 hw)) (Or.inr (ow28 hw)) (by decide) (t := (.array .byte)) (t' := .byte) (by decide) (by decide)))
  have F12 := F6.same W9
  have F13 := F7.other W9 (Ne.symm nsa)
  have F14 := Vq3.other W9 (Ne.symm nq3_s_)
  have K9 := K3.wr W9 (Or.inl (List.mem_of_getElem? (i := 0) rfl))
  have N9 := Fr.snoc X9 N8 g_s
  have Zs9 : n0 ≤ h9.size := by rw [W9.size]; exact Zs3
  refine OGo.st st9 ?_
  show OG p e below Φ T9 m 51 #[rv s_, rv a, iv 0, iv 3, .val .null, rv b3] []
  refine OGo.st (fun _ kz => XS.aloadN X9.here hx rfl (hb hby d4_51) rfl rfl kz) ?_
  show OG p e below Φ T9 m 52 #[rv s_, rv a, iv 0, iv 3, .val .null, rv b3] [(.ref s_)]
  refine OGo.st (fun _ kz => XS.aload X9.here hx rfl (hb hby d4_52) rfl rfl kz) ?_
  show OG p e below Φ T9 m 54 #[rv s_, rv a, iv 0, iv 3, .val .null, rv b3] [(.ref b3), (.ref s_)]
  obtain ⟨T15, h15, X15, e15, W15, st15⟩ := putF X9 hx hZ hown (host := "") (Or.inl (ow31 hw)) Via.refl e9 F11 F10 (Or.inr ⟨(ow27 hw), rfl, hnm⟩) (ow12 hw) (ty := (.array .byte)) (by decide) rfl rfl (g := (mkF m 54 #[rv s_, rv a, iv 0, iv 3, .val .null, rv b3] [(.ref b3), (.ref s_)])) rfl rfl (hb hby d4_54)
  have F16 := F10.wr W15
  have F17 := F11.same W15
  have F18 := F12.other W15 (Or.inr (slot_ne (Or.inr (ow28 hw)) (Or.inr (ow27 hw)) (by decide) (t := .byte) (t' := (.array .byte)) (by decide) (by decide)))
  have F19 := F13.other W15 (Ne.symm nsa)
  have F20 := F14.other W15 (Ne.symm nq3_s_)
  have K15 := K9.wr W15 (Or.inl (List.mem_of_getElem? (i := 0) rfl))
  have N15 := Fr.snoc X15 N9 g_s
  have Zs15 : n0 ≤ h15.size := by rw [W15.size]; exact Zs9
  refine OGo.st st15 ?_
  show OG p e below Φ T15 m 57 #[rv s_, rv a, iv 0, iv 3, .val .null, rv b3] []
  refine OGo.fin X15 hlk (v := none) (fun _ => rfl) (by decide) (by decide) (fun fs hr => X15.returnOut hx hret (hb hby d4_57) hr) fun U eU hF => hΦ _ _ _ ?_ hF
  rw [eU, e15]
  show Q_rsl3i4 Z s_ a ca qc c0_ c1_ c2_ h0 n0 _ _ _
  exact ⟨rfl, N15, K15, F16, _, _, F17, F18, F20, sq3⟩

theorem ef_rsl3i1 (m : MethodId) (x0 : Addr) (x1 : Addr) : entryFrame m #[(.ref x0), (.ref x1)] 2 = mkF m 0 #[.val (.ref x0), .val (.ref x1)] [] := by first | (simp [entryFrame, mkF, argsToLocals, Value.category]; done) | rfl
def Q_rsl3i1 (Z : State) (s_ : Addr) (a : Addr) (ca : ClassId) (qc : Int32) (c0_ : Int32) (c1_ : Int32) (c2_ : Int32) (h0 : Heap) (n0 : Nat) (v : Option Value) (h : Heap) (L : List Loc) : Prop := v = none ∧ Fr n0 L ∧ Keep h0 h [s_] ∧ Exa Z h s_ "java/lang/String" ∧ ∃ b cb, Fld Z h s_ "java/lang/String" "value" "[B" (.ref b) ∧ Fld Z h s_ "java/lang/String" "coder" "B" (.int (0 : Int32)) ∧ Arv Z h b cb .byte (3 : Int32) [(.int (nar .byte (c0_.toInt8.toInt32))), (.int (nar .byte (c1_.toInt8.toInt32))), (.int (nar .byte (c2_.toInt8.toInt32)))] (.int (0 : Int32)) ∧ h0.size ≤ b
set_option maxRecDepth 65536 in
set_option maxHeartbeats 40000000 in
theorem rsl3i1 (l : Launch) (Z : State) (a0 : Array Value) (hw : ∀ d ∈ tables_1, d.before a0 Z = true) (ws : List Jvm.Cond) (s_ : Addr) (a : Addr) (ca : ClassId) (qc : Int32) (c0_ : Int32) (c1_ : Int32) (c2_ : Int32) (h0 : Heap) (n0 : Nat) (Z0 : n0 ≤ h0.size) (E_s : Exa Z h0 s_ "java/lang/String") (g_s : n0 ≤ s_) (F_v : Fld Z h0 s_ "java/lang/String" "value" "[B" .null) (F_c : Fld Z h0 s_ "java/lang/String" "coder" "B" (.int (0 : Int32))) (V_a : Arv Z h0 a ca .char (3 : Int32) [(.int c0_), (.int c1_), (.int c2_)] (.int (0 : Int32))) (nsa : s_ ≠ a) (S_q : Sta Z h0 "java/lang/String" "COMPACT_STRINGS" "Z" (.int qc)) (hq : ¬ qc = 0) (hl0 : ¬ (255 : Int32) < c0_) (hl1 : ¬ (255 : Int32) < c1_) (hl2 : ¬ (255 : Int32) < c2_) :
    OCon l Z (⟨"java/lang/String", "<init>", "([C)V"⟩ : MethodName) jdk_42_method_3_code 2 none ws ({ frames := 3, cells := 1, slots := 3, locals := 52 } : Room) #[(.ref s_), (.ref a)] h0 (Q_rsl3i1 Z s_ a ca qc c0_ c1_ c2_ h0 n0) := by
  refine OCon.of (plainFor_of_name pn0) ?_
  intro p e s m below meth c s₁ Φ X0 hx hby hml hown hnm hret hlk hZ e0 hΦ
  have N0 := Fr.nil n0
  refine OGo.st (fun _ kz => castTop (ef_rsl3i1 m s_ a) kz) ?_
  have K0 := Keep.refl h0 [s_]
  show OG p e below Φ s₁ m 0 #[rv s_, rv a] []
  refine OGo.st (fun _ kz => XS.aloadN X0.here hx rfl (hb hby d3_0) rfl rfl kz) ?_
  show OG p e below Φ s₁ m 1 #[rv s_, rv a] [(.ref s_)]
  refine OGo.st (fun _ kz => XS.aloadN X0.here hx rfl (hb hby d3_1) rfl rfl kz) ?_
  show OG p e below Φ s₁ m 2 #[rv s_, rv a] [(.ref a), (.ref s_)]
  refine OGo.st (fun _ kz => XS.iconst X0.here hx rfl (hb hby d3_2) kz) ?_
  show OG p e below Φ s₁ m 3 #[rv s_, rv a] [(.int 0), (.ref a), (.ref s_)]
  refine OGo.st (fun _ kz => XS.aloadN X0.here hx rfl (hb hby d3_3) rfl rfl kz) ?_
  show OG p e below Φ s₁ m 4 #[rv s_, rv a] [(.ref a), (.int 0), (.ref a), (.ref s_)]
  obtain ⟨cl1, Aq1, -, S1, M1, -, -⟩ := id V_a
  refine OGo.st (fun _ kz => X0.arraylength hx (by rw [e0]; exact Aq1.1) (State.isArrayOf_alike hZ.alike Aq1.2.1) (g := (mkF m 4 #[rv s_, rv a] [(.ref a), (.int 0), (.ref a), (.ref s_)])) rfl rfl (hb hby d3_4) _ kz) ?_
  rw [len_of S1 M1]
  show OG p e below Φ s₁ m 5 #[rv s_, rv a] [(.int 3), (.int 0), (.ref a), (.ref s_)]
  refine OGo.st (fun _ kz => XS.aconstNull X0.here hx rfl (hb hby d3_5) kz) ?_
  show OG p e below Φ s₁ m 6 #[rv s_, rv a] [.null, (.int 3), (.int 0), (.ref a), (.ref s_)]
  obtain ⟨_, T2, L2, X2, hQ2, st2⟩ := own_callSp X0 hx hZ rfl hown (ow18 hw) (ow19 hw) (ow13 hw) (ow21 hw) (by decide) (rsl3i4 l Z a0 hw [] s_ a ca qc c0_ c1_ c2_ h0 n0 Z0 E_s g_s F_v F_c V_a nsa S_q hq hl0 hl1 hl2) e0 (W := 0) (by decide) (by decide) (by decide) (by decide) (pc := 6) (ls := #[rv s_, rv a]) (stk := [.null, (.int 3), (.int 0), (.ref a), (.ref s_)]) (by rw [hml]; rfl) (a := s_) (argsL := [(.ref a), (.int 0), (.int 3), .null]) (rest := []) (lenOf pd0 rfl) rfl rfl (Nat.le_of_eq rfl) (hb hby d3_6)
  obtain ⟨rfl, Nq2, Kq2, Eq2, b2, cb2, Fv2, Fc2, Vq2, hz2⟩ := hQ2
  have nq2_a : a ≠ b2 := Nat.ne_of_lt (Nat.lt_of_lt_of_le V_a.lt hz2)
  have nq2_s_ : s_ ≠ b2 := Nat.ne_of_lt (Nat.lt_of_lt_of_le E_s.lt hz2)
  have gq2 : n0 ≤ b2 := Nat.le_trans Z0 hz2
  have sq2 : h0.size ≤ b2 := Nat.le_trans K0.1 hz2
  have N2 := Fr.app N0 Nq2
  have Zs2 : n0 ≤ T2.heap.size := Nat.le_trans Z0 Kq2.1
  have F3 := V_a.keep Kq2 (ninS (Ne.symm nsa) nin0)
  have K2 := K0.trans Kq2 (allS (Or.inl (List.mem_of_getElem? (i := 0) rfl)) all0)
  refine OGo.st st2 ?_
  show OG p e below Φ T2 m 9 #[rv s_, rv a] []
  refine OGo.fin X2 hlk (v := none) (fun _ => rfl) (by decide) (by decide) (fun fs hr => X2.returnOut hx hret (hb hby d3_9) hr) fun U eU hF => hΦ _ _ _ ?_ hF
  rw [eU]
  show Q_rsl3i1 Z s_ a ca qc c0_ c1_ c2_ h0 n0 _ _ _
  exact ⟨rfl, N2, K2, Eq2, _, _, Fv2, Fc2, Vq2, sq2⟩

theorem ef_rsb3_0c2 (m : MethodId) (x0 : Addr) (x1 : Int32) (x2 : Addr) (x3 : Int32) (x4 : Int32) : entryFrame m #[(.ref x0), (.int x1), (.ref x2), (.int x3), (.int x4)] 7 = mkF m 0 #[.val (.ref x0), .val (.int x1), .val (.ref x2), .val (.int x3), .val (.int x4), .unset, .unset] [] := by first | (simp [entryFrame, mkF, argsToLocals, Value.category]; done) | rfl
def Q_rsb3_0c2 (Z : State) (a : Addr) (ca : ClassId) (b : Addr) (cb : ClassId) (c0_ : Int32) (c1_ : Int32) (c2_ : Int32) (h0 : Heap) (n0 : Nat) (v : Option Value) (h : Heap) (L : List Loc) : Prop := v = some (.int (0 : Int32)) ∧ Fr n0 L ∧ Keep h0 h [b]
set_option maxRecDepth 65536 in
set_option maxHeartbeats 40000000 in
theorem rsb3_0c2 (l : Launch) (Z : State) (a0 : Array Value) (hw : ∀ d ∈ tables_1, d.before a0 Z = true) (ws : List Jvm.Cond) (a : Addr) (ca : ClassId) (b : Addr) (cb : ClassId) (c0_ : Int32) (c1_ : Int32) (c2_ : Int32) (h0 : Heap) (n0 : Nat) (Z0 : n0 ≤ h0.size) (V_a : Arv Z h0 a ca .char (3 : Int32) [(.int c0_), (.int c1_), (.int c2_)] (.int (0 : Int32))) (V_b : Arv Z h0 b cb .byte (3 : Int32) [(.int (0 : Int32)), (.int (0 : Int32)), (.int (0 : Int32))] (.int (0 : Int32))) (nab : a ≠ b) (g_b : n0 ≤ b) (hb0 : (255 : Int32) < c0_) :
    OCon l Z (⟨"java/lang/StringUTF16", "compress", "([CI[BII)I"⟩ : MethodName) jdk_52_method_21_code 7 (some .int) ws ({ frames := 0, cells := 0, slots := 0, locals := 0 } : Room) #[(.ref a), (.int (0 : Int32)), (.ref b), (.int (0 : Int32)), (.int (3 : Int32))] h0 (Q_rsb3_0c2 Z a ca b cb c0_ c1_ c2_ h0 n0) := by
  refine OCon.of (plainFor_of_name pn1) ?_
  intro p e s m below meth c s₁ Φ X0 hx hby hml hown hnm hret hlk hZ e0 hΦ
  have N0 := Fr.nil n0
  refine OGo.st (fun _ kz => castTop (ef_rsb3_0c2 m a (0 : Int32) b (0 : Int32) (3 : Int32)) kz) ?_
  have K0 := Keep.refl h0 [b]
  show OG p e below Φ s₁ m 0 #[rv a, iv 0, rv b, iv 0, iv 3, .unset, .unset] []
  refine OGo.st (fun _ kz => XS.iconst X0.here hx rfl (hb hby d7_0) kz) ?_
  show OG p e below Φ s₁ m 1 #[rv a, iv 0, rv b, iv 0, iv 3, .unset, .unset] [(.int 0)]
  refine OGo.st (fun _ kz => XS.istore X0.here hx rfl (hb hby d7_1) rfl (l' := #[rv a, iv 0, rv b, iv 0, iv 3, iv 0, .unset]) rfl kz) ?_
  show OG p e below Φ s₁ m 3 #[rv a, iv 0, rv b, iv 0, iv 3, iv 0, .unset] []
  refine OGo.st (fun _ kz => XS.iload X0.here hx rfl (hb hby d7_3) rfl kz) ?_
  show OG p e below Φ s₁ m 5 #[rv a, iv 0, rv b, iv 0, iv 3, iv 0, .unset] [(.int 0)]
  refine OGo.st (fun _ kz => XS.iload X0.here hx rfl (hb hby d7_5) rfl kz) ?_
  show OG p e below Φ s₁ m 7 #[rv a, iv 0, rv b, iv 0, iv 3, iv 0, .unset] [(.int 3), (.int 0)]
  refine OGo.st (fun _ kz => XS.icmpNo X0.here hx rfl (hb hby d7_7) rfl (XT.ii_ge_f (by decide)) kz) ?_
  show OG p e below Φ s₁ m 10 #[rv a, iv 0, rv b, iv 0, iv 3, iv 0, .unset] []
  refine OGo.st (fun _ kz => XS.aloadN X0.here hx rfl (hb hby d7_10) rfl rfl kz) ?_
  show OG p e below Φ s₁ m 11 #[rv a, iv 0, rv b, iv 0, iv 3, iv 0, .unset] [(.ref a)]
  refine OGo.st (fun _ kz => XS.iloadN X0.here hx rfl (hb hby d7_11) rfl kz) ?_
  show OG p e below Φ s₁ m 12 #[rv a, iv 0, rv b, iv 0, iv 3, iv 0, .unset] [(.int 0), (.ref a)]
  obtain ⟨cl1, Aq1, -, S1, M1, H1, -⟩ := id V_a
  have in1 : ¬ ((0 : Int32) < 0 ∨ cl1.slots.size ≤ (0 : Int32).toNatClampNeg) := inb_of S1 ⟨by decide, by decide⟩
  have at1 : cl1.slots[(0 : Int32).toNatClampNeg]? = some (.int c0_) := H1.at in1 rfl
  refine OGo.st (fun _ kz => X0.caload hx (by rw [e0]; exact Aq1.1) (State.isArrayOf_alike hZ.alike Aq1.2.1) Aq1.2.2 in1 at1 (g := (mkF m 12 #[rv a, iv 0, rv b, iv 0, iv 3, iv 0, .unset] [(.int 0), (.ref a)])) rfl rfl (hb hby d7_12) _ kz) ?_
  show OG p e below Φ s₁ m 13 #[rv a, iv 0, rv b, iv 0, iv 3, iv 0, .unset] [(.int c0_)]
  refine OGo.st (fun _ kz => XS.istore X0.here hx rfl (hb hby d7_13) rfl (l' := #[rv a, iv 0, rv b, iv 0, iv 3, iv 0, iv c0_]) rfl kz) ?_
  show OG p e below Φ s₁ m 15 #[rv a, iv 0, rv b, iv 0, iv 3, iv 0, iv c0_] []
  refine OGo.st (fun _ kz => XS.iload X0.here hx rfl (hb hby d7_15) rfl kz) ?_
  show OG p e below Φ s₁ m 17 #[rv a, iv 0, rv b, iv 0, iv 3, iv 0, iv c0_] [(.int c0_)]
  refine OGo.st (fun _ kz => XS.sipush X0.here hx rfl (hb hby d7_17) kz) ?_
  show OG p e below Φ s₁ m 20 #[rv a, iv 0, rv b, iv 0, iv 3, iv 0, iv c0_] [(.int 255), (.int c0_)]
  refine OGo.st (fun _ kz => XS.icmpNo X0.here hx rfl (hb hby d7_20) rfl (XT.ii_le_f hb0) kz) ?_
  show OG p e below Φ s₁ m 23 #[rv a, iv 0, rv b, iv 0, iv 3, iv 0, iv c0_] []
  refine OGo.st (fun _ kz => XS.iload X0.here hx rfl (hb hby d7_23) rfl kz) ?_
  show OG p e below Φ s₁ m 25 #[rv a, iv 0, rv b, iv 0, iv 3, iv 0, iv c0_] [(.int 0)]
  refine OGo.fin X0 hlk (v := (some (.int 0))) (fun h => by rw [hret] at h; cases h) (by decide) (by decide) (fun fs hr => X0.ireturnOut hx hret rfl (by simp) (hb hby d7_25) hr) fun U eU hF => hΦ _ _ _ ?_ hF
  rw [eU, e0]
  show Q_rsb3_0c2 Z a ca b cb c0_ c1_ c2_ h0 n0 _ _ _
  exact ⟨rfl, N0, K0⟩

theorem ef_rsb3_0nl (m : MethodId) (x0 : Int32) : entryFrame m #[(.int x0)] 1 = mkF m 0 #[.val (.int x0)] [] := by first | (simp [entryFrame, mkF, argsToLocals, Value.category]; done) | rfl
def Q_rsb3_0nl (Z : State)  (h0 : Heap) (n0 : Nat) (v : Option Value) (h : Heap) (L : List Loc) : Prop := v = some (.int (6 : Int32)) ∧ Fr n0 L ∧ h = h0
set_option maxRecDepth 65536 in
set_option maxHeartbeats 40000000 in
theorem rsb3_0nl (l : Launch) (Z : State) (a0 : Array Value) (hw : ∀ d ∈ tables_1, d.before a0 Z = true) (ws : List Jvm.Cond)  (h0 : Heap) (n0 : Nat) (Z0 : n0 ≤ h0.size)  :
    OCon l Z (⟨"java/lang/StringUTF16", "newBytesLength", "(I)I"⟩ : MethodName) jdk_52_method_3_code 1 (some .int) ws ({ frames := 0, cells := 0, slots := 0, locals := 0 } : Room) #[(.int (3 : Int32))] h0 (Q_rsb3_0nl Z  h0 n0) := by
  refine OCon.of (plainFor_of_name pn1) ?_
  intro p e s m below meth c s₁ Φ X0 hx hby hml hown hnm hret hlk hZ e0 hΦ
  have N0 := Fr.nil n0
  refine OGo.st (fun _ kz => castTop (ef_rsb3_0nl m (3 : Int32)) kz) ?_
  show OG p e below Φ s₁ m 0 #[iv 3] []
  refine OGo.st (fun _ kz => XS.iloadN X0.here hx rfl (hb hby d21_0) rfl kz) ?_
  show OG p e below Φ s₁ m 1 #[iv 3] [(.int 3)]
  refine OGo.st (fun _ kz => XS.ifYes X0.here hx rfl (pc0 := 1) (pc' := 12) rfl (hb hby d21_1) rfl (XT.i0_ge_t (by decide)) (by decide) (by decide) kz) ?_
  show OG p e below Φ s₁ m 12 #[iv 3] []
  refine OGo.st (fun _ kz => XS.iloadN X0.here hx rfl (hb hby d21_12) rfl kz) ?_
  show OG p e below Φ s₁ m 13 #[iv 3] [(.int 3)]
  refine OGo.st (fun _ kz => X0.ldcI hx hown (mvT hZ (ow113 hw)) rfl (hb hby d21_13) kz) ?_
  show OG p e below Φ s₁ m 15 #[iv 3] [(.int 1073741823), (.int 3)]
  refine OGo.st (fun _ kz => XS.icmpYes X0.here hx rfl (pc0 := 15) (pc' := 55) rfl (hb hby d21_15) rfl (XT.ii_lt_t (by decide)) (by decide) (by decide) kz) ?_
  show OG p e below Φ s₁ m 55 #[iv 3] []
  refine OGo.st (fun _ kz => XS.iloadN X0.here hx rfl (hb hby d21_55) rfl kz) ?_
  show OG p e below Φ s₁ m 56 #[iv 3] [(.int 3)]
  refine OGo.st (fun _ kz => XS.iconst X0.here hx rfl (hb hby d21_56) kz) ?_
  show OG p e below Φ s₁ m 57 #[iv 3] [(.int 1), (.int 3)]
  refine OGo.st (fun _ kz => XT.ishl X0.here hx rfl (hb hby d21_57) rfl kz) ?_
  show OG p e below Φ s₁ m 58 #[iv 3] [(.int 6)]
  refine OGo.fin X0 hlk (v := (some (.int 6))) (fun h => by rw [hret] at h; cases h) (by decide) (by decide) (fun fs hr => X0.ireturnOut hx hret rfl (by simp) (hb hby d21_58) hr) fun U eU hF => hΦ _ _ _ ?_ hF
  rw [eU, e0]
  show Q_rsb3_0nl Z  h0 n0 _ _ _
  exact ⟨rfl, N0, rfl⟩

theorem ef_rsb3_0nf (m : MethodId) (x0 : Int32) : entryFrame m #[(.int x0)] 1 = mkF m 0 #[.val (.int x0)] [] := by first | (simp [entryFrame, mkF, argsToLocals, Value.category]; done) | rfl
def Q_rsb3_0nf (Z : State)  (h0 : Heap) (n0 : Nat) (v : Option Value) (h : Heap) (L : List Loc) : Prop := ∃ b cb, v = some (.ref b) ∧ Fr n0 L ∧ Keep h0 h [] ∧ Arv Z h b cb .byte (6 : Int32) [(.int (0 : Int32)), (.int (0 : Int32)), (.int (0 : Int32)), (.int (0 : Int32)), (.int (0 : Int32)), (.int (0 : Int32))] (.int (0 : Int32)) ∧ h0.size ≤ b
set_option maxRecDepth 65536 in
set_option maxHeartbeats 40000000 in
theorem rsb3_0nf (l : Launch) (Z : State) (a0 : Array Value) (hw : ∀ d ∈ tables_1, d.before a0 Z = true) (ws : List Jvm.Cond)  (h0 : Heap) (n0 : Nat) (Z0 : n0 ≤ h0.size)  :
    OCon l Z (⟨"java/lang/StringUTF16", "newBytesFor", "(I)[B"⟩ : MethodName) jdk_52_method_2_code 1 (some (.array .byte)) ws ({ frames := 1, cells := 1, slots := 6, locals := 12 } : Room) #[(.int (3 : Int32))] h0 (Q_rsb3_0nf Z  h0 n0) := by
  refine OCon.of (plainFor_of_name pn1) ?_
  intro p e s m below meth c s₁ Φ X0 hx hby hml hown hnm hret hlk hZ e0 hΦ
  have N0 := Fr.nil n0
  refine OGo.st (fun _ kz => castTop (ef_rsb3_0nf m (3 : Int32)) kz) ?_
  have K0 := Keep.refl h0 []
  show OG p e below Φ s₁ m 0 #[iv 3] []
  refine OGo.st (fun _ kz => XS.iloadN X0.here hx rfl (hb hby d20_0) rfl kz) ?_
  show OG p e below Φ s₁ m 1 #[iv 3] [(.int 3)]
  obtain ⟨_, T1, L1, X1, hQ1, st1⟩ := own_callSt X0 hx hZ hown (ow110 hw) (ow111 hw) (ow36 hw) (ow112 hw) (by decide) (rsb3_0nl l Z a0 hw []  h0 n0 Z0 ) e0 (W := 0) (by decide) (by decide) (by decide) (by decide) (pc := 1) (ls := #[iv 3]) (stk := [(.int 3)]) (by rw [hml]; rfl) (argsL := [(.int 3)]) (rest := []) (lenOf pd4 rfl) rfl rfl (Nat.le_of_eq rfl) (hb hby d20_1)
  obtain ⟨rfl, Nq1, e1⟩ := hQ1
  have N1 := Fr.app N0 Nq1
  refine OGo.st st1 ?_
  show OG p e below Φ T1 m 4 #[iv 3] [(.int 6)]
  obtain ⟨T2, h2, c2, X2, e2, E2, Ar2, st2⟩ := newP (aty := .byte) X1 hx hZ (ow26 hw) e1 (g := (mkF m 4 #[iv 3] [(.int 6)])) rfl (hb hby d20_4) rfl (by decide) (cap := 6) (by decide) (by decide) (by decide) (by decide)
  obtain ⟨b2, g2⟩ : ∃ z, z = h0.size := ⟨_, rfl⟩
  rw [← g2] at Ar2 st2
  have gb2 : n0 ≤ b2 := Nat.le_trans Z0 (Nat.le_of_eq g2.symm)
  have sz2 : h0.size ≤ b2 := Nat.le_trans K0.1 (Nat.le_of_eq g2.symm)
  have K2 := K0.ext E2
  have Zs2 : n0 ≤ h2.size := Nat.le_trans Z0 E2.1
  have V2 : Arv Z h2 b2 c2 .byte (6 : Int32) [(.int (0 : Int32)), (.int (0 : Int32)), (.int (0 : Int32)), (.int (0 : Int32)), (.int (0 : Int32)), (.int (0 : Int32))] (.int (0 : Int32)) := (Arv.new Ar2 (by decide)).pad (pad_rep [] _ 6)
  refine OGo.st st2 ?_
  show OG p e below Φ T2 m 6 #[iv 3] [(.ref b2)]
  refine OGo.fin X2 hlk (v := (some (.ref b2))) (fun h => by rw [hret] at h; cases h) (by decide) (by decide) (fun fs hr => X2.areturnOut hx rfl hret rfl (hb hby d20_6) hr) fun U eU hF => hΦ _ _ _ ?_ hF
  rw [eU, e2]
  show Q_rsb3_0nf Z  h0 n0 _ _ _
  exact ⟨_, _, rfl, N1, K2, V2, sz2⟩

theorem ef_rsb3_0pc0 (m : MethodId) (x0 : Addr) (x1 : Int32) (x2 : Int32) : entryFrame m #[(.ref x0), (.int x1), (.int x2)] 3 = mkF m 0 #[.val (.ref x0), .val (.int x1), .val (.int x2)] [] := by first | (simp [entryFrame, mkF, argsToLocals, Value.category]; done) | rfl
def Q_rsb3_0pc0 (Z : State) (b : Addr) (cb : ClassId) (c0_ : Int32) (c1_ : Int32) (c2_ : Int32) (h0 : Heap) (n0 : Nat) (v : Option Value) (h : Heap) (L : List Loc) : Prop := v = none ∧ Fr n0 L ∧ Keep h0 h [b] ∧ Arv Z h b cb .byte (6 : Int32) [(.int (nar .byte (c0_ >>> (0 &&& 31)).toInt8.toInt32)), (.int (nar .byte (c0_ >>> (8 &&& 31)).toInt8.toInt32)), (.int (0 : Int32)), (.int (0 : Int32)), (.int (0 : Int32)), (.int (0 : Int32))] (.int (0 : Int32))
set_option maxRecDepth 65536 in
set_option maxHeartbeats 40000000 in
theorem rsb3_0pc0 (l : Launch) (Z : State) (a0 : Array Value) (hw : ∀ d ∈ tables_1, d.before a0 Z = true) (ws : List Jvm.Cond) (b : Addr) (cb : ClassId) (c0_ : Int32) (c1_ : Int32) (c2_ : Int32) (h0 : Heap) (n0 : Nat) (Z0 : n0 ≤ h0.size) (V_b : Arv Z h0 b cb .byte (6 : Int32) [(.int (0 : Int32)), (.int (0 : Int32)), (.int (0 : Int32)), (.int (0 : Int32)), (.int (0 : Int32)), (.int (0 : Int32))] (.int (0 : Int32))) (g_b : n0 ≤ b) (S_ad : Sta Z h0 "java/lang/StringUTF16" "$assertionsDisabled" "Z" (.int (1 : Int32))) (S_hb : Sta Z h0 "java/lang/StringUTF16" "HI_BYTE_SHIFT" "I" (.int (0 : Int32))) (S_lb : Sta Z h0 "java/lang/StringUTF16" "LO_BYTE_SHIFT" "I" (.int (8 : Int32))) :
    OCon l Z (⟨"java/lang/StringUTF16", "putChar", "([BII)V"⟩ : MethodName) jdk_52_method_4_code 3 none ws ({ frames := 0, cells := 0, slots := 0, locals := 0 } : Room) #[(.ref b), (.int (0 : Int32)), (.int c0_)] h0 (Q_rsb3_0pc0 Z b cb c0_ c1_ c2_ h0 n0) := by
  refine OCon.of (plainFor_of_name pn1) ?_
  intro p e s m below meth c s₁ Φ X0 hx hby hml hown hnm hret hlk hZ e0 hΦ
  have N0 := Fr.nil n0
  refine OGo.st (fun _ kz => castTop (ef_rsb3_0pc0 m b (0 : Int32) c0_) kz) ?_
  have K0 := Keep.refl h0 [b]
  show OG p e below Φ s₁ m 0 #[rv b, iv 0, iv c0_] []
  obtain ⟨T1, X1, e1, st1⟩ := getS2 X0 hx hZ hown (host := "") (Or.inl (ow117 hw)) Via.refl e0 S_ad (g := (mkF m 0 #[rv b, iv 0, iv c0_] [])) rfl (hb hby d22_0)
  refine OGo.st st1 ?_
  show OG p e below Φ T1 m 3 #[rv b, iv 0, iv c0_] [(.int 1)]
  refine OGo.st (fun _ kz => XS.ifYes X1.here hx rfl (pc0 := 3) (pc' := 28) rfl (hb hby d22_3) rfl (XT.i0_ne_t (by decide)) (by decide) (by decide) kz) ?_
  show OG p e below Φ T1 m 28 #[rv b, iv 0, iv c0_] []
  refine OGo.st (fun _ kz => XS.iloadN X1.here hx rfl (hb hby d22_28) rfl kz) ?_
  show OG p e below Φ T1 m 29 #[rv b, iv 0, iv c0_] [(.int 0)]
  refine OGo.st (fun _ kz => XS.iconst X1.here hx rfl (hb hby d22_29) kz) ?_
  show OG p e below Φ T1 m 30 #[rv b, iv 0, iv c0_] [(.int 1), (.int 0)]
  refine OGo.st (fun _ kz => XT.ishl X1.here hx rfl (hb hby d22_30) rfl kz) ?_
  show OG p e below Φ T1 m 31 #[rv b, iv 0, iv c0_] [(.int 0)]
  refine OGo.st (fun _ kz => XS.istoreN X1.here hx rfl (hb hby d22_31) rfl (l' := #[rv b, iv 0, iv c0_]) rfl kz) ?_
  show OG p e below Φ T1 m 32 #[rv b, iv 0, iv c0_] []
  refine OGo.st (fun _ kz => XS.aloadN X1.here hx rfl (hb hby d22_32) rfl rfl kz) ?_
  show OG p e below Φ T1 m 33 #[rv b, iv 0, iv c0_] [(.ref b)]
  refine OGo.st (fun _ kz => XS.iloadN X1.here hx rfl (hb hby d22_33) rfl kz) ?_
  show OG p e below Φ T1 m 34 #[rv b, iv 0, iv c0_] [(.int 0), (.ref b)]
  refine OGo.st (fun _ kz => XS.iinc X1.here hx rfl (hb hby d22_34) rfl (l' := #[rv b, iv ((0 : Int32) + (1 : Int32)), iv c0_]) rfl kz) ?_
  show OG p e below Φ T1 m 37 #[rv b, iv 1, iv c0_] [(.int 0), (.ref b)]
  refine OGo.st (fun _ kz => XS.iloadN X1.here hx rfl (hb hby d22_37) rfl kz) ?_
  show OG p e below Φ T1 m 38 #[rv b, iv 1, iv c0_] [(.int c0_), (.int 0), (.ref b)]
  obtain ⟨T2, X2, e2, st2⟩ := getS2 X1 hx hZ hown (host := "") (Or.inl (ow118 hw)) Via.refl e1 S_hb (g := (mkF m 38 #[rv b, iv 1, iv c0_] [(.int c0_), (.int 0), (.ref b)])) rfl (hb hby d22_38)
  refine OGo.st st2 ?_
  show OG p e below Φ T2 m 41 #[rv b, iv 1, iv c0_] [(.int 0), (.int c0_), (.int 0), (.ref b)]
  refine OGo.st (fun _ kz => XT.ishr X2.here hx rfl (hb hby d22_41) rfl kz) ?_
  show OG p e below Φ T2 m 42 #[rv b, iv 1, iv c0_] [(.int (c0_ >>> ((0 : Int32) &&& 31))), (.int 0), (.ref b)]
  refine OGo.st (fun _ kz => XT.i2b X2.here hx rfl (hb hby d22_42) rfl kz) ?_
  show OG p e below Φ T2 m 43 #[rv b, iv 1, iv c0_] [(.int ((c0_ >>> ((0 : Int32) &&& 31)).toInt8.toInt32)), (.int 0), (.ref b)]
  obtain ⟨cl3, Aq3, Cq3, S3, M3, H3, G3⟩ := id V_b
  have in3 : ¬ ((0 : Int32) < 0 ∨ cl3.slots.size ≤ (0 : Int32).toNatClampNeg) := inb_of S3 ⟨by decide, by decide⟩
  obtain ⟨T3, h3, X3, e3, W3, st3⟩ := stB X2 hx hZ e2 Aq3 in3 (g := (mkF m 43 #[rv b, iv 1, iv c0_] [(.int ((c0_ >>> ((0 : Int32) &&& 31)).toInt8.toInt32)), (.int 0), (.ref b)])) rfl rfl (hb hby d22_43)
  have W3 : Wr h0 h3 b (0 : Int32).toNatClampNeg (.int (nar .byte ((c0_ >>> ((0 : Int32) &&& 31)).toInt8.toInt32))) := W3
  have F4 := S_ad.wr W3
  have F5 := S_hb.wr W3
  have F6 := S_lb.wr W3
  have V3 : Arv Z h3 b cb .byte (6 : Int32) [(.int (nar .byte ((c0_ >>> ((0 : Int32) &&& 31)).toInt8.toInt32))), (.int (0 : Int32)), (.int (0 : Int32)), (.int (0 : Int32)), (.int (0 : Int32)), (.int (0 : Int32))] (.int (0 : Int32)) := Arv.set Aq3 Cq3 S3 M3 H3 G3 (fits_nar_byte _) W3 0 (by decide) (by show 0 < 6; decide)
  have K3 := K0.wr W3 (Or.inl (List.mem_of_getElem? (i := 0) rfl))
  have N3 := Fr.snoc X3 N0 g_b
  have Zs3 : n0 ≤ h3.size := by rw [W3.size]; exact Z0
  refine OGo.st st3 ?_
  show OG p e below Φ T3 m 44 #[rv b, iv 1, iv c0_] []
  refine OGo.st (fun _ kz => XS.aloadN X3.here hx rfl (hb hby d22_44) rfl rfl kz) ?_
  show OG p e below Φ T3 m 45 #[rv b, iv 1, iv c0_] [(.ref b)]
  refine OGo.st (fun _ kz => XS.iloadN X3.here hx rfl (hb hby d22_45) rfl kz) ?_
  show OG p e below Φ T3 m 46 #[rv b, iv 1, iv c0_] [(.int 1), (.ref b)]
  refine OGo.st (fun _ kz => XS.iloadN X3.here hx rfl (hb hby d22_46) rfl kz) ?_
  show OG p e below Φ T3 m 47 #[rv b, iv 1, iv c0_] [(.int c0_), (.int 1), (.ref b)]
  obtain ⟨T7, X7, e7, st7⟩ := getS2 X3 hx hZ hown (host := "") (Or.inl (ow119 hw)) Via.refl e3 F6 (g := (mkF m 47 #[rv b, iv 1, iv c0_] [(.int c0_), (.int 1), (.ref b)])) rfl (hb hby d22_47)
  refine OGo.st st7 ?_
  show OG p e below Φ T7 m 50 #[rv b, iv 1, iv c0_] [(.int 8), (.int c0_), (.int 1), (.ref b)]
  refine OGo.st (fun _ kz => XT.ishr X7.here hx rfl (hb hby d22_50) rfl kz) ?_
  show OG p e below Φ T7 m 51 #[rv b, iv 1, iv c0_] [(.int (c0_ >>> ((8 : Int32) &&& 31))), (.int 1), (.ref b)]
  refine OGo.st (fun _ kz => XT.i2b X7.here hx rfl (hb hby d22_51) rfl kz) ?_
  show OG p e below Φ T7 m 52 #[rv b, iv 1, iv c0_] [(.int ((c0_ >>> ((8 : Int32) &&& 31)).toInt8.toInt32)), (.int 1), (.ref b)]
  obtain ⟨cl8, Aq8, Cq8, S8, M8, H8, G8⟩ := id V3
  have in8 : ¬ ((1 : Int32) < 0 ∨ cl8.slots.size ≤ (1 : Int32).toNatClampNeg) := inb_of S8 ⟨by decide, by decide⟩
  obtain ⟨T8, h8, X8, e8, W8, st8⟩ := stB X7 hx hZ e7 Aq8 in8 (g := (mkF m 52 #[rv b, iv 1, iv c0_] [(.int ((c0_ >>> ((8 : Int32) &&& 31)).toInt8.toInt32)), (.int 1), (.ref b)])) rfl rfl (hb hby d22_52)
  have W8 : Wr h3 h8 b (1 : Int32).toNatClampNeg (.int (nar .byte ((c0_ >>> ((8 : Int32) &&& 31)).toInt8.toInt32))) := W8
  have F9 := F4.wr W8
  have F10 := F5.wr W8
  have F11 := F6.wr W8
  have V8 : Arv Z h8 b cb .byte (6 : Int32) [(.int (nar .byte ((c0_ >>> ((0 : Int32) &&& 31)).toInt8.toInt32))), (.int (nar .byte ((c0_ >>> ((8 : Int32) &&& 31)).toInt8.toInt32))), (.int (0 : Int32)), (.int (0 : Int32)), (.int (0 : Int32)), (.int (0 : Int32))] (.int (0 : Int32)) := Arv.set Aq8 Cq8 S8 M8 H8 G8 (fits_nar_byte _) W8 1 (by decide) (by show 1 < 6; decide)
  have K8 := K3.wr W8 (Or.inl (List.mem_of_getElem? (i := 0) rfl))
  have N8 := Fr.snoc X8 N3 g_b
  have Zs8 : n0 ≤ h8.size := by rw [W8.size]; exact Zs3
  refine OGo.st st8 ?_
  show OG p e below Φ T8 m 53 #[rv b, iv 1, iv c0_] []
  refine OGo.fin X8 hlk (v := none) (fun _ => rfl) (by decide) (by decide) (fun fs hr => X8.returnOut hx hret (hb hby d22_53) hr) fun U eU hF => hΦ _ _ _ ?_ hF
  rw [eU, e8]
  show Q_rsb3_0pc0 Z b cb c0_ c1_ c2_ h0 n0 _ _ _
  exact ⟨rfl, N8, K8, V8⟩

theorem ef_rsb3_0pc1 (m : MethodId) (x0 : Addr) (x1 : Int32) (x2 : Int32) : entryFrame m #[(.ref x0), (.int x1), (.int x2)] 3 = mkF m 0 #[.val (.ref x0), .val (.int x1), .val (.int x2)] [] := by first | (simp [entryFrame, mkF, argsToLocals, Value.category]; done) | rfl
def Q_rsb3_0pc1 (Z : State) (b : Addr) (cb : ClassId) (c0_ : Int32) (c1_ : Int32) (c2_ : Int32) (h0 : Heap) (n0 : Nat) (v : Option Value) (h : Heap) (L : List Loc) : Prop := v = none ∧ Fr n0 L ∧ Keep h0 h [b] ∧ Arv Z h b cb .byte (6 : Int32) [(.int (nar .byte (c0_ >>> (0 &&& 31)).toInt8.toInt32)), (.int (nar .byte (c0_ >>> (8 &&& 31)).toInt8.toInt32)), (.int (nar .byte (c1_ >>> (0 &&& 31)).toInt8.toInt32)), (.int (nar .byte (c1_ >>> (8 &&& 31)).toInt8.toInt32)), (.int (0 : Int32)), (.int (0 : Int32))] (.int (0 : Int32))
set_option maxRecDepth 65536 in
set_option maxHeartbeats 40000000 in
theorem rsb3_0pc1 (l : Launch) (Z : State) (a0 : Array Value) (hw : ∀ d ∈ tables_1, d.before a0 Z = true) (ws : List Jvm.Cond) (b : Addr) (cb : ClassId) (c0_ : Int32) (c1_ : Int32) (c2_ : Int32) (h0 : Heap) (n0 : Nat) (Z0 : n0 ≤ h0.size) (V_b : Arv Z h0 b cb .byte (6 : Int32) [(.int (nar .byte (c0_ >>> (0 &&& 31)).toInt8.toInt32)), (.int (nar .byte (c0_ >>> (8 &&& 31)).toInt8.toInt32)), (.int (0 : Int32)), (.int (0 : Int32)), (.int (0 : Int32)), (.int (0 : Int32))] (.int (0 : Int32))) (g_b : n0 ≤ b) (S_ad : Sta Z h0 "java/lang/StringUTF16" "$assertionsDisabled" "Z" (.int (1 : Int32))) (S_hb : Sta Z h0 "java/lang/StringUTF16" "HI_BYTE_SHIFT" "I" (.int (0 : Int32))) (S_lb : Sta Z h0 "java/lang/StringUTF16" "LO_BYTE_SHIFT" "I" (.int (8 : Int32))) :
    OCon l Z (⟨"java/lang/StringUTF16", "putChar", "([BII)V"⟩ : MethodName) jdk_52_method_4_code 3 none ws ({ frames := 0, cells := 0, slots := 0, locals := 0 } : Room) #[(.ref b), (.int (1 : Int32)), (.int c1_)] h0 (Q_rsb3_0pc1 Z b cb c0_ c1_ c2_ h0 n0) := by
  refine OCon.of (plainFor_of_name pn1) ?_
  intro p e s m below meth c s₁ Φ X0 hx hby hml hown hnm hret hlk hZ e0 hΦ
  have N0 := Fr.nil n0
  refine OGo.st (fun _ kz => castTop (ef_rsb3_0pc1 m b (1 : Int32) c1_) kz) ?_
  have K0 := Keep.refl h0 [b]
  show OG p e below Φ s₁ m 0 #[rv b, iv 1, iv c1_] []
  obtain ⟨T1, X1, e1, st1⟩ := getS2 X0 hx hZ hown (host := "") (Or.inl (ow117 hw)) Via.refl e0 S_ad (g := (mkF m 0 #[rv b, iv 1, iv c1_] [])) rfl (hb hby d22_0)
  refine OGo.st st1 ?_
  show OG p e below Φ T1 m 3 #[rv b, iv 1, iv c1_] [(.int 1)]
  refine OGo.st (fun _ kz => XS.ifYes X1.here hx rfl (pc0 := 3) (pc' := 28) rfl (hb hby d22_3) rfl (XT.i0_ne_t (by decide)) (by decide) (by decide) kz) ?_
  show OG p e below Φ T1 m 28 #[rv b, iv 1, iv c1_] []
  refine OGo.st (fun _ kz => XS.iloadN X1.here hx rfl (hb hby d22_28) rfl kz) ?_
  show OG p e below Φ T1 m 29 #[rv b, iv 1, iv c1_] [(.int 1)]
  refine OGo.st (fun _ kz => XS.iconst X1.here hx rfl (hb hby d22_29) kz) ?_
  show OG p e below Φ T1 m 30 #[rv b, iv 1, iv c1_] [(.int 1), (.int 1)]
  refine OGo.st (fun _ kz => XT.ishl X1.here hx rfl (hb hby d22_30) rfl kz) ?_
  show OG p e below Φ T1 m 31 #[rv b, iv 1, iv c1_] [(.int 2)]
  refine OGo.st (fun _ kz => XS.istoreN X1.here hx rfl (hb hby d22_31) rfl (l' := #[rv b, iv 2, iv c1_]) rfl kz) ?_
  show OG p e below Φ T1 m 32 #[rv b, iv 2, iv c1_] []
  refine OGo.st (fun _ kz => XS.aloadN X1.here hx rfl (hb hby d22_32) rfl rfl kz) ?_
  show OG p e below Φ T1 m 33 #[rv b, iv 2, iv c1_] [(.ref b)]
  refine OGo.st (fun _ kz => XS.iloadN X1.here hx rfl (hb hby d22_33) rfl kz) ?_
  show OG p e below Φ T1 m 34 #[rv b, iv 2, iv c1_] [(.int 2), (.ref b)]
  refine OGo.st (fun _ kz => XS.iinc X1.here hx rfl (hb hby d22_34) rfl (l' := #[rv b, iv ((2 : Int32) + (1 : Int32)), iv c1_]) rfl kz) ?_
  show OG p e below Φ T1 m 37 #[rv b, iv 3, iv c1_] [(.int 2), (.ref b)]
  refine OGo.st (fun _ kz => XS.iloadN X1.here hx rfl (hb hby d22_37) rfl kz) ?_
  show OG p e below Φ T1 m 38 #[rv b, iv 3, iv c1_] [(.int c1_), (.int 2), (.ref b)]
  obtain ⟨T2, X2, e2, st2⟩ := getS2 X1 hx hZ hown (host := "") (Or.inl (ow118 hw)) Via.refl e1 S_hb (g := (mkF m 38 #[rv b, iv 3, iv c1_] [(.int c1_), (.int 2), (.ref b)])) rfl (hb hby d22_38)
  refine OGo.st st2 ?_
  show OG p e below Φ T2 m 41 #[rv b, iv 3, iv c1_] [(.int 0), (.int c1_), (.int 2), (.ref b)]
  refine OGo.st (fun _ kz => XT.ishr X2.here hx rfl (hb hby d22_41) rfl kz) ?_
  show OG p e below Φ T2 m 42 #[rv b, iv 3, iv c1_] [(.int (c1_ >>> ((0 : Int32) &&& 31))), (.int 2), (.ref b)]
  refine OGo.st (fun _ kz => XT.i2b X2.here hx rfl (hb hby d22_42) rfl kz) ?_
  show OG p e below Φ T2 m 43 #[rv b, iv 3, iv c1_] [(.int ((c1_ >>> ((0 : Int32) &&& 31)).toInt8.toInt32)), (.int 2), (.ref b)]
  obtain ⟨cl3, Aq3, Cq3, S3, M3, H3, G3⟩ := id V_b
  have in3 : ¬ ((2 : Int32) < 0 ∨ cl3.slots.size ≤ (2 : Int32).toNatClampNeg) := inb_of S3 ⟨by decide, by decide⟩
  obtain ⟨T3, h3, X3, e3, W3, st3⟩ := stB X2 hx hZ e2 Aq3 in3 (g := (mkF m 43 #[rv b, iv 3, iv c1_] [(.int ((c1_ >>> ((0 : Int32) &&& 31)).toInt8.toInt32)), (.int 2), (.ref b)])) rfl rfl (hb hby d22_43)
  have W3 : Wr h0 h3 b (2 : Int32).toNatClampNeg (.int (nar .byte ((c1_ >>> ((0 : Int32) &&& 31)).toInt8.toInt32))) := W3
  have F4 := S_ad.wr W3
  have F5 := S_hb.wr W3
  have F6 := S_lb.wr W3
  have V3 : Arv Z h3 b cb .byte (6 : Int32) [(.int (nar .byte (c0_ >>> (0 &&& 31)).toInt8.toInt32)), (.int (nar .byte (c0_ >>> (8 &&& 31)).toInt8.toInt32)), (.int (nar .byte ((c1_ >>> ((0 : Int32) &&& 31)).toInt8.toInt32))), (.int (0 : Int32)), (.int (0 : Int32)), (.int (0 : Int32))] (.int (0 : Int32)) := Arv.set Aq3 Cq3 S3 M3 H3 G3 (fits_nar_byte _) W3 2 (by decide) (by show 2 < 6; decide)
  have K3 := K0.wr W3 (Or.inl (List.mem_of_getElem? (i := 0) rfl))
  have N3 := Fr.snoc X3 N0 g_b
  have Zs3 : n0 ≤ h3.size := by rw [W3.size]; exact Z0
  refine OGo.st st3 ?_
  show OG p e below Φ T3 m 44 #[rv b, iv 3, iv c1_] []
  refine OGo.st (fun _ kz => XS.aloadN X3.here hx rfl (hb hby d22_44) rfl rfl kz) ?_
  show OG p e below Φ T3 m 45 #[rv b, iv 3, iv c1_] [(.ref b)]
  refine OGo.st (fun _ kz => XS.iloadN X3.here hx rfl (hb hby d22_45) rfl kz) ?_
  show OG p e below Φ T3 m 46 #[rv b, iv 3, iv c1_] [(.int 3), (.ref b)]
  refine OGo.st (fun _ kz => XS.iloadN X3.here hx rfl (hb hby d22_46) rfl kz) ?_
  show OG p e below Φ T3 m 47 #[rv b, iv 3, iv c1_] [(.int c1_), (.int 3), (.ref b)]
  obtain ⟨T7, X7, e7, st7⟩ := getS2 X3 hx hZ hown (host := "") (Or.inl (ow119 hw)) Via.refl e3 F6 (g := (mkF m 47 #[rv b, iv 3, iv c1_] [(.int c1_), (.int 3), (.ref b)])) rfl (hb hby d22_47)
  refine OGo.st st7 ?_
  show OG p e below Φ T7 m 50 #[rv b, iv 3, iv c1_] [(.int 8), (.int c1_), (.int 3), (.ref b)]
  refine OGo.st (fun _ kz => XT.ishr X7.here hx rfl (hb hby d22_50) rfl kz) ?_
  show OG p e below Φ T7 m 51 #[rv b, iv 3, iv c1_] [(.int (c1_ >>> ((8 : Int32) &&& 31))), (.int 3), (.ref b)]
  refine OGo.st (fun _ kz => XT.i2b X7.here hx rfl (hb hby d22_51) rfl kz) ?_
  show OG p e below Φ T7 m 52 #[rv b, iv 3, iv c1_] [(.int ((c1_ >>> ((8 : Int32) &&& 31)).toInt8.toInt32)), (.int 3), (.ref b)]
  obtain ⟨cl8, Aq8, Cq8, S8, M8, H8, G8⟩ := id V3
  have in8 : ¬ ((3 : Int32) < 0 ∨ cl8.slots.size ≤ (3 : Int32).toNatClampNeg) := inb_of S8 ⟨by decide, by decide⟩
  obtain ⟨T8, h8, X8, e8, W8, st8⟩ := stB X7 hx hZ e7 Aq8 in8 (g := (mkF m 52 #[rv b, iv 3, iv c1_] [(.int ((c1_ >>> ((8 : Int32) &&& 31)).toInt8.toInt32)), (.int 3), (.ref b)])) rfl rfl (hb hby d22_52)
  have W8 : Wr h3 h8 b (3 : Int32).toNatClampNeg (.int (nar .byte ((c1_ >>> ((8 : Int32) &&& 31)).toInt8.toInt32))) := W8
  have F9 := F4.wr W8
  have F10 := F5.wr W8
  have F11 := F6.wr W8
  have V8 : Arv Z h8 b cb .byte (6 : Int32) [(.int (nar .byte (c0_ >>> (0 &&& 31)).toInt8.toInt32)), (.int (nar .byte (c0_ >>> (8 &&& 31)).toInt8.toInt32)), (.int (nar .byte ((c1_ >>> ((0 : Int32) &&& 31)).toInt8.toInt32))), (.int (nar .byte ((c1_ >>> ((8 : Int32) &&& 31)).toInt8.toInt32))), (.int (0 : Int32)), (.int (0 : Int32))] (.int (0 : Int32)) := Arv.set Aq8 Cq8 S8 M8 H8 G8 (fits_nar_byte _) W8 3 (by decide) (by show 3 < 6; decide)
  have K8 := K3.wr W8 (Or.inl (List.mem_of_getElem? (i := 0) rfl))
  have N8 := Fr.snoc X8 N3 g_b
  have Zs8 : n0 ≤ h8.size := by rw [W8.size]; exact Zs3
  refine OGo.st st8 ?_
  show OG p e below Φ T8 m 53 #[rv b, iv 3, iv c1_] []
  refine OGo.fin X8 hlk (v := none) (fun _ => rfl) (by decide) (by decide) (fun fs hr => X8.returnOut hx hret (hb hby d22_53) hr) fun U eU hF => hΦ _ _ _ ?_ hF
  rw [eU, e8]
  show Q_rsb3_0pc1 Z b cb c0_ c1_ c2_ h0 n0 _ _ _
  exact ⟨rfl, N8, K8, V8⟩

theorem ef_rsb3_0pc2 (m : MethodId) (x0 : Addr) (x1 : Int32) (x2 : Int32) : entryFrame m #[(.ref x0), (.int x1), (.int x2)] 3 = mkF m 0 #[.val (.ref x0), .val (.int x1), .val (.int x2)] [] := by first | (simp [entryFrame, mkF, argsToLocals, Value.category]; done) | rfl
def Q_rsb3_0pc2 (Z : State) (b : Addr) (cb : ClassId) (c0_ : Int32) (c1_ : Int32) (c2_ : Int32) (h0 : Heap) (n0 : Nat) (v : Option Value) (h : Heap) (L : List Loc) : Prop := v = none ∧ Fr n0 L ∧ Keep h0 h [b] ∧ Arv Z h b cb .byte (6 : Int32) [(.int (nar .byte (c0_ >>> (0 &&& 31)).toInt8.toInt32)), (.int (nar .byte (c0_ >>> (8 &&& 31)).toInt8.toInt32)), (.int (nar .byte (c1_ >>> (0 &&& 31)).toInt8.toInt32)), (.int (nar .byte (c1_ >>> (8 &&& 31)).toInt8.toInt32)), (.int (nar .byte (c2_ >>> (0 &&& 31)).toInt8.toInt32)), (.int (nar .byte (c2_ >>> (8 &&& 31)).toInt8.toInt32))] (.int (0 : Int32))
set_option maxRecDepth 65536 in
set_option maxHeartbeats 40000000 in
theorem rsb3_0pc2 (l : Launch) (Z : State) (a0 : Array Value) (hw : ∀ d ∈ tables_1, d.before a0 Z = true) (ws : List Jvm.Cond) (b : Addr) (cb : ClassId) (c0_ : Int32) (c1_ : Int32) (c2_ : Int32) (h0 : Heap) (n0 : Nat) (Z0 : n0 ≤ h0.size) (V_b : Arv Z h0 b cb .byte (6 : Int32) [(.int (nar .byte (c0_ >>> (0 &&& 31)).toInt8.toInt32)), (.int (nar .byte (c0_ >>> (8 &&& 31)).toInt8.toInt32)), (.int (nar .byte (c1_ >>> (0 &&& 31)).toInt8.toInt32)), (.int (nar .byte (c1_ >>> (8 &&& 31)).toInt8.toInt32)), (.int (0 : Int32)), (.int (0 : Int32))] (.int (0 : Int32))) (g_b : n0 ≤ b) (S_ad : Sta Z h0 "java/lang/StringUTF16" "$assertionsDisabled" "Z" (.int (1 : Int32))) (S_hb : Sta Z h0 "java/lang/StringUTF16" "HI_BYTE_SHIFT" "I" (.int (0 : Int32))) (S_lb : Sta Z h0 "java/lang/StringUTF16" "LO_BYTE_SHIFT" "I" (.int (8 : Int32))) :
    OCon l Z (⟨"java/lang/StringUTF16", "putChar", "([BII)V"⟩ : MethodName) jdk_52_method_4_code 3 none ws ({ frames := 0, cells := 0, slots := 0, locals := 0 } : Room) #[(.ref b), (.int (2 : Int32)), (.int c2_)] h0 (Q_rsb3_0pc2 Z b cb c0_ c1_ c2_ h0 n0) := by
  refine OCon.of (plainFor_of_name pn1) ?_
  intro p e s m below meth c s₁ Φ X0 hx hby hml hown hnm hret hlk hZ e0 hΦ
  have N0 := Fr.nil n0
  refine OGo.st (fun _ kz => castTop (ef_rsb3_0pc2 m b (2 : Int32) c2_) kz) ?_
  have K0 := Keep.refl h0 [b]
  show OG p e below Φ s₁ m 0 #[rv b, iv 2, iv c2_] []
  obtain ⟨T1, X1, e1, st1⟩ := getS2 X0 hx hZ hown (host := "") (Or.inl (ow117 hw)) Via.refl e0 S_ad (g := (mkF m 0 #[rv b, iv 2, iv c2_] [])) rfl (hb hby d22_0)
  refine OGo.st st1 ?_
  show OG p e below Φ T1 m 3 #[rv b, iv 2, iv c2_] [(.int 1)]
  refine OGo.st (fun _ kz => XS.ifYes X1.here hx rfl (pc0 := 3) (pc' := 28) rfl (hb hby d22_3) rfl (XT.i0_ne_t (by decide)) (by decide) (by decide) kz) ?_
  show OG p e below Φ T1 m 28 #[rv b, iv 2, iv c2_] []
  refine OGo.st (fun _ kz => XS.iloadN X1.here hx rfl (hb hby d22_28) rfl kz) ?_
  show OG p e below Φ T1 m 29 #[rv b, iv 2, iv c2_] [(.int 2)]
  refine OGo.st (fun _ kz => XS.iconst X1.here hx rfl (hb hby d22_29) kz) ?_
  show OG p e below Φ T1 m 30 #[rv b, iv 2, iv c2_] [(.int 1), (.int 2)]
  refine OGo.st (fun _ kz => XT.ishl X1.here hx rfl (hb hby d22_30) rfl kz) ?_
  show OG p e below Φ T1 m 31 #[rv b, iv 2, iv c2_] [(.int 4)]
  refine OGo.st (fun _ kz => XS.istoreN X1.here hx rfl (hb hby d22_31) rfl (l' := #[rv b, iv 4, iv c2_]) rfl kz) ?_
  show OG p e below Φ T1 m 32 #[rv b, iv 4, iv c2_] []
  refine OGo.st (fun _ kz => XS.aloadN X1.here hx rfl (hb hby d22_32) rfl rfl kz) ?_
  show OG p e below Φ T1 m 33 #[rv b, iv 4, iv c2_] [(.ref b)]
  refine OGo.st (fun _ kz => XS.iloadN X1.here hx rfl (hb hby d22_33) rfl kz) ?_
  show OG p e below Φ T1 m 34 #[rv b, iv 4, iv c2_] [(.int 4), (.ref b)]
  refine OGo.st (fun _ kz => XS.iinc X1.here hx rfl (hb hby d22_34) rfl (l' := #[rv b, iv ((4 : Int32) + (1 : Int32)), iv c2_]) rfl kz) ?_
  show OG p e below Φ T1 m 37 #[rv b, iv 5, iv c2_] [(.int 4), (.ref b)]
  refine OGo.st (fun _ kz => XS.iloadN X1.here hx rfl (hb hby d22_37) rfl kz) ?_
  show OG p e below Φ T1 m 38 #[rv b, iv 5, iv c2_] [(.int c2_), (.int 4), (.ref b)]
  obtain ⟨T2, X2, e2, st2⟩ := getS2 X1 hx hZ hown (host := "") (Or.inl (ow118 hw)) Via.refl e1 S_hb (g := (mkF m 38 #[rv b, iv 5, iv c2_] [(.int c2_), (.int 4), (.ref b)])) rfl (hb hby d22_38)
  refine OGo.st st2 ?_
  show OG p e below Φ T2 m 41 #[rv b, iv 5, iv c2_] [(.int 0), (.int c2_), (.int 4), (.ref b)]
  refine OGo.st (fun _ kz => XT.ishr X2.here hx rfl (hb hby d22_41) rfl kz) ?_
  show OG p e below Φ T2 m 42 #[rv b, iv 5, iv c2_] [(.int (c2_ >>> ((0 : Int32) &&& 31))), (.int 4), (.ref b)]
  refine OGo.st (fun _ kz => XT.i2b X2.here hx rfl (hb hby d22_42) rfl kz) ?_
  show OG p e below Φ T2 m 43 #[rv b, iv 5, iv c2_] [(.int ((c2_ >>> ((0 : Int32) &&& 31)).toInt8.toInt32)), (.int 4), (.ref b)]
  obtain ⟨cl3, Aq3, Cq3, S3, M3, H3, G3⟩ := id V_b
  have in3 : ¬ ((4 : Int32) < 0 ∨ cl3.slots.size ≤ (4 : Int32).toNatClampNeg) := inb_of S3 ⟨by decide, by decide⟩
  obtain ⟨T3, h3, X3, e3, W3, st3⟩ := stB X2 hx hZ e2 Aq3 in3 (g := (mkF m 43 #[rv b, iv 5, iv c2_] [(.int ((c2_ >>> ((0 : Int32) &&& 31)).toInt8.toInt32)), (.int 4), (.ref b)])) rfl rfl (hb hby d22_43)
  have W3 : Wr h0 h3 b (4 : Int32).toNatClampNeg (.int (nar .byte ((c2_ >>> ((0 : Int32) &&& 31)).toInt8.toInt32))) := W3
  have F4 := S_ad.wr W3
  have F5 := S_hb.wr W3
  have F6 := S_lb.wr W3
  have V3 : Arv Z h3 b cb .byte (6 : Int32) [(.int (nar .byte (c0_ >>> (0 &&& 31)).toInt8.toInt32)), (.int (nar .byte (c0_ >>> (8 &&& 31)).toInt8.toInt32)), (.int (nar .byte (c1_ >>> (0 &&& 31)).toInt8.toInt32)), (.int (nar .byte (c1_ >>> (8 &&& 31)).toInt8.toInt32)), (.int (nar .byte ((c2_ >>> ((0 : Int32) &&& 31)).toInt8.toInt32))), (.int (0 : Int32))] (.int (0 : Int32)) := Arv.set Aq3 Cq3 S3 M3 H3 G3 (fits_nar_byte _) W3 4 (by decide) (by show 4 < 6; decide)
  have K3 := K0.wr W3 (Or.inl (List.mem_of_getElem? (i := 0) rfl))
  have N3 := Fr.snoc X3 N0 g_b
  have Zs3 : n0 ≤ h3.size := by rw [W3.size]; exact Z0
  refine OGo.st st3 ?_
  show OG p e below Φ T3 m 44 #[rv b, iv 5, iv c2_] []
  refine OGo.st (fun _ kz => XS.aloadN X3.here hx rfl (hb hby d22_44) rfl rfl kz) ?_
  show OG p e below Φ T3 m 45 #[rv b, iv 5, iv c2_] [(.ref b)]
  refine OGo.st (fun _ kz => XS.iloadN X3.here hx rfl (hb hby d22_45) rfl kz) ?_
  show OG p e below Φ T3 m 46 #[rv b, iv 5, iv c2_] [(.int 5), (.ref b)]
  refine OGo.st (fun _ kz => XS.iloadN X3.here hx rfl (hb hby d22_46) rfl kz) ?_
  show OG p e below Φ T3 m 47 #[rv b, iv 5, iv c2_] [(.int c2_), (.int 5), (.ref b)]
  obtain ⟨T7, X7, e7, st7⟩ := getS2 X3 hx hZ hown (host := "") (Or.inl (ow119 hw)) Via.refl e3 F6 (g := (mkF m 47 #[rv b, iv 5, iv c2_] [(.int c2_), (.int 5), (.ref b)])) rfl (hb hby d22_47)
  refine OGo.st st7 ?_
  show OG p e below Φ T7 m 50 #[rv b, iv 5, iv c2_] [(.int 8), (.int c2_), (.int 5), (.ref b)]
  refine OGo.st (fun _ kz => XT.ishr X7.here hx rfl (hb hby d22_50) rfl kz) ?_
  show OG p e below Φ T7 m 51 #[rv b, iv 5, iv c2_] [(.int (c2_ >>> ((8 : Int32) &&& 31))), (.int 5), (.ref b)]
  refine OGo.st (fun _ kz => XT.i2b X7.here hx rfl (hb hby d22_51) rfl kz) ?_
  show OG p e below Φ T7 m 52 #[rv b, iv 5, iv c2_] [(.int ((c2_ >>> ((8 : Int32) &&& 31)).toInt8.toInt32)), (.int 5), (.ref b)]
  obtain ⟨cl8, Aq8, Cq8, S8, M8, H8, G8⟩ := id V3
  have in8 : ¬ ((5 : Int32) < 0 ∨ cl8.slots.size ≤ (5 : Int32).toNatClampNeg) := inb_of S8 ⟨by decide, by decide⟩
  obtain ⟨T8, h8, X8, e8, W8, st8⟩ := stB X7 hx hZ e7 Aq8 in8 (g := (mkF m 52 #[rv b, iv 5, iv c2_] [(.int ((c2_ >>> ((8 : Int32) &&& 31)).toInt8.toInt32)), (.int 5), (.ref b)])) rfl rfl (hb hby d22_52)
  have W8 : Wr h3 h8 b (5 : Int32).toNatClampNeg (.int (nar .byte ((c2_ >>> ((8 : Int32) &&& 31)).toInt8.toInt32))) := W8
  have F9 := F4.wr W8
  have F10 := F5.wr W8
  have F11 := F6.wr W8
  have V8 : Arv Z h8 b cb .byte (6 : Int32) [(.int (nar .byte (c0_ >>> (0 &&& 31)).toInt8.toInt32)), (.int (nar .byte (c0_ >>> (8 &&& 31)).toInt8.toInt32)), (.int (nar .byte (c1_ >>> (0 &&& 31)).toInt8.toInt32)), (.int (nar .byte (c1_ >>> (8 &&& 31)).toInt8.toInt32)), (.int (nar .byte ((c2_ >>> ((0 : Int32) &&& 31)).toInt8.toInt32))), (.int (nar .byte ((c2_ >>> ((8 : Int32) &&& 31)).toInt8.toInt32)))] (.int (0 : Int32)) := Arv.set Aq8 Cq8 S8 M8 H8 G8 (fits_nar_byte _) W8 5 (by decide) (by show 5 < 6; decide)
  have K8 := K3.wr W8 (Or.inl (List.mem_of_getElem? (i := 0) rfl))
  have N8 := Fr.snoc X8 N3 g_b
  have Zs8 : n0 ≤ h8.size := by rw [W8.size]; exact Zs3
  refine OGo.st st8 ?_
  show OG p e below Φ T8 m 53 #[rv b, iv 5, iv c2_] []
  refine OGo.fin X8 hlk (v := none) (fun _ => rfl) (by decide) (by decide) (fun fs hr => X8.returnOut hx hret (hb hby d22_53) hr) fun U eU hF => hΦ _ _ _ ?_ hF
  rw [eU, e8]
  show Q_rsb3_0pc2 Z b cb c0_ c1_ c2_ h0 n0 _ _ _
  exact ⟨rfl, N8, K8, V8⟩

theorem ef_rsb3_0tb (m : MethodId) (x0 : Addr) (x1 : Int32) (x2 : Int32) : entryFrame m #[(.ref x0), (.int x1), (.int x2)] 5 = mkF m 0 #[.val (.ref x0), .val (.int x1), .val (.int x2), .unset, .unset] [] := by first | (simp [entryFrame, mkF, argsToLocals, Value.category]; done) | rfl
def Q_rsb3_0tb (Z : State) (a : Addr) (ca : ClassId) (c0_ : Int32) (c1_ : Int32) (c2_ : Int32) (h0 : Heap) (n0 : Nat) (v : Option Value) (h : Heap) (L : List Loc) : Prop := ∃ b cb, v = some (.ref b) ∧ Fr n0 L ∧ Keep h0 h [] ∧ Arv Z h b cb .byte (6 : Int32) [(.int (nar .byte (c0_ >>> (0 &&& 31)).toInt8.toInt32)), (.int (nar .byte (c0_ >>> (8 &&& 31)).toInt8.toInt32)), (.int (nar .byte (c1_ >>> (0 &&& 31)).toInt8.toInt32)), (.int (nar .byte (c1_ >>> (8 &&& 31)).toInt8.toInt32)), (.int (nar .byte (c2_ >>> (0 &&& 31)).toInt8.toInt32)), (.int (nar .byte (c2_ >>> (8 &&& 31)).toInt8.toInt32))] (.int (0 : Int32)) ∧ h0.size ≤ b
set_option maxRecDepth 65536 in
set_option maxHeartbeats 40000000 in
theorem rsb3_0tb (l : Launch) (Z : State) (a0 : Array Value) (hw : ∀ d ∈ tables_1, d.before a0 Z = true) (ws : List Jvm.Cond) (a : Addr) (ca : ClassId) (c0_ : Int32) (c1_ : Int32) (c2_ : Int32) (h0 : Heap) (n0 : Nat) (Z0 : n0 ≤ h0.size) (V_a : Arv Z h0 a ca .char (3 : Int32) [(.int c0_), (.int c1_), (.int c2_)] (.int (0 : Int32))) (O_0 : Old Z n0 h0) (S_ad : Sta Z Z.heap "java/lang/StringUTF16" "$assertionsDisabled" "Z" (.int (1 : Int32))) (S_hb : Sta Z Z.heap "java/lang/StringUTF16" "HI_BYTE_SHIFT" "I" (.int (0 : Int32))) (S_lb : Sta Z Z.heap "java/lang/StringUTF16" "LO_BYTE_SHIFT" "I" (.int (8 : Int32))) :
    OCon l Z (⟨"java/lang/StringUTF16", "toBytes", "([CII)[B"⟩ : MethodName) jdk_52_method_14_code 5 (some (.array .byte)) ws ({ frames := 2, cells := 1, slots := 6, locals := 24 } : Room) #[(.ref a), (.int (0 : Int32)), (.int (3 : Int32))] h0 (Q_rsb3_0tb Z a ca c0_ c1_ c2_ h0 n0) := by
  refine OCon.of (plainFor_of_name pn1) ?_
  intro p e s m below meth c s₁ Φ X0 hx hby hml hown hnm hret hlk hZ e0 hΦ
  have N0 := Fr.nil n0
  refine OGo.st (fun _ kz => castTop (ef_rsb3_0tb m a (0 : Int32) (3 : Int32)) kz) ?_
  have K0 := Keep.refl h0 []
  show OG p e below Φ s₁ m 0 #[rv a, iv 0, iv 3, .unset, .unset] []
  refine OGo.st (fun _ kz => XS.iloadN X0.here hx rfl (hb hby d19_0) rfl kz) ?_
  show OG p e below Φ s₁ m 1 #[rv a, iv 0, iv 3, .unset, .unset] [(.int 3)]
  obtain ⟨_, T1, L1, X1, hQ1, st1⟩ := own_callSt X0 hx hZ hown (ow107 hw) (ow108 hw) (ow36 hw) (ow109 hw) (by decide) (rsb3_0nf l Z a0 hw []  h0 n0 Z0 ) e0 (W := 0) (by decide) (by decide) (by decide) (by decide) (pc := 1) (ls := #[rv a, iv 0, iv 3, .unset, .unset]) (stk := [(.int 3)]) (by rw [hml]; rfl) (argsL := [(.int 3)]) (rest := []) (lenOf pd5 rfl) rfl rfl (Nat.le_of_eq rfl) (hb hby d19_1)
  obtain ⟨b1, cb1, rfl, Nq1, Kq1, Vq1, hz1⟩ := hQ1
  have nq1_a : a ≠ b1 := Nat.ne_of_lt (Nat.lt_of_lt_of_le V_a.lt hz1)
  have gq1 : n0 ≤ b1 := Nat.le_trans Z0 hz1
  have sq1 : h0.size ≤ b1 := Nat.le_trans K0.1 hz1
  have N1 := Fr.app N0 Nq1
  have Zs1 : n0 ≤ T1.heap.size := Nat.le_trans Z0 Kq1.1
  have F2 := V_a.keep Kq1 nin0
  have F3 := O_0.keep Kq1 all0
  have K1 := K0.trans Kq1 all0
  refine OGo.st st1 ?_
  show OG p e below Φ T1 m 4 #[rv a, iv 0, iv 3, .unset, .unset] [(.ref b1)]
  refine OGo.st (fun _ kz => XS.astoreN X1.here hx rfl (hb hby d19_4) rfl rfl (l' := #[rv a, iv 0, iv 3, rv b1, .unset]) rfl kz) ?_
  show OG p e below Φ T1 m 5 #[rv a, iv 0, iv 3, rv b1, .unset] []
  refine OGo.st (fun _ kz => XS.iconst X1.here hx rfl (hb hby d19_5) kz) ?_
  show OG p e below Φ T1 m 6 #[rv a, iv 0, iv 3, rv b1, .unset] [(.int 0)]
  refine OGo.st (fun _ kz => XS.istore X1.here hx rfl (hb hby d19_6) rfl (l' := #[rv a, iv 0, iv 3, rv b1, iv 0]) rfl kz) ?_
  show OG p e below Φ T1 m 8 #[rv a, iv 0, iv 3, rv b1, iv 0] []
  refine OGo.st (fun _ kz => XS.iload X1.here hx rfl (hb hby d19_8) rfl kz) ?_
  show OG p e below Φ T1 m 10 #[rv a, iv 0, iv 3, rv b1, iv 0] [(.int 0)]
  refine OGo.st (fun _ kz => XS.iloadN X1.here hx rfl (hb hby d19_10) rfl kz) ?_
  show OG p e below Φ T1 m 11 #[rv a, iv 0, iv 3, rv b1, iv 0] [(.int 3), (.int 0)]
  refine OGo.st (fun _ kz => XS.icmpNo X1.here hx rfl (hb hby d19_11) rfl (XT.ii_ge_f (by decide)) kz) ?_
  show OG p e below Φ T1 m 14 #[rv a, iv 0, iv 3, rv b1, iv 0] []
  refine OGo.st (fun _ kz => XS.aloadN X1.here hx rfl (hb hby d19_14) rfl rfl kz) ?_
  show OG p e below Φ T1 m 15 #[rv a, iv 0, iv 3, rv b1, iv 0] [(.ref b1)]
  refine OGo.st (fun _ kz => XS.iload X1.here hx rfl (hb hby d19_15) rfl kz) ?_
  show OG p e below Φ T1 m 17 #[rv a, iv 0, iv 3, rv b1, iv 0] [(.int 0), (.ref b1)]
  refine OGo.st (fun _ kz => XS.aloadN X1.here hx rfl (hb hby d19_17) rfl rfl kz) ?_
  show OG p e below Φ T1 m 18 #[rv a, iv 0, iv 3, rv b1, iv 0] [(.ref a), (.int 0), (.ref b1)]
  refine OGo.st (fun _ kz => XS.iloadN X1.here hx rfl (hb hby d19_18) rfl kz) ?_
  show OG p e below Φ T1 m 19 #[rv a, iv 0, iv 3, rv b1, iv 0] [(.int 0), (.ref a), (.int 0), (.ref b1)]
  obtain ⟨cl4, Aq4, -, S4, M4, H4, -⟩ := id F2
  have in4 : ¬ ((0 : Int32) < 0 ∨ cl4.slots.size ≤ (0 : Int32).toNatClampNeg) := inb_of S4 ⟨by decide, by decide⟩
  have at4 : cl4.slots[(0 : Int32).toNatClampNeg]? = some (.int c0_) := H4.at in4 rfl
  refine OGo.st (fun _ kz => X1.caload hx Aq4.1 (State.isArrayOf_alike hZ.alike Aq4.2.1) Aq4.2.2 in4 at4 (g := (mkF m 19 #[rv a, iv 0, iv 3, rv b1, iv 0] [(.int 0), (.ref a), (.int 0), (.ref b1)])) rfl rfl (hb hby d19_19) _ kz) ?_
  show OG p e below Φ T1 m 20 #[rv a, iv 0, iv 3, rv b1, iv 0] [(.int c0_), (.int 0), (.ref b1)]
  obtain ⟨_, T5, L5, X5, hQ5, st5⟩ := own_callSt X1 hx hZ hown (ow114 hw) (ow115 hw) (ow36 hw) (ow116 hw) (by decide) (rsb3_0pc0 l Z a0 hw [] b1 cb1 c0_ c1_ c2_ T1.heap n0 Zs1 Vq1 gq1 (S_ad.ext F3.2) (S_hb.ext F3.2) (S_lb.ext F3.2)) rfl (W := 0) (by decide) (by decide) (by decide) (by decide) (pc := 20) (ls := #[rv a, iv 0, iv 3, rv b1, iv 0]) (stk := [(.int c0_), (.int 0), (.ref b1)]) (by rw [hml]; rfl) (argsL := [(.ref b1), (.int 0), (.int c0_)]) (rest := []) (lenOf pd6 rfl) rfl rfl (Nat.le_of_eq rfl) (hb hby d19_20)
  obtain ⟨rfl, Nq5, Kq5, Vq5⟩ := hQ5
  have N5 := Fr.app N1 Nq5
  have Zs5 : n0 ≤ T5.heap.size := Nat.le_trans Zs1 Kq5.1
  have F6 := F2.keep Kq5 (ninS nq1_a nin0)
  have F7 := F3.keep Kq5 (allS gq1 all0)
  have K5 := K1.trans Kq5 (allS (Or.inr sq1) all0)
  refine OGo.st st5 ?_
  show OG p e below Φ T5 m 23 #[rv a, iv 0, iv 3, rv b1, iv 0] []
  refine OGo.st (fun _ kz => XS.iinc X5.here hx rfl (hb hby d19_23) rfl (l' := #[rv a, iv ((0 : Int32) + (1 : Int32)), iv 3, rv b1, iv 0]) rfl kz) ?_
  show OG p e below Φ T5 m 26 #[rv a, iv 1, iv 3, rv b1, iv 0] []
  refine OGo.st (fun _ kz => XS.iinc X5.here hx rfl (hb hby d19_26) rfl (l' := #[rv a, iv 1, iv 3, rv b1, iv ((0 : Int32) + (1 : Int32))]) rfl kz) ?_
  show OG p e below Φ T5 m 29 #[rv a, iv 1, iv 3, rv b1, iv 1] []
  refine OGo.st (fun _ kz => XS.goto X5.here hx rfl (pc0 := 29) (pc' := 8) rfl (hb hby d19_29) (by decide) (by decide) kz) ?_
  show OG p e below Φ T5 m 8 #[rv a, iv 1, iv 3, rv b1, iv 1] []
  refine OGo.st (fun _ kz => XS.iload X5.here hx rfl (hb hby d19_8) rfl kz) ?_
  show OG p e below Φ T5 m 10 #[rv a, iv 1, iv 3, rv b1, iv 1] [(.int 1)]
  refine OGo.st (fun _ kz => XS.iloadN X5.here hx rfl (hb hby d19_10) rfl kz) ?_
  show OG p e below Φ T5 m 11 #[rv a, iv 1, iv 3, rv b1, iv 1] [(.int 3), (.int 1)]
  refine OGo.st (fun _ kz => XS.icmpNo X5.here hx rfl (hb hby d19_11) rfl (XT.ii_ge_f (by decide)) kz) ?_
  show OG p e below Φ T5 m 14 #[rv a, iv 1, iv 3, rv b1, iv 1] []
  refine OGo.st (fun _ kz => XS.aloadN X5.here hx rfl (hb hby d19_14) rfl rfl kz) ?_
  show OG p e below Φ T5 m 15 #[rv a, iv 1, iv 3, rv b1, iv 1] [(.ref b1)]
  refine OGo.st (fun _ kz => XS.iload X5.here hx rfl (hb hby d19_15) rfl kz) ?_
  show OG p e below Φ T5 m 17 #[rv a, iv 1, iv 3, rv b1, iv 1] [(.int 1), (.ref b1)]
  refine OGo.st (fun _ kz => XS.aloadN X5.here hx rfl (hb hby d19_17) rfl rfl kz) ?_
  show OG p e below Φ T5 m 18 #[rv a, iv 1, iv 3, rv b1, iv 1] [(.ref a), (.int 1), (.ref b1)]
  refine OGo.st (fun _ kz => XS.iloadN X5.here hx rfl (hb hby d19_18) rfl kz) ?_
  show OG p e below Φ T5 m 19 #[rv a, iv 1, iv 3, rv b1, iv 1] [(.int 1), (.ref a), (.int 1), (.ref b1)]
  obtain ⟨cl8, Aq8, -, S8, M8, H8, -⟩ := id F6
  have in8 : ¬ ((1 : Int32) < 0 ∨ cl8.slots.size ≤ (1 : Int32).toNatClampNeg) := inb_of S8 ⟨by decide, by decide⟩
  have at8 : cl8.slots[(1 : Int32).toNatClampNeg]? = some (.int c1_) := H8.at in8 rfl
  refine OGo.st (fun _ kz => X5.caload hx Aq8.1 (State.isArrayOf_alike hZ.alike Aq8.2.1) Aq8.2.2 in8 at8 (g := (mkF m 19 #[rv a, iv 1, iv 3, rv b1, iv 1] [(.int 1), (.ref a), (.int 1), (.ref b1)])) rfl rfl (hb hby d19_19) _ kz) ?_
  show OG p e below Φ T5 m 20 #[rv a, iv 1, iv 3, rv b1, iv 1] [(.int c1_), (.int 1), (.ref b1)]
  obtain ⟨_, T9, L9, X9, hQ9, st9⟩ := own_callSt X5 hx hZ hown (ow114 hw) (ow115 hw) (ow36 hw) (ow116 hw) (by decide) (rsb3_0pc1 l Z a0 hw [] b1 cb1 c0_ c1_ c2_ T5.heap n0 Zs5 Vq5 gq1 (S_ad.ext F7.2) (S_hb.ext F7.2) (S_lb.ext F7.2)) rfl (W := 0) (by decide) (by decide) (by decide) (by decide) (pc := 20) (ls := #[rv a, iv 1, iv 3, rv b1, iv 1]) (stk := [(.int c1_), (.int 1), (.ref b1)]) (by rw [hml]; rfl) (argsL := [(.ref b1), (.int 1), (.int c1_)]) (rest := []) (lenOf pd6 rfl) rfl rfl (Nat.le_of_eq rfl) (hb hby d19_20)
  obtain ⟨rfl, Nq9, Kq9, Vq9⟩ := hQ9
  have N9 := Fr.app N5 Nq9
  have Zs9 : n0 ≤ T9.heap.size := Nat.le_trans Zs5 Kq9.1
  have F10 := F6.keep Kq9 (ninS nq1_a nin0)
  have F11 := F7.keep Kq9 (allS gq1 all0)
  have K9 := K5.trans Kq9 (allS (Or.inr sq1) all0)
  refine OGo.st st9 ?_
  show OG p e below Φ T9 m 23 #[rv a, iv 1, iv 3, rv b1, iv 1] []
  refine OGo.st (fun _ kz => XS.iinc X9.here hx rfl (hb hby d19_23) rfl (l' := #[rv a, iv ((1 : Int32) + (1 : Int32)), iv 3, rv b1, iv 1]) rfl kz) ?_
  show OG p e below Φ T9 m 26 #[rv a, iv 2, iv 3, rv b1, iv 1] []
  refine OGo.st (fun _ kz => XS.iinc X9.here hx rfl (hb hby d19_26) rfl (l' := #[rv a, iv 2, iv 3, rv b1, iv ((1 : Int32) + (1 : Int32))]) rfl kz) ?_
  show OG p e below Φ T9 m 29 #[rv a, iv 2, iv 3, rv b1, iv 2] []
  refine OGo.st (fun _ kz => XS.goto X9.here hx rfl (pc0 := 29) (pc' := 8) rfl (hb hby d19_29) (by decide) (by decide) kz) ?_
  show OG p e below Φ T9 m 8 #[rv a, iv 2, iv 3, rv b1, iv 2] []
  refine OGo.st (fun _ kz => XS.iload X9.here hx rfl (hb hby d19_8) rfl kz) ?_
  show OG p e below Φ T9 m 10 #[rv a, iv 2, iv 3, rv b1, iv 2] [(.int 2)]
  refine OGo.st (fun _ kz => XS.iloadN X9.here hx rfl (hb hby d19_10) rfl kz) ?_
  show OG p e below Φ T9 m 11 #[rv a, iv 2, iv 3, rv b1, iv 2] [(.int 3), (.int 2)]
  refine OGo.st (fun _ kz => XS.icmpNo X9.here hx rfl (hb hby d19_11) rfl (XT.ii_ge_f (by decide)) kz) ?_
  show OG p e below Φ T9 m 14 #[rv a, iv 2, iv 3, rv b1, iv 2] []
  refine OGo.st (fun _ kz => XS.aloadN X9.here hx rfl (hb hby d19_14) rfl rfl kz) ?_
  show OG p e below Φ T9 m 15 #[rv a, iv 2, iv 3, rv b1, iv 2] [(.ref b1)]
  refine OGo.st (fun _ kz => XS.iload X9.here hx rfl (hb hby d19_15) rfl kz) ?_
  show OG p e below Φ T9 m 17 #[rv a, iv 2, iv 3, rv b1, iv 2] [(.int 2), (.ref b1)]
  refine OGo.st (fun _ kz => XS.aloadN X9.here hx rfl (hb hby d19_17) rfl rfl kz) ?_
  show OG p e below Φ T9 m 18 #[rv a, iv 2, iv 3, rv b1, iv 2] [(.ref a), (.int 2), (.ref b1)]
  refine OGo.st (fun _ kz => XS.iloadN X9.here hx rfl (hb hby d19_18) rfl kz) ?_
  show OG p e below Φ T9 m 19 #[rv a, iv 2, iv 3, rv b1, iv 2] [(.int 2), (.ref a), (.int 2), (.ref b1)]
  obtain ⟨cl12, Aq12, -, S12, M12, H12, -⟩ := id F10
  have in12 : ¬ ((2 : Int32) < 0 ∨ cl12.slots.size ≤ (2 : Int32).toNatClampNeg) := inb_of S12 ⟨by decide, by decide⟩
  have at12 : cl12.slots[(2 : Int32).toNatClampNeg]? = some (.int c2_) := H12.at in12 rfl
  refine OGo.st (fun _ kz => X9.caload hx Aq12.1 (State.isArrayOf_alike hZ.alike Aq12.2.1) Aq12.2.2 in12 at12 (g := (mkF m 19 #[rv a, iv 2, iv 3, rv b1, iv 2] [(.int 2), (.ref a), (.int 2), (.ref b1)])) rfl rfl (hb hby d19_19) _ kz) ?_
  show OG p e below Φ T9 m 20 #[rv a, iv 2, iv 3, rv b1, iv 2] [(.int c2_), (.int 2), (.ref b1)]
  obtain ⟨_, T13, L13, X13, hQ13, st13⟩ := own_callSt X9 hx hZ hown (ow114 hw) (ow115 hw) (ow36 hw) (ow116 hw) (by decide) (rsb3_0pc2 l Z a0 hw [] b1 cb1 c0_ c1_ c2_ T9.heap n0 Zs9 Vq9 gq1 (S_ad.ext F11.2) (S_hb.ext F11.2) (S_lb.ext F11.2)) rfl (W := 0) (by decide) (by decide) (by decide) (by decide) (pc := 20) (ls := #[rv a, iv 2, iv 3, rv b1, iv 2]) (stk := [(.int c2_), (.int 2), (.ref b1)]) (by rw [hml]; rfl) (argsL := [(.ref b1), (.int 2), (.int c2_)]) (rest := []) (lenOf pd6 rfl) rfl rfl (Nat.le_of_eq rfl) (hb hby d19_20)
  obtain ⟨rfl, Nq13, Kq13, Vq13⟩ := hQ13
  have N13 := Fr.app N9 Nq13
  have Zs13 : n0 ≤ T13.heap.size := Nat.le_trans Zs9 Kq13.1
  have F14 := F10.keep Kq13 (ninS nq1_a nin0)
  have F15 := F11.keep Kq13 (allS gq1 all0)
  have K13 := K9.trans Kq13 (allS (Or.inr sq1) all0)
  refine OGo.st st13 ?_
  show OG p e below Φ T13 m 23 #[rv a, iv 2, iv 3, rv b1, iv 2] []
  refine OGo.st (fun _ kz => XS.iinc X13.here hx rfl (hb hby d19_23) rfl (l' := #[rv a, iv ((2 : Int32) + (1 : Int32)), iv 3, rv b1, iv 2]) rfl kz) ?_
  show OG p e below Φ T13 m 26 #[rv a, iv 3, iv 3, rv b1, iv 2] []
  refine OGo.st (fun _ kz => XS.iinc X13.here hx rfl (hb hby d19_26) rfl (l' := #[rv a, iv 3, iv 3, rv b1, iv ((2 : Int32) + (1 : Int32))]) rfl kz) ?_
  show OG p e below Φ T13 m 29 #[rv a, iv 3, iv 3, rv b1, iv 3] []
  refine OGo.st (fun _ kz => XS.goto X13.here hx rfl (pc0 := 29) (pc' := 8) rfl (hb hby d19_29) (by decide) (by decide) kz) ?_
  show OG p e below Φ T13 m 8 #[rv a, iv 3, iv 3, rv b1, iv 3] []
  refine OGo.st (fun _ kz => XS.iload X13.here hx rfl (hb hby d19_8) rfl kz) ?_
  show OG p e below Φ T13 m 10 #[rv a, iv 3, iv 3, rv b1, iv 3] [(.int 3)]
  refine OGo.st (fun _ kz => XS.iloadN X13.here hx rfl (hb hby d19_10) rfl kz) ?_
  show OG p e below Φ T13 m 11 #[rv a, iv 3, iv 3, rv b1, iv 3] [(.int 3), (.int 3)]
  refine OGo.st (fun _ kz => XS.icmpYes X13.here hx rfl (pc0 := 11) (pc' := 32) rfl (hb hby d19_11) rfl (XT.ii_ge_t (by decide)) (by decide) (by decide) kz) ?_
  show OG p e below Φ T13 m 32 #[rv a, iv 3, iv 3, rv b1, iv 3] []
  refine OGo.st (fun _ kz => XS.aloadN X13.here hx rfl (hb hby d19_32) rfl rfl kz) ?_
  show OG p e below Φ T13 m 33 #[rv a, iv 3, iv 3, rv b1, iv 3] [(.ref b1)]
  refine OGo.fin X13 hlk (v := (some (.ref b1))) (fun h => by rw [hret] at h; cases h) (by decide) (by decide) (fun fs hr => X13.areturnOut hx rfl hret rfl (hb hby d19_33) hr) fun U eU hF => hΦ _ _ _ ?_ hF
  rw [eU]
  show Q_rsb3_0tb Z a ca c0_ c1_ c2_ h0 n0 _ _ _
  exact ⟨_, _, rfl, N13, K13, Vq13, sq1⟩

theorem ef_rsb3_0gc (m : MethodId) (x0 : Addr) (x1 : Int32) : entryFrame m #[(.ref x0), (.int x1)] 2 = mkF m 0 #[.val (.ref x0), .val (.int x1)] [] := by first | (simp [entryFrame, mkF, argsToLocals, Value.category]; done) | rfl
def Q_rsb3_0gc (Z : State) (b : Addr) (cb : ClassId) (c0_ : Int32) (c1_ : Int32) (c2_ : Int32) (h0 : Heap) (n0 : Nat) (v : Option Value) (h : Heap) (L : List Loc) : Prop := v = some (.int c0_) ∧ Fr n0 L ∧ h = h0
set_option maxRecDepth 65536 in
set_option maxHeartbeats 40000000 in
theorem rsb3_0gc (l : Launch) (Z : State) (a0 : Array Value) (hw : ∀ d ∈ tables_1, d.before a0 Z = true) (ws : List Jvm.Cond) (b : Addr) (cb : ClassId) (c0_ : Int32) (c1_ : Int32) (c2_ : Int32) (h0 : Heap) (n0 : Nat) (Z0 : n0 ≤ h0.size) (V_b : Arv Z h0 b cb .byte (6 : Int32) [(.int (nar .byte (c0_ >>> (0 &&& 31)).toInt8.toInt32)), (.int (nar .byte (c0_ >>> (8 &&& 31)).toInt8.toInt32)), (.int (nar .byte (c1_ >>> (0 &&& 31)).toInt8.toInt32)), (.int (nar .byte (c1_ >>> (8 &&& 31)).toInt8.toInt32)), (.int (nar .byte (c2_ >>> (0 &&& 31)).toInt8.toInt32)), (.int (nar .byte (c2_ >>> (8 &&& 31)).toInt8.toInt32))] (.int (0 : Int32))) (S_ad : Sta Z h0 "java/lang/StringUTF16" "$assertionsDisabled" "Z" (.int (1 : Int32))) (S_hb : Sta Z h0 "java/lang/StringUTF16" "HI_BYTE_SHIFT" "I" (.int (0 : Int32))) (S_lb : Sta Z h0 "java/lang/StringUTF16" "LO_BYTE_SHIFT" "I" (.int (8 : Int32))) (hr0 : nar .char c0_ = c0_) :
    OCon l Z (⟨"java/lang/StringUTF16", "getChar", "([BI)C"⟩ : MethodName) jdk_52_method_5_code 2 (some .char) ws ({ frames := 0, cells := 0, slots := 0, locals := 0 } : Room) #[(.ref b), (.int (0 : Int32))] h0 (Q_rsb3_0gc Z b cb c0_ c1_ c2_ h0 n0) := by
  refine OCon.of (plainFor_of_name pn1) ?_
  intro p e s m below meth c s₁ Φ X0 hx hby hml hown hnm hret hlk hZ e0 hΦ
  have N0 := Fr.nil n0
  refine OGo.st (fun _ kz => castTop (ef_rsb3_0gc m b (0 : Int32)) kz) ?_
  show OG p e below Φ s₁ m 0 #[rv b, iv 0] []
  obtain ⟨T1, X1, e1, st1⟩ := getS2 X0 hx hZ hown (host := "") (Or.inl (ow117 hw)) Via.refl e0 S_ad (g := (mkF m 0 #[rv b, iv 0] [])) rfl (hb hby d23_0)
  refine OGo.st st1 ?_
  show OG p e below Φ T1 m 3 #[rv b, iv 0] [(.int 1)]
  refine OGo.st (fun _ kz => XS.ifYes X1.here hx rfl (pc0 := 3) (pc' := 28) rfl (hb hby d23_3) rfl (XT.i0_ne_t (by decide)) (by decide) (by decide) kz) ?_
  show OG p e below Φ T1 m 28 #[rv b, iv 0] []
  refine OGo.st (fun _ kz => XS.iloadN X1.here hx rfl (hb hby d23_28) rfl kz) ?_
  show OG p e below Φ T1 m 29 #[rv b, iv 0] [(.int 0)]
  refine OGo.st (fun _ kz => XS.iconst X1.here hx rfl (hb hby d23_29) kz) ?_
  show OG p e below Φ T1 m 30 #[rv b, iv 0] [(.int 1), (.int 0)]
  refine OGo.st (fun _ kz => XT.ishl X1.here hx rfl (hb hby d23_30) rfl kz) ?_
  show OG p e below Φ T1 m 31 #[rv b, iv 0] [(.int 0)]
  refine OGo.st (fun _ kz => XS.istoreN X1.here hx rfl (hb hby d23_31) rfl (l' := #[rv b, iv 0]) rfl kz) ?_
  show OG p e below Φ T1 m 32 #[rv b, iv 0] []
  refine OGo.st (fun _ kz => XS.aloadN X1.here hx rfl (hb hby d23_32) rfl rfl kz) ?_
  show OG p e below Φ T1 m 33 #[rv b, iv 0] [(.ref b)]
  refine OGo.st (fun _ kz => XS.iloadN X1.here hx rfl (hb hby d23_33) rfl kz) ?_
  show OG p e below Φ T1 m 34 #[rv b, iv 0] [(.int 0), (.ref b)]
  refine OGo.st (fun _ kz => XS.iinc X1.here hx rfl (hb hby d23_34) rfl (l' := #[rv b, iv ((0 : Int32) + (1 : Int32))]) rfl kz) ?_
  show OG p e below Φ T1 m 37 #[rv b, iv 1] [(.int 0), (.ref b)]
  obtain ⟨cl2, Aq2, -, S2, M2, H2, -⟩ := id V_b
  have in2 : ¬ ((0 : Int32) < 0 ∨ cl2.slots.size ≤ (0 : Int32).toNatClampNeg) := inb_of S2 ⟨by decide, by decide⟩
  have at2 : cl2.slots[(0 : Int32).toNatClampNeg]? = some (.int (nar .byte (c0_ >>> (0 &&& 31)).toInt8.toInt32)) := H2.at in2 rfl
  refine OGo.st (fun _ kz => X1.baloadBytes hx (by rw [e1]; exact Aq2.1) (State.isArrayOf_alike hZ.alike Aq2.2.1) Aq2.2.2 in2 at2 (g := (mkF m 37 #[rv b, iv 1] [(.int 0), (.ref b)])) rfl rfl (hb hby d23_37) _ kz) ?_
  show OG p e below Φ T1 m 38 #[rv b, iv 1] [(.int (nar .byte (c0_ >>> (0 &&& 31)).toInt8.toInt32))]
  refine OGo.st (fun _ kz => XS.sipush X1.here hx rfl (hb hby d23_38) kz) ?_
  show OG p e below Φ T1 m 41 #[rv b, iv 1] [(.int 255), (.int (nar .byte (c0_ >>> (0 &&& 31)).toInt8.toInt32))]
  refine OGo.st (fun _ kz => XS.iand X1.here hx rfl (hb hby d23_41) rfl kz) ?_
  show OG p e below Φ T1 m 42 #[rv b, iv 1] [(.int ((nar .byte (c0_ >>> (0 &&& 31)).toInt8.toInt32) &&& (255 : Int32)))]
  obtain ⟨T3, X3, e3, st3⟩ := getS2 X1 hx hZ hown (host := "") (Or.inl (ow118 hw)) Via.refl e1 S_hb (g := (mkF m 42 #[rv b, iv 1] [(.int ((nar .byte (c0_ >>> (0 &&& 31)).toInt8.toInt32) &&& (255 : Int32)))])) rfl (hb hby d23_42)
  refine OGo.st st3 ?_
  show OG p e below Φ T3 m 45 #[rv b, iv 1] [(.int 0), (.int ((nar .byte (c0_ >>> (0 &&& 31)).toInt8.toInt32) &&& (255 : Int32)))]
  refine OGo.st (fun _ kz => XT.ishl X3.here hx rfl (hb hby d23_45) rfl kz) ?_
  show OG p e below Φ T3 m 46 #[rv b, iv 1] [(.int (((nar .byte (c0_ >>> (0 &&& 31)).toInt8.toInt32) &&& (255 : Int32)) <<< ((0 : Int32) &&& 31)))]
  refine OGo.st (fun _ kz => XS.aloadN X3.here hx rfl (hb hby d23_46) rfl rfl kz) ?_
  show OG p e below Φ T3 m 47 #[rv b, iv 1] [(.ref b), (.int (((nar .byte (c0_ >>> (0 &&& 31)).toInt8.toInt32) &&& (255 : Int32)) <<< ((0 : Int32) &&& 31)))]
  refine OGo.st (fun _ kz => XS.iloadN X3.here hx rfl (hb hby d23_47) rfl kz) ?_
  show OG p e below Φ T3 m 48 #[rv b, iv 1] [(.int 1), (.ref b), (.int (((nar .byte (c0_ >>> (0 &&& 31)).toInt8.toInt32) &&& (255 : Int32)) <<< ((0 : Int32) &&& 31)))]
  obtain ⟨cl4, Aq4, -, S4, M4, H4, -⟩ := id V_b
  have in4 : ¬ ((1 : Int32) < 0 ∨ cl4.slots.size ≤ (1 : Int32).toNatClampNeg) := inb_of S4 ⟨by decide, by decide⟩
  have at4 : cl4.slots[(1 : Int32).toNatClampNeg]? = some (.int (nar .byte (c0_ >>> (8 &&& 31)).toInt8.toInt32)) := H4.at in4 rfl
  refine OGo.st (fun _ kz => X3.baloadBytes hx (by rw [e3]; exact Aq4.1) (State.isArrayOf_alike hZ.alike Aq4.2.1) Aq4.2.2 in4 at4 (g := (mkF m 48 #[rv b, iv 1] [(.int 1), (.ref b), (.int (((nar .byte (c0_ >>> (0 &&& 31)).toInt8.toInt32) &&& (255 : Int32)) <<< ((0 : Int32) &&& 31)))])) rfl rfl (hb hby d23_48) _ kz) ?_
  show OG p e below Φ T3 m 49 #[rv b, iv 1] [(.int (nar .byte (c0_ >>> (8 &&& 31)).toInt8.toInt32)), (.int (((nar .byte (c0_ >>> (0 &&& 31)).toInt8.toInt32) &&& (255 : Int32)) <<< ((0 : Int32) &&& 31)))]
  refine OGo.st (fun _ kz => XS.sipush X3.here hx rfl (hb hby d23_49) kz) ?_
  show OG p e below Φ T3 m 52 #[rv b, iv 1] [(.int 255), (.int (nar .byte (c0_ >>> (8 &&& 31)).toInt8.toInt32)), (.int (((nar .byte (c0_ >>> (0 &&& 31)).toInt8.toInt32) &&& (255 : Int32)) <<< ((0 : Int32) &&& 31)))]
  refine OGo.st (fun _ kz => XS.iand X3.here hx rfl (hb hby d23_52) rfl kz) ?_
  show OG p e below Φ T3 m 53 #[rv b, iv 1] [(.int ((nar .byte (c0_ >>> (8 &&& 31)).toInt8.toInt32) &&& (255 : Int32))), (.int (((nar .byte (c0_ >>> (0 &&& 31)).toInt8.toInt32) &&& (255 : Int32)) <<< ((0 : Int32) &&& 31)))]
  obtain ⟨T5, X5, e5, st5⟩ := getS2 X3 hx hZ hown (host := "") (Or.inl (ow119 hw)) Via.refl e3 S_lb (g := (mkF m 53 #[rv b, iv 1] [(.int ((nar .byte (c0_ >>> (8 &&& 31)).toInt8.toInt32) &&& (255 : Int32))), (.int (((nar .byte (c0_ >>> (0 &&& 31)).toInt8.toInt32) &&& (255 : Int32)) <<< ((0 : Int32) &&& 31)))])) rfl (hb hby d23_53)
  refine OGo.st st5 ?_
  show OG p e below Φ T5 m 56 #[rv b, iv 1] [(.int 8), (.int ((nar .byte (c0_ >>> (8 &&& 31)).toInt8.toInt32) &&& (255 : Int32))), (.int (((nar .byte (c0_ >>> (0 &&& 31)).toInt8.toInt32) &&& (255 : Int32)) <<< ((0 : Int32) &&& 31)))]
  refine OGo.st (fun _ kz => XT.ishl X5.here hx rfl (hb hby d23_56) rfl kz) ?_
  show OG p e below Φ T5 m 57 #[rv b, iv 1] [(.int (((nar .byte (c0_ >>> (8 &&& 31)).toInt8.toInt32) &&& (255 : Int32)) <<< ((8 : Int32) &&& 31))), (.int (((nar .byte (c0_ >>> (0 &&& 31)).toInt8.toInt32) &&& (255 : Int32)) <<< ((0 : Int32) &&& 31)))]
  refine OGo.st (fun _ kz => XT.ior X5.here hx rfl (hb hby d23_57) rfl kz) ?_
  show OG p e below Φ T5 m 58 #[rv b, iv 1] [(.int ((((nar .byte (c0_ >>> (0 &&& 31)).toInt8.toInt32) &&& (255 : Int32)) <<< ((0 : Int32) &&& 31)) ||| (((nar .byte (c0_ >>> (8 &&& 31)).toInt8.toInt32) &&& (255 : Int32)) <<< ((8 : Int32) &&& 31))))]
  refine OGo.st (fun _ kz => XT.i2c X5.here hx rfl (hb hby d23_58) rfl kz) ?_
  show OG p e below Φ T5 m 59 #[rv b, iv 1] [(.int (((((nar .byte (c0_ >>> (0 &&& 31)).toInt8.toInt32) &&& (255 : Int32)) <<< ((0 : Int32) &&& 31)) ||| (((nar .byte (c0_ >>> (8 &&& 31)).toInt8.toInt32) &&& (255 : Int32)) <<< ((8 : Int32) &&& 31))).toUInt32.toUInt16.toUInt32.toInt32))]
  refine OGo.fin X5 hlk (v := (some (.int (((((nar .byte (c0_ >>> (0 &&& 31)).toInt8.toInt32) &&& (255 : Int32)) <<< ((0 : Int32) &&& 31)) ||| (((nar .byte (c0_ >>> (8 &&& 31)).toInt8.toInt32) &&& (255 : Int32)) <<< ((8 : Int32) &&& 31))).toUInt32.toUInt16.toUInt32.toInt32)))) (fun h => by rw [hret] at h; cases h) (by decide) (by decide) (fun fs hr => X5.ireturnOut hx hret (XT.narrow_c _) (by simp) (hb hby d23_59) hr) fun U eU hF => hΦ _ _ _ ?_ hF
  rw [eU, e5]
  show Q_rsb3_0gc Z b cb c0_ c1_ c2_ h0 n0 _ _ _
  rw [own_gc _ hr0]
  exact ⟨rfl, N0, rfl⟩

theorem ef_rsb3_0c3 (m : MethodId) (x0 : Addr) (x1 : Int32) (x2 : Int32) : entryFrame m #[(.ref x0), (.int x1), (.int x2)] 6 = mkF m 0 #[.val (.ref x0), .val (.int x1), .val (.int x2), .unset, .unset, .unset] [] := by first | (simp [entryFrame, mkF, argsToLocals, Value.category]; done) | rfl
def Q_rsb3_0c3 (Z : State) (a : Addr) (ca : ClassId) (c0_ : Int32) (c1_ : Int32) (c2_ : Int32) (h0 : Heap) (n0 : Nat) (v : Option Value) (h : Heap) (L : List Loc) : Prop := ∃ b cb, v = some (.ref b) ∧ Fr n0 L ∧ Keep h0 h [] ∧ Arv Z h b cb .byte (6 : Int32) [(.int (nar .byte (c0_ >>> (0 &&& 31)).toInt8.toInt32)), (.int (nar .byte (c0_ >>> (8 &&& 31)).toInt8.toInt32)), (.int (nar .byte (c1_ >>> (0 &&& 31)).toInt8.toInt32)), (.int (nar .byte (c1_ >>> (8 &&& 31)).toInt8.toInt32)), (.int (nar .byte (c2_ >>> (0 &&& 31)).toInt8.toInt32)), (.int (nar .byte (c2_ >>> (8 &&& 31)).toInt8.toInt32))] (.int (0 : Int32)) ∧ h0.size ≤ b
set_option maxRecDepth 65536 in
set_option maxHeartbeats 40000000 in
theorem rsb3_0c3 (l : Launch) (Z : State) (a0 : Array Value) (hw : ∀ d ∈ tables_1, d.before a0 Z = true) (ws : List Jvm.Cond) (a : Addr) (ca : ClassId) (c0_ : Int32) (c1_ : Int32) (c2_ : Int32) (h0 : Heap) (n0 : Nat) (Z0 : n0 ≤ h0.size) (V_a : Arv Z h0 a ca .char (3 : Int32) [(.int c0_), (.int c1_), (.int c2_)] (.int (0 : Int32))) (O_0 : Old Z n0 h0) (S_ad : Sta Z Z.heap "java/lang/StringUTF16" "$assertionsDisabled" "Z" (.int (1 : Int32))) (S_hb : Sta Z Z.heap "java/lang/StringUTF16" "HI_BYTE_SHIFT" "I" (.int (0 : Int32))) (S_lb : Sta Z Z.heap "java/lang/StringUTF16" "LO_BYTE_SHIFT" "I" (.int (8 : Int32))) (hb0 : (255 : Int32) < c0_) (hr0 : nar .char c0_ = c0_) :
    OCon l Z (⟨"java/lang/StringUTF16", "compress", "([CII)[B"⟩ : MethodName) jdk_52_method_16_code 6 (some (.array .byte)) ws ({ frames := 3, cells := 2, slots := 9, locals := 40 } : Room) #[(.ref a), (.int (0 : Int32)), (.int (3 : Int32))] h0 (Q_rsb3_0c3 Z a ca c0_ c1_ c2_ h0 n0) := by
  refine OCon.of (plainFor_of_name pn1) ?_
  intro p e s m below meth c s₁ Φ X0 hx hby hml hown hnm hret hlk hZ e0 hΦ
  have N0 := Fr.nil n0
  refine OGo.st (fun _ kz => castTop (ef_rsb3_0c3 m a (0 : Int32) (3 : Int32)) kz) ?_
  have K0 := Keep.refl h0 []
  show OG p e below Φ s₁ m 0 #[rv a, iv 0, iv 3, .unset, .unset, .unset] []
  refine OGo.st (fun _ kz => XS.iloadN X0.here hx rfl (hb hby d6_0) rfl kz) ?_
  show OG p e below Φ s₁ m 1 #[rv a, iv 0, iv 3, .unset, .unset, .unset] [(.int 3)]
  obtain ⟨T1, h1, c1, X1, e1, E1, Ar1, st1⟩ := newP (aty := .byte) X0 hx hZ (ow26 hw) e0 (g := (mkF m 1 #[rv a, iv 0, iv 3, .unset, .unset, .unset] [(.int 3)])) rfl (hb hby d6_1) rfl (by decide) (cap := 3) (by decide) (by decide) (by decide) (by decide)
  obtain ⟨b1, g1⟩ : ∃ z, z = h0.size := ⟨_, rfl⟩
  rw [← g1] at Ar1 st1
  have ne1_a : a ≠ b1 := by rw [g1]; exact Nat.ne_of_lt V_a.lt
  have F2 := V_a.ext E1
  have F3 := O_0.ext E1
  have gb1 : n0 ≤ b1 := Nat.le_trans Z0 (Nat.le_of_eq g1.symm)
  have sz1 : h0.size ≤ b1 := Nat.le_trans K0.1 (Nat.le_of_eq g1.symm)
  have K1 := K0.ext E1
  have Zs1 : n0 ≤ h1.size := Nat.le_trans Z0 E1.1
  have V1 : Arv Z h1 b1 c1 .byte (3 : Int32) [(.int (0 : Int32)), (.int (0 : Int32)), (.int (0 : Int32))] (.int (0 : Int32)) := (Arv.new Ar1 (by decide)).pad (pad_rep [] _ 3)
  refine OGo.st st1 ?_
  show OG p e below Φ T1 m 3 #[rv a, iv 0, iv 3, .unset, .unset, .unset] [(.ref b1)]
  refine OGo.st (fun _ kz => XS.astoreN X1.here hx rfl (hb hby d6_3) rfl rfl (l' := #[rv a, iv 0, iv 3, rv b1, .unset, .unset]) rfl kz) ?_
  show OG p e below Φ T1 m 4 #[rv a, iv 0, iv 3, rv b1, .unset, .unset] []
  refine OGo.st (fun _ kz => XS.aloadN X1.here hx rfl (hb hby d6_4) rfl rfl kz) ?_
  show OG p e below Φ T1 m 5 #[rv a, iv 0, iv 3, rv b1, .unset, .unset] [(.ref a)]
  refine OGo.st (fun _ kz => XS.iloadN X1.here hx rfl (hb hby d6_5) rfl kz) ?_
  show OG p e below Φ T1 m 6 #[rv a, iv 0, iv 3, rv b1, .unset, .unset] [(.int 0), (.ref a)]
  refine OGo.st (fun _ kz => XS.aloadN X1.here hx rfl (hb hby d6_6) rfl rfl kz) ?_
  show OG p e below Φ T1 m 7 #[rv a, iv 0, iv 3, rv b1, .unset, .unset] [(.ref b1), (.int 0), (.ref a)]
  refine OGo.st (fun _ kz => XS.iconst X1.here hx rfl (hb hby d6_7) kz) ?_
  show OG p e below Φ T1 m 8 #[rv a, iv 0, iv 3, rv b1, .unset, .unset] [(.int 0), (.ref b1), (.int 0), (.ref a)]
  refine OGo.st (fun _ kz => XS.iloadN X1.here hx rfl (hb hby d6_8) rfl kz) ?_
  show OG p e below Φ T1 m 9 #[rv a, iv 0, iv 3, rv b1, .unset, .unset] [(.int 3), (.int 0), (.ref b1), (.int 0), (.ref a)]
  obtain ⟨_, T4, L4, X4, hQ4, st4⟩ := own_callSt X1 hx hZ hown (ow38 hw) (ow39 hw) (ow36 hw) (ow40 hw) (by decide) (rsb3_0c2 l Z a0 hw [] a ca b1 c1 c0_ c1_ c2_ h1 n0 Zs1 F2 V1 ne1_a gb1 hb0) e1 (W := 0) (by decide) (by decide) (by decide) (by decide) (pc := 9) (ls := #[rv a, iv 0, iv 3, rv b1, .unset, .unset]) (stk := [(.int 3), (.int 0), (.ref b1), (.int 0), (.ref a)]) (by rw [hml]; rfl) (argsL := [(.ref a), (.int 0), (.ref b1), (.int 0), (.int 3)]) (rest := []) (lenOf pd1 rfl) rfl rfl (Nat.le_of_eq rfl) (hb hby d6_9)
  obtain ⟨rfl, Nq4, Kq4⟩ := hQ4
  have N4 := Fr.app N0 Nq4
  have Zs4 : n0 ≤ T4.heap.size := Nat.le_trans Zs1 Kq4.1
  have F5 := F2.keep Kq4 (ninS ne1_a nin0)
  have F6 := F3.keep Kq4 (allS gb1 all0)
  have K4 := K1.trans Kq4 (allS (Or.inr sz1) all0)
  refine OGo.st st4 ?_
  show OG p e below Φ T4 m 12 #[rv a, iv 0, iv 3, rv b1, .unset, .unset] [(.int 0)]
  refine OGo.st (fun _ kz => XS.istore X4.here hx rfl (hb hby d6_12) rfl (l' := #[rv a, iv 0, iv 3, rv b1, iv 0, .unset]) rfl kz) ?_
  show OG p e below Φ T4 m 14 #[rv a, iv 0, iv 3, rv b1, iv 0, .unset] []
  refine OGo.st (fun _ kz => XS.iload X4.here hx rfl (hb hby d6_14) rfl kz) ?_
  show OG p e below Φ T4 m 16 #[rv a, iv 0, iv 3, rv b1, iv 0, .unset] [(.int 0)]
  refine OGo.st (fun _ kz => XS.iloadN X4.here hx rfl (hb hby d6_16) rfl kz) ?_
  show OG p e below Φ T4 m 17 #[rv a, iv 0, iv 3, rv b1, iv 0, .unset] [(.int 3), (.int 0)]
  refine OGo.st (fun _ kz => XS.icmpNo X4.here hx rfl (hb hby d6_17) rfl (XT.ii_eq_f (by decide)) kz) ?_
  show OG p e below Φ T4 m 20 #[rv a, iv 0, iv 3, rv b1, iv 0, .unset] []
  refine OGo.st (fun _ kz => XS.aloadN X4.here hx rfl (hb hby d6_20) rfl rfl kz) ?_
  show OG p e below Φ T4 m 21 #[rv a, iv 0, iv 3, rv b1, iv 0, .unset] [(.ref a)]
  refine OGo.st (fun _ kz => XS.iloadN X4.here hx rfl (hb hby d6_21) rfl kz) ?_
  show OG p e below Φ T4 m 22 #[rv a, iv 0, iv 3, rv b1, iv 0, .unset] [(.int 0), (.ref a)]
  refine OGo.st (fun _ kz => XS.iloadN X4.here hx rfl (hb hby d6_22) rfl kz) ?_
  show OG p e below Φ T4 m 23 #[rv a, iv 0, iv 3, rv b1, iv 0, .unset] [(.int 3), (.int 0), (.ref a)]
  obtain ⟨_, T7, L7, X7, hQ7, st7⟩ := own_callSt X4 hx hZ hown (ow104 hw) (ow105 hw) (ow36 hw) (ow106 hw) (by decide) (rsb3_0tb l Z a0 hw [] a ca c0_ c1_ c2_ T4.heap n0 Zs4 F5 F6 S_ad S_hb S_lb) rfl (W := 0) (by decide) (by decide) (by decide) (by decide) (pc := 23) (ls := #[rv a, iv 0, iv 3, rv b1, iv 0, .unset]) (stk := [(.int 3), (.int 0), (.ref a)]) (by rw [hml]; rfl) (argsL := [(.ref a), (.int 0), (.int 3)]) (rest := []) (lenOf pd2 rfl) rfl rfl (Nat.le_of_eq rfl) (hb hby d6_23)
  obtain ⟨b7, cb7, rfl, Nq7, Kq7, Vq7, hz7⟩ := hQ7
  have nq7_a : a ≠ b7 := Nat.ne_of_lt (Nat.lt_of_lt_of_le F5.lt hz7)
  have gq7 : n0 ≤ b7 := Nat.le_trans Zs4 hz7
  have sq7 : h0.size ≤ b7 := Nat.le_trans K4.1 hz7
  have N7 := Fr.app N4 Nq7
  have Zs7 : n0 ≤ T7.heap.size := Nat.le_trans Zs4 Kq7.1
  have F8 := F5.keep Kq7 nin0
  have F9 := F6.keep Kq7 all0
  have K7 := K4.trans Kq7 all0
  refine OGo.st st7 ?_
  show OG p e below Φ T7 m 26 #[rv a, iv 0, iv 3, rv b1, iv 0, .unset] [(.ref b7)]
  refine OGo.st (fun _ kz => XS.astore X7.here hx rfl (hb hby d6_26) rfl rfl (l' := #[rv a, iv 0, iv 3, rv b1, iv 0, rv b7]) rfl kz) ?_
  show OG p e below Φ T7 m 28 #[rv a, iv 0, iv 3, rv b1, iv 0, rv b7] []
  refine OGo.st (fun _ kz => XS.aload X7.here hx rfl (hb hby d6_28) rfl rfl kz) ?_
  show OG p e below Φ T7 m 30 #[rv a, iv 0, iv 3, rv b1, iv 0, rv b7] [(.ref b7)]
  refine OGo.st (fun _ kz => XS.iload X7.here hx rfl (hb hby d6_30) rfl kz) ?_
  show OG p e below Φ T7 m 32 #[rv a, iv 0, iv 3, rv b1, iv 0, rv b7] [(.int 0), (.ref b7)]
  obtain ⟨_, T10, L10, X10, hQ10, st10⟩ := own_callSt X7 hx hZ hown (ow120 hw) (ow121 hw) (ow36 hw) (ow122 hw) (by decide) (rsb3_0gc l Z a0 hw [] b7 cb7 c0_ c1_ c2_ T7.heap n0 Zs7 Vq7 (S_ad.ext F9.2) (S_hb.ext F9.2) (S_lb.ext F9.2) hr0) rfl (W := 0) (by decide) (by decide) (by decide) (by decide) (pc := 32) (ls := #[rv a, iv 0, iv 3, rv b1, iv 0, rv b7]) (stk := [(.int 0), (.ref b7)]) (by rw [hml]; rfl) (argsL := [(.ref b7), (.int 0)]) (rest := []) (lenOf pd7 rfl) rfl rfl (Nat.le_of_eq rfl) (hb hby d6_32)
  obtain ⟨rfl, Nq10, e10⟩ := hQ10
  have N10 := Fr.app N7 Nq10
  refine OGo.st st10 ?_
  show OG p e below Φ T10 m 35 #[rv a, iv 0, iv 3, rv b1, iv 0, rv b7] [(.int c0_)]
  refine OGo.st (fun _ kz => XS.sipush X10.here hx rfl (hb hby d6_35) kz) ?_
  show OG p e below Φ T10 m 38 #[rv a, iv 0, iv 3, rv b1, iv 0, rv b7] [(.int 255), (.int c0_)]
  refine OGo.st (fun _ kz => XS.icmpYes X10.here hx rfl (pc0 := 38) (pc' := 54) rfl (hb hby d6_38) rfl (XT.ii_gt_t hb0) (by decide) (by decide) kz) ?_
  show OG p e below Φ T10 m 54 #[rv a, iv 0, iv 3, rv b1, iv 0, rv b7] []
  refine OGo.st (fun _ kz => XS.aload X10.here hx rfl (hb hby d6_54) rfl rfl kz) ?_
  show OG p e below Φ T10 m 56 #[rv a, iv 0, iv 3, rv b1, iv 0, rv b7] [(.ref b7)]
  refine OGo.fin X10 hlk (v := (some (.ref b7))) (fun h => by rw [hret] at h; cases h) (by decide) (by decide) (fun fs hr => X10.areturnOut hx rfl hret rfl (hb hby d6_56) hr) fun U eU hF => hΦ _ _ _ ?_ hF
  rw [eU, e10]
  show Q_rsb3_0c3 Z a ca c0_ c1_ c2_ h0 n0 _ _ _
  exact ⟨_, _, rfl, N10, K7, Vq7, sq7⟩

theorem ef_rsb3_0cf (m : MethodId) (x0 : Addr) (x1 : Int32) : entryFrame m #[(.ref x0), (.int x1)] 2 = mkF m 0 #[.val (.ref x0), .val (.int x1)] [] := by first | (simp [entryFrame, mkF, argsToLocals, Value.category]; done) | rfl
def Q_rsb3_0cf (Z : State) (b : Addr) (cb : ClassId) (c0_ : Int32) (c1_ : Int32) (c2_ : Int32) (h0 : Heap) (n0 : Nat) (v : Option Value) (h : Heap) (L : List Loc) : Prop := v = some (.int (1 : Int32)) ∧ Fr n0 L ∧ h = h0
set_option maxRecDepth 65536 in
set_option maxHeartbeats 40000000 in
theorem rsb3_0cf (l : Launch) (Z : State) (a0 : Array Value) (hw : ∀ d ∈ tables_1, d.before a0 Z = true) (ws : List Jvm.Cond) (b : Addr) (cb : ClassId) (c0_ : Int32) (c1_ : Int32) (c2_ : Int32) (h0 : Heap) (n0 : Nat) (Z0 : n0 ≤ h0.size) (V_b : Arv Z h0 b cb .byte (6 : Int32) [(.int (nar .byte (c0_ >>> (0 &&& 31)).toInt8.toInt32)), (.int (nar .byte (c0_ >>> (8 &&& 31)).toInt8.toInt32)), (.int (nar .byte (c1_ >>> (0 &&& 31)).toInt8.toInt32)), (.int (nar .byte (c1_ >>> (8 &&& 31)).toInt8.toInt32)), (.int (nar .byte (c2_ >>> (0 &&& 31)).toInt8.toInt32)), (.int (nar .byte (c2_ >>> (8 &&& 31)).toInt8.toInt32))] (.int (0 : Int32))) :
    OCon l Z (⟨"java/lang/StringUTF16", "coderFromArrayLen", "([BI)B"⟩ : MethodName) jdk_52_method_15_code 2 (some .byte) ws ({ frames := 0, cells := 0, slots := 0, locals := 0 } : Room) #[(.ref b), (.int (3 : Int32))] h0 (Q_rsb3_0cf Z b cb c0_ c1_ c2_ h0 n0) := by
  refine OCon.of (plainFor_of_name pn1) ?_
  intro p e s m below meth c s₁ Φ X0 hx hby hml hown hnm hret hlk hZ e0 hΦ
  have N0 := Fr.nil n0
  refine OGo.st (fun _ kz => castTop (ef_rsb3_0cf m b (3 : Int32)) kz) ?_
  show OG p e below Φ s₁ m 0 #[rv b, iv 3] []
  refine OGo.st (fun _ kz => XS.iloadN X0.here hx rfl (hb hby d8_0) rfl kz) ?_
  show OG p e below Φ s₁ m 1 #[rv b, iv 3] [(.int 3)]
  refine OGo.st (fun _ kz => XS.aloadN X0.here hx rfl (hb hby d8_1) rfl rfl kz) ?_
  show OG p e below Φ s₁ m 2 #[rv b, iv 3] [(.ref b), (.int 3)]
  obtain ⟨cl1, Aq1, -, S1, M1, -, -⟩ := id V_b
  refine OGo.st (fun _ kz => X0.arraylength hx (by rw [e0]; exact Aq1.1) (State.isArrayOf_alike hZ.alike Aq1.2.1) (g := (mkF m 2 #[rv b, iv 3] [(.ref b), (.int 3)])) rfl rfl (hb hby d8_2) _ kz) ?_
  rw [len_of S1 M1]
  show OG p e below Φ s₁ m 3 #[rv b, iv 3] [(.int 6), (.int 3)]
  refine OGo.st (fun _ kz => XS.isub X0.here hx rfl (hb hby d8_3) rfl kz) ?_
  show OG p e below Φ s₁ m 4 #[rv b, iv 3] [(.int (-3))]
  refine OGo.st (fun _ kz => XS.bipush X0.here hx rfl (hb hby d8_4) kz) ?_
  show OG p e below Φ s₁ m 6 #[rv b, iv 3] [(.int 31), (.int (-3))]
  refine OGo.st (fun _ kz => XT.iushr X0.here hx rfl (hb hby d8_6) rfl kz) ?_
  show OG p e below Φ s₁ m 7 #[rv b, iv 3] [(.int 1)]
  refine OGo.st (fun _ kz => XT.i2b X0.here hx rfl (hb hby d8_7) rfl kz) ?_
  show OG p e below Φ s₁ m 8 #[rv b, iv 3] [(.int 1)]
  refine OGo.fin X0 hlk (v := (some (.int 1))) (fun h => by rw [hret] at h; cases h) (by decide) (by decide) (fun fs hr => X0.ireturnOut hx hret rfl (by simp) (hb hby d8_8) hr) fun U eU hF => hΦ _ _ _ ?_ hF
  rw [eU, e0]
  show Q_rsb3_0cf Z b cb c0_ c1_ c2_ h0 n0 _ _ _
  exact ⟨rfl, N0, rfl⟩

theorem ef_rsb3_0i4 (m : MethodId) (x0 : Addr) (x1 : Addr) (x2 : Int32) (x3 : Int32) : entryFrame m #[(.ref x0), (.ref x1), (.int x2), (.int x3), .null] 6 = mkF m 0 #[.val (.ref x0), .val (.ref x1), .val (.int x2), .val (.int x3), .val .null, .unset] [] := by first | (simp [entryFrame, mkF, argsToLocals, Value.category]; done) | rfl
def Q_rsb3_0i4 (Z : State) (s_ : Addr) (a : Addr) (ca : ClassId) (qc : Int32) (c0_ : Int32) (c1_ : Int32) (c2_ : Int32) (h0 : Heap) (n0 : Nat) (v : Option Value) (h : Heap) (L : List Loc) : Prop := v = none ∧ Fr n0 L ∧ Keep h0 h [s_] ∧ Exa Z h s_ "java/lang/String" ∧ ∃ b cb, Fld Z h s_ "java/lang/String" "value" "[B" (.ref b) ∧ Fld Z h s_ "java/lang/String" "coder" "B" (.int (1 : Int32)) ∧ Arv Z h b cb .byte (6 : Int32) [(.int (nar .byte (c0_ >>> (0 &&& 31)).toInt8.toInt32)), (.int (nar .byte (c0_ >>> (8 &&& 31)).toInt8.toInt32)), (.int (nar .byte (c1_ >>> (0 &&& 31)).toInt8.toInt32)), (.int (nar .byte (c1_ >>> (8 &&& 31)).toInt8.toInt32)), (.int (nar .byte (c2_ >>> (0 &&& 31)).toInt8.toInt32)), (.int (nar .byte (c2_ >>> (8 &&& 31)).toInt8.toInt32))] (.int (0 : Int32)) ∧ h0.size ≤ b
set_option maxRecDepth 65536 in
set_option maxHeartbeats 40000000 in
theorem rsb3_0i4 (l : Launch) (Z : State) (a0 : Array Value) (hw : ∀ d ∈ tables_1, d.before a0 Z = true) (ws : List Jvm.Cond) (s_ : Addr) (a : Addr) (ca : ClassId) (qc : Int32) (c0_ : Int32) (c1_ : Int32) (c2_ : Int32) (h0 : Heap) (n0 : Nat) (Z0 : n0 ≤ h0.size) (E_s : Exa Z h0 s_ "java/lang/String") (g_s : n0 ≤ s_) (F_v : Fld Z h0 s_ "java/lang/String" "value" "[B" .null) (F_c : Fld Z h0 s_ "java/lang/String" "coder" "B" (.int (0 : Int32))) (V_a : Arv Z h0 a ca .char (3 : Int32) [(.int c0_), (.int c1_), (.int c2_)] (.int (0 : Int32))) (nsa : s_ ≠ a) (S_cs : Sta Z Z.heap "java/lang/String" "COMPACT_STRINGS" "Z" (.int qc)) (hq : ¬ qc = 0) (O_0 : Old Z n0 h0) (S_ad : Sta Z Z.heap "java/lang/StringUTF16" "$assertionsDisabled" "Z" (.int (1 : Int32))) (S_hb : Sta Z Z.heap "java/lang/StringUTF16" "HI_BYTE_SHIFT" "I" (.int (0 : Int32))) (S_lb : Sta Z Z.heap "java/lang/StringUTF16" "LO_BYTE_SHIFT" "I" (.int (8 : Int32))) (hb0 : (255 : Int32) < c0_) (hr0 : nar .char c0_ = c0_) :
    OCon l Z (⟨"java/lang/String", "<init>", "([CIILjava/lang/Void;)V"⟩ : MethodName) jdk_42_method_149_code 6 none ws ({ frames := 4, cells := 2, slots := 9, locals := 57 } : Room) #[(.ref s_), (.ref a), (.int (0 : Int32)), (.int (3 : Int32)), .null] h0 (Q_rsb3_0i4 Z s_ a ca qc c0_ c1_ c2_ h0 n0) := by
  refine OCon.of (plainFor_of_name pn0) ?_
  intro p e s m below meth c s₁ Φ X0 hx hby hml hown hnm hret hlk hZ e0 hΦ
  have N0 := Fr.nil n0
  refine OGo.st (fun _ kz => castTop (ef_rsb3_0i4 m s_ a (0 : Int32) (3 : Int32)) kz) ?_
  have K0 := Keep.refl h0 [s_]
  show OG p e below Φ s₁ m 0 #[rv s_, rv a, iv 0, iv 3, .val .null, .unset] []
  refine OGo.st (fun _ kz => XS.aloadN X0.here hx rfl (hb hby d4_0) rfl rfl kz) ?_
  show OG p e below Φ s₁ m 1 #[rv s_, rv a, iv 0, iv 3, .val .null, .unset] [(.ref s_)]
  obtain ⟨T1, X1, e1, st1⟩ := initO X0 hx hZ hown (ow22 hw) (ow23 hw) (ow24 hw) e0 (g := (mkF m 1 #[rv s_, rv a, iv 0, iv 3, .val .null, .unset] [(.ref s_)])) rfl (by rw [hml]; rfl) rfl (hb hby d4_1) (by decide) (W := 0) (Nat.le_of_eq rfl) (by decide)
  refine OGo.st st1 ?_
  show OG p e below Φ T1 m 4 #[rv s_, rv a, iv 0, iv 3, .val .null, .unset] []
  refine OGo.st (fun _ kz => XS.iloadN X1.here hx rfl (hb hby d4_4) rfl kz) ?_
  show OG p e below Φ T1 m 5 #[rv s_, rv a, iv 0, iv 3, .val .null, .unset] [(.int 3)]
  refine OGo.st (fun _ kz => XS.ifYes X1.here hx rfl (pc0 := 5) (pc' := 27) rfl (hb hby d4_5) rfl (XT.i0_ne_t (by decide)) (by decide) (by decide) kz) ?_
  show OG p e below Φ T1 m 27 #[rv s_, rv a, iv 0, iv 3, .val .null, .unset] []
  have Sq := S_cs.ext O_0.2
  obtain ⟨T2, X2, e2, st2⟩ := getS2 X1 hx hZ hown (host := "") (Or.inl (ow33 hw)) Via.refl e1 Sq (g := (mkF m 27 #[rv s_, rv a, iv 0, iv 3, .val .null, .unset] [])) rfl (hb hby d4_27)
  refine OGo.st st2 ?_
  show OG p e below Φ T2 m 30 #[rv s_, rv a, iv 0, iv 3, .val .null, .unset] [(.int qc)]
  refine OGo.st (fun _ kz => XS.ifNo X2.here hx rfl (hb hby d4_30) rfl (XT.i0_eq_f hq) kz) ?_
  show OG p e below Φ T2 m 33 #[rv s_, rv a, iv 0, iv 3, .val .null, .unset] []
  refine OGo.st (fun _ kz => XS.aloadN X2.here hx rfl (hb hby d4_33) rfl rfl kz) ?_
  show OG p e below Φ T2 m 34 #[rv s_, rv a, iv 0, iv 3, .val .null, .unset] [(.ref a)]
  refine OGo.st (fun _ kz => XS.iloadN X2.here hx rfl (hb hby d4_34) rfl kz) ?_
  show OG p e below Φ T2 m 35 #[rv s_, rv a, iv 0, iv 3, .val .null, .unset] [(.int 0), (.ref a)]
  refine OGo.st (fun _ kz => XS.iloadN X2.here hx rfl (hb hby d4_35) rfl kz) ?_
  show OG p e below Φ T2 m 36 #[rv s_, rv a, iv 0, iv 3, .val .null, .unset] [(.int 3), (.int 0), (.ref a)]
  obtain ⟨_, T3, L3, X3, hQ3, st3⟩ := own_callSt X2 hx hZ hown (ow34 hw) (ow35 hw) (ow36 hw) (ow37 hw) (by decide) (rsb3_0c3 l Z a0 hw [] a ca c0_ c1_ c2_ h0 n0 Z0 V_a O_0 S_ad S_hb S_lb hb0 hr0) e2 (W := 0) (by decide) (by decide) (by decide) (by decide) (pc := 36) (ls := #[rv s_, rv a, iv 0, iv 3, .val .null, .unset]) (stk := [(.int 3), (.int 0), (.ref a)]) (by rw [hml]; rfl) (argsL := [(.ref a), (.int 0), (.int 3)]) (rest := []) (lenOf pd2 rfl) rfl rfl (Nat.le_of_eq rfl) (hb hby d4_36)
  obtain ⟨b3, cb3, rfl, Nq3, Kq3, Vq3, hz3⟩ := hQ3
  have nq3_a : a ≠ b3 := Nat.ne_of_lt (Nat.lt_of_lt_of_le V_a.lt hz3)
  have nq3_s_ : s_ ≠ b3 := Nat.ne_of_lt (Nat.lt_of_lt_of_le E_s.lt hz3)
  have gq3 : n0 ≤ b3 := Nat.le_trans Z0 hz3
  have sq3 : h0.size ≤ b3 := Nat.le_trans K0.1 hz3
  have N3 := Fr.app N0 Nq3
  have Zs3 : n0 ≤ T3.heap.size := Nat.le_trans Z0 Kq3.1
  have F4 := E_s.keep Kq3
  have F5 := F_v.keep Kq3 nin0
  have F6 := F_c.keep Kq3 nin0
  have F7 := V_a.keep Kq3 nin0
  have F8 := O_0.keep Kq3 all0
  have K3 := K0.trans Kq3 all0
  refine OGo.st st3 ?_
  show OG p e below Φ T3 m 39 #[rv s_, rv a, iv 0, iv 3, .val .null, .unset] [(.ref b3)]
  refine OGo.st (fun _ kz => XS.astore X3.here hx rfl (hb hby d4_39) rfl rfl (l' := #[rv s_, rv a, iv 0, iv 3, .val .null, rv b3]) rfl kz) ?_
  show OG p e below Φ T3 m 41 #[rv s_, rv a, iv 0, iv 3, .val .null, rv b3] []
  refine OGo.st (fun _ kz => XS.aloadN X3.here hx rfl (hb hby d4_41) rfl rfl kz) ?_
  show OG p e below Φ T3 m 42 #[rv s_, rv a, iv 0, iv 3, .val .null, rv b3] [(.ref s_)]
  refine OGo.st (fun _ kz => XS.aload X3.here hx rfl (hb hby d4_42) rfl rfl kz) ?_
  show OG p e below Φ T3 m 44 #[rv s_, rv a, iv 0, iv 3, .val .null, rv b3] [(.ref b3), (.ref s_)]
  refine OGo.st (fun _ kz => XS.iloadN X3.here hx rfl (hb hby d4_44) rfl kz) ?_
  show OG p e below Φ T3 m 45 #[rv s_, rv a, iv 0, iv 3, .val .null, rv b3] [(.int 3), (.ref b3), (.ref s_)]
  obtain ⟨_, T9, L9, X9, hQ9, st9⟩ := own_callSt X3 hx hZ hown (ow41 hw) (ow42 hw) (ow36 hw) (ow43 hw) (by decide) (rsb3_0cf l Z a0 hw [] b3 cb3 c0_ c1_ c2_ T3.heap n0 Zs3 Vq3) rfl (W := 1) (by decide) (by decide) (by decide) (by decide) (pc := 45) (ls := #[rv s_, rv a, iv 0, iv 3, .val .null, rv b3]) (stk := [(.int 3), (.ref b3), (.ref s_)]) (by rw [hml]; rfl) (argsL := [(.ref b3), (.int 3)]) (rest := [(.ref s_)]) (lenOf pd3 rfl) rfl rfl (Nat.le_of_eq rfl) (hb hby d4_45)
  obtain ⟨rfl, Nq9, e9⟩ := hQ9
  have N9 := Fr.app N3 Nq9
  refine OGo.st st9 ?_
  show OG p e below Φ T9 m 48 #[rv s_, rv a, iv 0, iv 3, .val .null, rv b3] [(.int 1), (.ref s_)]
  obtain ⟨T10, h10, X10, e10, W10, st10⟩ := putF X9 hx hZ hown (host := "") (Or.inl (ow32 hw)) Via.refl e9 F6 F4 (Or.inr ⟨(ow28 hw), rfl, hnm⟩) (ow12 hw) (ty := .byte) (by decide) (by decide) (by decide) (g := (mkF m 48 #[rv s_, rv a, iv 0, iv 3, .val .null, rv b3] [(.int 1), (.ref s_)])) rfl rfl (hb hby d4_48)
  have F11 := F4.wr W10
  have F12 := F5.other W10 (Or.inr (slot_ne (Or.inr (ow27 hw)) (Or.inr (ow28 hw)) (by decide) (t := (.array .byte)) (t' := .byte) (by decide) (by decide)))
  have F13 := F6.same W10
  have F14 := F7.other W10 (Ne.symm nsa)
  have F15 := F8.wr W10 g_s
  have F16 := Vq3.other W10 (Ne.symm nq3_s_)
  have K10 := K3.wr W10 (Or.inl (List.mem_of_getElem? (i := 0) rfl))
  have N10 := Fr.snoc X10 N9 g_s
  have Zs10 : n0 ≤ h10.size := by rw [W10.size]; exact Zs3
  refine OGo.st st10 ?_
  show OG p e below Φ T10 m 51 #[rv s_, rv a, iv 0, iv 3, .val .null, rv b3] []
  refine OGo.st (fun _ kz => XS.aloadN X10.here hx rfl (hb hby d4_51) rfl rfl kz) ?_
  show OG p e below Φ T10 m 52 #[rv s_, rv a, iv 0, iv 3, .val .null, rv b3] [(.ref s_)]
  refine OGo.st (fun _ kz => XS.aload X10.here hx rfl (hb hby d4_52) rfl rfl kz) ?_
  show OG p e below Φ T10 m 54 #[rv s_, rv a, iv 0, iv 3, .val .null, rv b3] [(.ref b3), (.ref s_)]
  obtain ⟨T17, h17, X17, e17, W17, st17⟩ := putF X10 hx hZ hown (host := "") (Or.inl (ow31 hw)) Via.refl e10 F12 F11 (Or.inr ⟨(ow27 hw), rfl, hnm⟩) (ow12 hw) (ty := (.array .byte)) (by decide) rfl rfl (g := (mkF m 54 #[rv s_, rv a, iv 0, iv 3, .val .null, rv b3] [(.ref b3), (.ref s_)])) rfl rfl (hb hby d4_54)
  have F18 := F11.wr W17
  have F19 := F12.same W17
  have F20 := F13.other W17 (Or.inr (slot_ne (Or.inr (ow28 hw)) (Or.inr (ow27 hw)) (by decide) (t := .byte) (t' := (.array .byte)) (by decide) (by decide)))
  have F21 := F14.other W17 (Ne.symm nsa)
  have F22 := F15.wr W17 g_s
  have F23 := F16.other W17 (Ne.symm nq3_s_)
  have K17 := K10.wr W17 (Or.inl (List.mem_of_getElem? (i := 0) rfl))
  have N17 := Fr.snoc X17 N10 g_s
  have Zs17 : n0 ≤ h17.size := by rw [W17.size]; exact Zs10
  refine OGo.st st17 ?_
  show OG p e below Φ T17 m 57 #[rv s_, rv a, iv 0, iv 3, .val .null, rv b3] []
  refine OGo.fin X17 hlk (v := none) (fun _ => rfl) (by decide) (by decide) (fun fs hr => X17.returnOut hx hret (hb hby d4_57) hr) fun U eU hF => hΦ _ _ _ ?_ hF
  rw [eU, e17]
  show Q_rsb3_0i4 Z s_ a ca qc c0_ c1_ c2_ h0 n0 _ _ _
  exact ⟨rfl, N17, K17, F18, _, _, F19, F20, F23, sq3⟩

theorem ef_rsb3_0i1 (m : MethodId) (x0 : Addr) (x1 : Addr) : entryFrame m #[(.ref x0), (.ref x1)] 2 = mkF m 0 #[.val (.ref x0), .val (.ref x1)] [] := by first | (simp [entryFrame, mkF, argsToLocals, Value.category]; done) | rfl
def Q_rsb3_0i1 (Z : State) (s_ : Addr) (a : Addr) (ca : ClassId) (qc : Int32) (c0_ : Int32) (c1_ : Int32) (c2_ : Int32) (h0 : Heap) (n0 : Nat) (v : Option Value) (h : Heap) (L : List Loc) : Prop := v = none ∧ Fr n0 L ∧ Keep h0 h [s_] ∧ Exa Z h s_ "java/lang/String" ∧ ∃ b cb, Fld Z h s_ "java/lang/String" "value" "[B" (.ref b) ∧ Fld Z h s_ "java/lang/String" "coder" "B" (.int (1 : Int32)) ∧ Arv Z h b cb .byte (6 : Int32) [(.int (nar .byte (c0_ >>> (0 &&& 31)).toInt8.toInt32)), (.int (nar .byte (c0_ >>> (8 &&& 31)).toInt8.toInt32)), (.int (nar .byte (c1_ >>> (0 &&& 31)).toInt8.toInt32)), (.int (nar .byte (c1_ >>> (8 &&& 31)).toInt8.toInt32)), (.int (nar .byte (c2_ >>> (0 &&& 31)).toInt8.toInt32)), (.int (nar .byte (c2_ >>> (8 &&& 31)).toInt8.toInt32))] (.int (0 : Int32)) ∧ h0.size ≤ b
set_option maxRecDepth 65536 in
set_option maxHeartbeats 40000000 in
theorem rsb3_0i1 (l : Launch) (Z : State) (a0 : Array Value) (hw : ∀ d ∈ tables_1, d.before a0 Z = true) (ws : List Jvm.Cond) (s_ : Addr) (a : Addr) (ca : ClassId) (qc : Int32) (c0_ : Int32) (c1_ : Int32) (c2_ : Int32) (h0 : Heap) (n0 : Nat) (Z0 : n0 ≤ h0.size) (E_s : Exa Z h0 s_ "java/lang/String") (g_s : n0 ≤ s_) (F_v : Fld Z h0 s_ "java/lang/String" "value" "[B" .null) (F_c : Fld Z h0 s_ "java/lang/String" "coder" "B" (.int (0 : Int32))) (V_a : Arv Z h0 a ca .char (3 : Int32) [(.int c0_), (.int c1_), (.int c2_)] (.int (0 : Int32))) (nsa : s_ ≠ a) (S_cs : Sta Z Z.heap "java/lang/String" "COMPACT_STRINGS" "Z" (.int qc)) (hq : ¬ qc = 0) (O_0 : Old Z n0 h0) (S_ad : Sta Z Z.heap "java/lang/StringUTF16" "$assertionsDisabled" "Z" (.int (1 : Int32))) (S_hb : Sta Z Z.heap "java/lang/StringUTF16" "HI_BYTE_SHIFT" "I" (.int (0 : Int32))) (S_lb : Sta Z Z.heap "java/lang/StringUTF16" "LO_BYTE_SHIFT" "I" (.int (8 : Int32))) (hb0 : (255 : Int32) < c0_) (hr0 : nar .char c0_ = c0_) :
    OCon l Z (⟨"java/lang/String", "<init>", "([C)V"⟩ : MethodName) jdk_42_method_3_code 2 none ws ({ frames := 5, cells := 2, slots := 9, locals := 74 } : Room) #[(.ref s_), (.ref a)] h0 (Q_rsb3_0i1 Z s_ a ca qc c0_ c1_ c2_ h0 n0) := by
  refine OCon.of (plainFor_of_name pn0) ?_
  intro p e s m below meth c s₁ Φ X0 hx hby hml hown hnm hret hlk hZ e0 hΦ
  have N0 := Fr.nil n0
  refine OGo.st (fun _ kz => castTop (ef_rsb3_0i1 m s_ a) kz) ?_
  have K0 := Keep.refl h0 [s_]
  show OG p e below Φ s₁ m 0 #[rv s_, rv a] []
  refine OGo.st (fun _ kz => XS.aloadN X0.here hx rfl (hb hby d3_0) rfl rfl kz) ?_
  show OG p e below Φ s₁ m 1 #[rv s_, rv a] [(.ref s_)]
  refine OGo.st (fun _ kz => XS.aloadN X0.here hx rfl (hb hby d3_1) rfl rfl kz) ?_
  show OG p e below Φ s₁ m 2 #[rv s_, rv a] [(.ref a), (.ref s_)]
  refine OGo.st (fun _ kz => XS.iconst X0.here hx rfl (hb hby d3_2) kz) ?_
  show OG p e below Φ s₁ m 3 #[rv s_, rv a] [(.int 0), (.ref a), (.ref s_)]
  refine OGo.st (fun _ kz => XS.aloadN X0.here hx rfl (hb hby d3_3) rfl rfl kz) ?_
  show OG p e below Φ s₁ m 4 #[rv s_, rv a] [(.ref a), (.int 0), (.ref a), (.ref s_)]
  obtain ⟨cl1, Aq1, -, S1, M1, -, -⟩ := id V_a
  refine OGo.st (fun _ kz => X0.arraylength hx (by rw [e0]; exact Aq1.1) (State.isArrayOf_alike hZ.alike Aq1.2.1) (g := (mkF m 4 #[rv s_, rv a] [(.ref a), (.int 0), (.ref a), (.ref s_)])) rfl rfl (hb hby d3_4) _ kz) ?_
  rw [len_of S1 M1]
  show OG p e below Φ s₁ m 5 #[rv s_, rv a] [(.int 3), (.int 0), (.ref a), (.ref s_)]
  refine OGo.st (fun _ kz => XS.aconstNull X0.here hx rfl (hb hby d3_5) kz) ?_
  show OG p e below Φ s₁ m 6 #[rv s_, rv a] [.null, (.int 3), (.int 0), (.ref a), (.ref s_)]
  obtain ⟨_, T2, L2, X2, hQ2, st2⟩ := own_callSp X0 hx hZ rfl hown (ow18 hw) (ow19 hw) (ow13 hw) (ow21 hw) (by decide) (rsb3_0i4 l Z a0 hw [] s_ a ca qc c0_ c1_ c2_ h0 n0 Z0 E_s g_s F_v F_c V_a nsa S_cs hq O_0 S_ad S_hb S_lb hb0 hr0) e0 (W := 0) (by decide) (by decide) (by decide) (by decide) (pc := 6) (ls := #[rv s_, rv a]) (stk := [.null, (.int 3), (.int 0), (.ref a), (.ref s_)]) (by rw [hml]; rfl) (a := s_) (argsL := [(.ref a), (.int 0), (.int 3), .null]) (rest := []) (lenOf pd0 rfl) rfl rfl (Nat.le_of_eq rfl) (hb hby d3_6)
  obtain ⟨rfl, Nq2, Kq2, Eq2, b2, cb2, Fv2, Fc2, Vq2, hz2⟩ := hQ2
  have nq2_a : a ≠ b2 := Nat.ne_of_lt (Nat.lt_of_lt_of_le V_a.lt hz2)
  have nq2_s_ : s_ ≠ b2 := Nat.ne_of_lt (Nat.lt_of_lt_of_le E_s.lt hz2)
  have gq2 : n0 ≤ b2 := Nat.le_trans Z0 hz2
  have sq2 : h0.size ≤ b2 := Nat.le_trans K0.1 hz2
  have N2 := Fr.app N0 Nq2
  have Zs2 : n0 ≤ T2.heap.size := Nat.le_trans Z0 Kq2.1
  have F3 := V_a.keep Kq2 (ninS (Ne.symm nsa) nin0)
  have F4 := O_0.keep Kq2 (allS g_s all0)
  have K2 := K0.trans Kq2 (allS (Or.inl (List.mem_of_getElem? (i := 0) rfl)) all0)
  refine OGo.st st2 ?_
  show OG p e below Φ T2 m 9 #[rv s_, rv a] []
  refine OGo.fin X2 hlk (v := none) (fun _ => rfl) (by decide) (by decide) (fun fs hr => X2.returnOut hx hret (hb hby d3_9) hr) fun U eU hF => hΦ _ _ _ ?_ hF
  rw [eU]
  show Q_rsb3_0i1 Z s_ a ca qc c0_ c1_ c2_ h0 n0 _ _ _
  exact ⟨rfl, N2, K2, Eq2, _, _, Fv2, Fc2, Vq2, sq2⟩

theorem ef_rsb3_1c2 (m : MethodId) (x0 : Addr) (x1 : Int32) (x2 : Addr) (x3 : Int32) (x4 : Int32) : entryFrame m #[(.ref x0), (.int x1), (.ref x2), (.int x3), (.int x4)] 7 = mkF m 0 #[.val (.ref x0), .val (.int x1), .val (.ref x2), .val (.int x3), .val (.int x4), .unset, .unset] [] := by first | (simp [entryFrame, mkF, argsToLocals, Value.category]; done) | rfl
def Q_rsb3_1c2 (Z : State) (a : Addr) (ca : ClassId) (b : Addr) (cb : ClassId) (c0_ : Int32) (c1_ : Int32) (c2_ : Int32) (h0 : Heap) (n0 : Nat) (v : Option Value) (h : Heap) (L : List Loc) : Prop := v = some (.int (1 : Int32)) ∧ Fr n0 L ∧ Keep h0 h [b]
set_option maxRecDepth 65536 in
set_option maxHeartbeats 40000000 in
theorem rsb3_1c2 (l : Launch) (Z : State) (a0 : Array Value) (hw : ∀ d ∈ tables_1, d.before a0 Z = true) (ws : List Jvm.Cond) (a : Addr) (ca : ClassId) (b : Addr) (cb : ClassId) (c0_ : Int32) (c1_ : Int32) (c2_ : Int32) (h0 : Heap) (n0 : Nat) (Z0 : n0 ≤ h0.size) (V_a : Arv Z h0 a ca .char (3 : Int32) [(.int c0_), (.int c1_), (.int c2_)] (.int (0 : Int32))) (V_b : Arv Z h0 b cb .byte (3 : Int32) [(.int (0 : Int32)), (.int (0 : Int32)), (.int (0 : Int32))] (.int (0 : Int32))) (nab : a ≠ b) (g_b : n0 ≤ b) (hl0 : ¬ (255 : Int32) < c0_) (hb1 : (255 : Int32) < c1_) :
    OCon l Z (⟨"java/lang/StringUTF16", "compress", "([CI[BII)I"⟩ : MethodName) jdk_52_method_21_code 7 (some .int) ws ({ frames := 0, cells := 0, slots := 0, locals := 0 } : Room) #[(.ref a), (.int (0 : Int32)), (.ref b), (.int (0 : Int32)), (.int (3 : Int32))] h0 (Q_rsb3_1c2 Z a ca b cb c0_ c1_ c2_ h0 n0) := by
  refine OCon.of (plainFor_of_name pn1) ?_
  intro p e s m below meth c s₁ Φ X0 hx hby hml hown hnm hret hlk hZ e0 hΦ
  have N0 := Fr.nil n0
  refine OGo.st (fun _ kz => castTop (ef_rsb3_1c2 m a (0 : Int32) b (0 : Int32) (3 : Int32)) kz) ?_
  have K0 := Keep.refl h0 [b]
  show OG p e below Φ s₁ m 0 #[rv a, iv 0, rv b, iv 0, iv 3, .unset, .unset] []
  refine OGo.st (fun _ kz => XS.iconst X0.here hx rfl (hb hby d7_0) kz) ?_
  show OG p e below Φ s₁ m 1 #[rv a, iv 0, rv b, iv 0, iv 3, .unset, .unset] [(.int 0)]
  refine OGo.st (fun _ kz => XS.istore X0.here hx rfl (hb hby d7_1) rfl (l' := #[rv a, iv 0, rv b, iv 0, iv 3, iv 0, .unset]) rfl kz) ?_
  show OG p e below Φ s₁ m 3 #[rv a, iv 0, rv b, iv 0, iv 3, iv 0, .unset] []
  refine OGo.st (fun _ kz => XS.iload X0.here hx rfl (hb hby d7_3) rfl kz) ?_
  show OG p e below Φ s₁ m 5 #[rv a, iv 0, rv b, iv 0, iv 3, iv 0, .unset] [(.int 0)]
  refine OGo.st (fun _ kz => XS.iload X0.here hx rfl (hb hby d7_5) rfl kz) ?_
  show OG p e below Φ s₁ m 7 #[rv a, iv 0, rv b, iv 0, iv 3, iv 0, .unset] [(.int 3), (.int 0)]
  refine OGo.st (fun _ kz => XS.icmpNo X0.here hx rfl (hb hby d7_7) rfl (XT.ii_ge_f (by decide)) kz) ?_
  show OG p e below Φ s₁ m 10 #[rv a, iv 0, rv b, iv 0, iv 3, iv 0, .unset] []
  refine OGo.st (fun _ kz => XS.aloadN X0.here hx rfl (hb hby d7_10) rfl rfl kz) ?_
  show OG p e below Φ s₁ m 11 #[rv a, iv 0, rv b, iv 0, iv 3, iv 0, .unset] [(.ref a)]
  refine OGo.st (fun _ kz => XS.iloadN X0.here hx rfl (hb hby d7_11) rfl kz) ?_
  show OG p e below Φ s₁ m 12 #[rv a, iv 0, rv b, iv 0, iv 3, iv 0, .unset] [(.int 0), (.ref a)]
  obtain ⟨cl1, Aq1, -, S1, M1, H1, -⟩ := id V_a
  have in1 : ¬ ((0 : Int32) < 0 ∨ cl1.slots.size ≤ (0 : Int32).toNatClampNeg) := inb_of S1 ⟨by decide, by decide⟩
  have at1 : cl1.slots[(0 : Int32).toNatClampNeg]? = some (.int c0_) := H1.at in1 rfl
  refine OGo.st (fun _ kz => X0.caload hx (by rw [e0]; exact Aq1.1) (State.isArrayOf_alike hZ.alike Aq1.2.1) Aq1.2.2 in1 at1 (g := (mkF m 12 #[rv a, iv 0, rv b, iv 0, iv 3, iv 0, .unset] [(.int 0), (.ref a)])) rfl rfl (hb hby d7_12) _ kz) ?_
  show OG p e below Φ s₁ m 13 #[rv a, iv 0, rv b, iv 0, iv 3, iv 0, .unset] [(.int c0_)]
  refine OGo.st (fun _ kz => XS.istore X0.here hx rfl (hb hby d7_13) rfl (l' := #[rv a, iv 0, rv b, iv 0, iv 3, iv 0, iv c0_]) rfl kz) ?_
  show OG p e below Φ s₁ m 15 #[rv a, iv 0, rv b, iv 0, iv 3, iv 0, iv c0_] []
  refine OGo.st (fun _ kz => XS.iload X0.here hx rfl (hb hby d7_15) rfl kz) ?_
  show OG p e below Φ s₁ m 17 #[rv a, iv 0, rv b, iv 0, iv 3, iv 0, iv c0_] [(.int c0_)]
  refine OGo.st (fun _ kz => XS.sipush X0.here hx rfl (hb hby d7_17) kz) ?_
  show OG p e below Φ s₁ m 20 #[rv a, iv 0, rv b, iv 0, iv 3, iv 0, iv c0_] [(.int 255), (.int c0_)]
  refine OGo.st (fun _ kz => XS.icmpYes X0.here hx rfl (pc0 := 20) (pc' := 26) rfl (hb hby d7_20) rfl (XT.ii_le_t hl0) (by decide) (by decide) kz) ?_
  show OG p e below Φ s₁ m 26 #[rv a, iv 0, rv b, iv 0, iv 3, iv 0, iv c0_] []
  refine OGo.st (fun _ kz => XS.aloadN X0.here hx rfl (hb hby d7_26) rfl rfl kz) ?_
  show OG p e below Φ s₁ m 27 #[rv a, iv 0, rv b, iv 0, iv 3, iv 0, iv c0_] [(.ref b)]
  refine OGo.st (fun _ kz => XS.iloadN X0.here hx rfl (hb hby d7_27) rfl kz) ?_
  show OG p e below Φ s₁ m 28 #[rv a, iv 0, rv b, iv 0, iv 3, iv 0, iv c0_] [(.int 0), (.ref b)]
  refine OGo.st (fun _ kz => XS.iload X0.here hx rfl (hb hby d7_28) rfl kz) ?_
  show OG p e below Φ s₁ m 30 #[rv a, iv 0, rv b, iv 0, iv 3, iv 0, iv c0_] [(.int c0_), (.int 0), (.ref b)]
  refine OGo.st (fun _ kz => XT.i2b X0.here hx rfl (hb hby d7_30) rfl kz) ?_
  show OG p e below Φ s₁ m 31 #[rv a, iv 0, rv b, iv 0, iv 3, iv 0, iv c0_] [(.int (c0_.toInt8.toInt32)), (.int 0), (.ref b)]
  obtain ⟨cl2, Aq2, Cq2, S2, M2, H2, G2⟩ := id V_b
  have in2 : ¬ ((0 : Int32) < 0 ∨ cl2.slots.size ≤ (0 : Int32).toNatClampNeg) := inb_of S2 ⟨by decide, by decide⟩
  obtain ⟨T2, h2, X2, e2, W2, st2⟩ := stB X0 hx hZ e0 Aq2 in2 (g := (mkF m 31 #[rv a, iv 0, rv b, iv 0, iv 3, iv 0, iv c0_] [(.int (c0_.toInt8.toInt32)), (.int 0), (.ref b)])) rfl rfl (hb hby d7_31)
  have W2 : Wr h0 h2 b (0 : Int32).toNatClampNeg (.int (nar .byte (c0_.toInt8.toInt32))) := W2
  have F3 := V_a.other W2 nab
  have V2 : Arv Z h2 b cb .byte (3 : Int32) [(.int (nar .byte (c0_.toInt8.toInt32))), (.int (0 : Int32)), (.int (0 : Int32))] (.int (0 : Int32)) := Arv.set Aq2 Cq2 S2 M2 H2 G2 (fits_nar_byte _) W2 0 (by decide) (by show 0 < 3; decide)
  have K2 := K0.wr W2 (Or.inl (List.mem_of_getElem? (i := 0) rfl))
  have N2 := Fr.snoc X2 N0 g_b
  have Zs2 : n0 ≤ h2.size := by rw [W2.size]; exact Z0
  refine OGo.st st2 ?_
  show OG p e below Φ T2 m 32 #[rv a, iv 0, rv b, iv 0, iv 3, iv 0, iv c0_] []
  refine OGo.st (fun _ kz => XS.iinc X2.here hx rfl (hb hby d7_32) rfl (l' := #[rv a, iv ((0 : Int32) + (1 : Int32)), rv b, iv 0, iv 3, iv 0, iv c0_]) rfl kz) ?_
  show OG p e below Φ T2 m 35 #[rv a, iv 1, rv b, iv 0, iv 3, iv 0, iv c0_] []
  refine OGo.st (fun _ kz => XS.iinc X2.here hx rfl (hb hby d7_35) rfl (l' := #[rv a, iv 1, rv b, iv ((0 : Int32) + (1 : Int32)), iv 3, iv 0, iv c0_]) rfl kz) ?_
  show OG p e below Φ T2 m 38 #[rv a, iv 1, rv b, iv 1, iv 3, iv 0, iv c0_] []
  refine OGo.st (fun _ kz => XS.iinc X2.here hx rfl (hb hby d7_38) rfl (l' := #[rv a, iv 1, rv b, iv 1, iv 3, iv ((0 : Int32) + (1 : Int32)), iv c0_]) rfl kz) ?_
  show OG p e below Φ T2 m 41 #[rv a, iv 1, rv b, iv 1, iv 3, iv 1, iv c0_] []
  refine OGo.st (fun _ kz => XS.goto X2.here hx rfl (pc0 := 41) (pc' := 3) rfl (hb hby d7_41) (by decide) (by decide) kz) ?_
  show OG p e below Φ T2 m 3 #[rv a, iv 1, rv b, iv 1, iv 3, iv 1, iv c0_] []
  refine OGo.st (fun _ kz => XS.iload X2.here hx rfl (hb hby d7_3) rfl kz) ?_
  show OG p e below Φ T2 m 5 #[rv a, iv 1, rv b, iv 1, iv 3, iv 1, iv c0_] [(.int 1)]
  refine OGo.st (fun _ kz => XS.iload X2.here hx rfl (hb hby d7_5) rfl kz) ?_
  show OG p e below Φ T2 m 7 #[rv a, iv 1, rv b, iv 1, iv 3, iv 1, iv c0_] [(.int 3), (.int 1)]
  refine OGo.st (fun _ kz => XS.icmpNo X2.here hx rfl (hb hby d7_7) rfl (XT.ii_ge_f (by decide)) kz) ?_
  show OG p e below Φ T2 m 10 #[rv a, iv 1, rv b, iv 1, iv 3, iv 1, iv c0_] []
  refine OGo.st (fun _ kz => XS.aloadN X2.here hx rfl (hb hby d7_10) rfl rfl kz) ?_
  show OG p e below Φ T2 m 11 #[rv a, iv 1, rv b, iv 1, iv 3, iv 1, iv c0_] [(.ref a)]
  refine OGo.st (fun _ kz => XS.iloadN X2.here hx rfl (hb hby d7_11) rfl kz) ?_
  show OG p e below Φ T2 m 12 #[rv a, iv 1, rv b, iv 1, iv 3, iv 1, iv c0_] [(.int 1), (.ref a)]
  obtain ⟨cl4, Aq4, -, S4, M4, H4, -⟩ := id F3
  have in4 : ¬ ((1 : Int32) < 0 ∨ cl4.slots.size ≤ (1 : Int32).toNatClampNeg) := inb_of S4 ⟨by decide, by decide⟩
  have at4 : cl4.slots[(1 : Int32).toNatClampNeg]? = some (.int c1_) := H4.at in4 rfl
  refine OGo.st (fun _ kz => X2.caload hx (by rw [e2]; exact Aq4.1) (State.isArrayOf_alike hZ.alike Aq4.2.1) Aq4.2.2 in4 at4 (g := (mkF m 12 #[rv a, iv 1, rv b, iv 1, iv 3, iv 1, iv c0_] [(.int 1), (.ref a)])) rfl rfl (hb hby d7_12) _ kz) ?_
  show OG p e below Φ T2 m 13 #[rv a, iv 1, rv b, iv 1, iv 3, iv 1, iv c0_] [(.int c1_)]
  refine OGo.st (fun _ kz => XS.istore X2.here hx rfl (hb hby d7_13) rfl (l' := #[rv a, iv 1, rv b, iv 1, iv 3, iv 1, iv c1_]) rfl kz) ?_
  show OG p e below Φ T2 m 15 #[rv a, iv 1, rv b, iv 1, iv 3, iv 1, iv c1_] []
  refine OGo.st (fun _ kz => XS.iload X2.here hx rfl (hb hby d7_15) rfl kz) ?_
  show OG p e below Φ T2 m 17 #[rv a, iv 1, rv b, iv 1, iv 3, iv 1, iv c1_] [(.int c1_)]
  refine OGo.st (fun _ kz => XS.sipush X2.here hx rfl (hb hby d7_17) kz) ?_
  show OG p e below Φ T2 m 20 #[rv a, iv 1, rv b, iv 1, iv 3, iv 1, iv c1_] [(.int 255), (.int c1_)]
  refine OGo.st (fun _ kz => XS.icmpNo X2.here hx rfl (hb hby d7_20) rfl (XT.ii_le_f hb1) kz) ?_
  show OG p e below Φ T2 m 23 #[rv a, iv 1, rv b, iv 1, iv 3, iv 1, iv c1_] []
  refine OGo.st (fun _ kz => XS.iload X2.here hx rfl (hb hby d7_23) rfl kz) ?_
  show OG p e below Φ T2 m 25 #[rv a, iv 1, rv b, iv 1, iv 3, iv 1, iv c1_] [(.int 1)]
  refine OGo.fin X2 hlk (v := (some (.int 1))) (fun h => by rw [hret] at h; cases h) (by decide) (by decide) (fun fs hr => X2.ireturnOut hx hret rfl (by simp) (hb hby d7_25) hr) fun U eU hF => hΦ _ _ _ ?_ hF
  rw [eU, e2]
  show Q_rsb3_1c2 Z a ca b cb c0_ c1_ c2_ h0 n0 _ _ _
  exact ⟨rfl, N2, K2⟩

theorem ef_rsb3_1nl (m : MethodId) (x0 : Int32) : entryFrame m #[(.int x0)] 1 = mkF m 0 #[.val (.int x0)] [] := by first | (simp [entryFrame, mkF, argsToLocals, Value.category]; done) | rfl
def Q_rsb3_1nl (Z : State)  (h0 : Heap) (n0 : Nat) (v : Option Value) (h : Heap) (L : List Loc) : Prop := v = some (.int (6 : Int32)) ∧ Fr n0 L ∧ h = h0
set_option maxRecDepth 65536 in
set_option maxHeartbeats 40000000 in
theorem rsb3_1nl (l : Launch) (Z : State) (a0 : Array Value) (hw : ∀ d ∈ tables_1, d.before a0 Z = true) (ws : List Jvm.Cond)  (h0 : Heap) (n0 : Nat) (Z0 : n0 ≤ h0.size)  :
    OCon l Z (⟨"java/lang/StringUTF16", "newBytesLength", "(I)I"⟩ : MethodName) jdk_52_method_3_code 1 (some .int) ws ({ frames := 0, cells := 0, slots := 0, locals := 0 } : Room) #[(.int (3 : Int32))] h0 (Q_rsb3_1nl Z  h0 n0) := by
  refine OCon.of (plainFor_of_name pn1) ?_
  intro p e s m below meth c s₁ Φ X0 hx hby hml hown hnm hret hlk hZ e0 hΦ
  have N0 := Fr.nil n0
  refine OGo.st (fun _ kz => castTop (ef_rsb3_1nl m (3 : Int32)) kz) ?_
  show OG p e below Φ s₁ m 0 #[iv 3] []
  refine OGo.st (fun _ kz => XS.iloadN X0.here hx rfl (hb hby d21_0) rfl kz) ?_
  show OG p e below Φ s₁ m 1 #[iv 3] [(.int 3)]
  refine OGo.st (fun _ kz => XS.ifYes X0.here hx rfl (pc0 := 1) (pc' := 12) rfl (hb hby d21_1) rfl (XT.i0_ge_t (by decide)) (by decide) (by decide) kz) ?_
  show OG p e below Φ s₁ m 12 #[iv 3] []
  refine OGo.st (fun _ kz => XS.iloadN X0.here hx rfl (hb hby d21_12) rfl kz) ?_
  show OG p e below Φ s₁ m 13 #[iv 3] [(.int 3)]
  refine OGo.st (fun _ kz => X0.ldcI hx hown (mvT hZ (ow113 hw)) rfl (hb hby d21_13) kz) ?_
  show OG p e below Φ s₁ m 15 #[iv 3] [(.int 1073741823), (.int 3)]
  refine OGo.st (fun _ kz => XS.icmpYes X0.here hx rfl (pc0 := 15) (pc' := 55) rfl (hb hby d21_15) rfl (XT.ii_lt_t (by decide)) (by decide) (by decide) kz) ?_
  show OG p e below Φ s₁ m 55 #[iv 3] []
  refine OGo.st (fun _ kz => XS.iloadN X0.here hx rfl (hb hby d21_55) rfl kz) ?_
  show OG p e below Φ s₁ m 56 #[iv 3] [(.int 3)]
  refine OGo.st (fun _ kz => XS.iconst X0.here hx rfl (hb hby d21_56) kz) ?_
  show OG p e below Φ s₁ m 57 #[iv 3] [(.int 1), (.int 3)]
  refine OGo.st (fun _ kz => XT.ishl X0.here hx rfl (hb hby d21_57) rfl kz) ?_
  show OG p e below Φ s₁ m 58 #[iv 3] [(.int 6)]
  refine OGo.fin X0 hlk (v := (some (.int 6))) (fun h => by rw [hret] at h; cases h) (by decide) (by decide) (fun fs hr => X0.ireturnOut hx hret rfl (by simp) (hb hby d21_58) hr) fun U eU hF => hΦ _ _ _ ?_ hF
  rw [eU, e0]
  show Q_rsb3_1nl Z  h0 n0 _ _ _
  exact ⟨rfl, N0, rfl⟩

theorem ef_rsb3_1nf (m : MethodId) (x0 : Int32) : entryFrame m #[(.int x0)] 1 = mkF m 0 #[.val (.int x0)] [] := by first | (simp [entryFrame, mkF, argsToLocals, Value.category]; done) | rfl
def Q_rsb3_1nf (Z : State)  (h0 : Heap) (n0 : Nat) (v : Option Value) (h : Heap) (L : List Loc) : Prop := ∃ b cb, v = some (.ref b) ∧ Fr n0 L ∧ Keep h0 h [] ∧ Arv Z h b cb .byte (6 : Int32) [(.int (0 : Int32)), (.int (0 : Int32)), (.int (0 : Int32)), (.int (0 : Int32)), (.int (0 : Int32)), (.int (0 : Int32))] (.int (0 : Int32)) ∧ h0.size ≤ b
set_option maxRecDepth 65536 in
set_option maxHeartbeats 40000000 in
theorem rsb3_1nf (l : Launch) (Z : State) (a0 : Array Value) (hw : ∀ d ∈ tables_1, d.before a0 Z = true) (ws : List Jvm.Cond)  (h0 : Heap) (n0 : Nat) (Z0 : n0 ≤ h0.size)  :
    OCon l Z (⟨"java/lang/StringUTF16", "newBytesFor", "(I)[B"⟩ : MethodName) jdk_52_method_2_code 1 (some (.array .byte)) ws ({ frames := 1, cells := 1, slots := 6, locals := 12 } : Room) #[(.int (3 : Int32))] h0 (Q_rsb3_1nf Z  h0 n0) := by
  refine OCon.of (plainFor_of_name pn1) ?_
  intro p e s m below meth c s₁ Φ X0 hx hby hml hown hnm hret hlk hZ e0 hΦ
  have N0 := Fr.nil n0
  refine OGo.st (fun _ kz => castTop (ef_rsb3_1nf m (3 : Int32)) kz) ?_
  have K0 := Keep.refl h0 []
  show OG p e below Φ s₁ m 0 #[iv 3] []
  refine OGo.st (fun _ kz => XS.iloadN X0.here hx rfl (hb hby d20_0) rfl kz) ?_
  show OG p e below Φ s₁ m 1 #[iv 3] [(.int 3)]
  obtain ⟨_, T1, L1, X1, hQ1, st1⟩ := own_callSt X0 hx hZ hown (ow110 hw) (ow111 hw) (ow36 hw) (ow112 hw) (by decide) (rsb3_1nl l Z a0 hw []  h0 n0 Z0 ) e0 (W := 0) (by decide) (by decide) (by decide) (by decide) (pc := 1) (ls := #[iv 3]) (stk := [(.int 3)]) (by rw [hml]; rfl) (argsL := [(.int 3)]) (rest := []) (lenOf pd4 rfl) rfl rfl (Nat.le_of_eq rfl) (hb hby d20_1)
  obtain ⟨rfl, Nq1, e1⟩ := hQ1
  have N1 := Fr.app N0 Nq1
  refine OGo.st st1 ?_
  show OG p e below Φ T1 m 4 #[iv 3] [(.int 6)]
  obtain ⟨T2, h2, c2, X2, e2, E2, Ar2, st2⟩ := newP (aty := .byte) X1 hx hZ (ow26 hw) e1 (g := (mkF m 4 #[iv 3] [(.int 6)])) rfl (hb hby d20_4) rfl (by decide) (cap := 6) (by decide) (by decide) (by decide) (by decide)
  obtain ⟨b2, g2⟩ : ∃ z, z = h0.size := ⟨_, rfl⟩
  rw [← g2] at Ar2 st2
  have gb2 : n0 ≤ b2 := Nat.le_trans Z0 (Nat.le_of_eq g2.symm)
  have sz2 : h0.size ≤ b2 := Nat.le_trans K0.1 (Nat.le_of_eq g2.symm)
  have K2 := K0.ext E2
  have Zs2 : n0 ≤ h2.size := Nat.le_trans Z0 E2.1
  have V2 : Arv Z h2 b2 c2 .byte (6 : Int32) [(.int (0 : Int32)), (.int (0 : Int32)), (.int (0 : Int32)), (.int (0 : Int32)), (.int (0 : Int32)), (.int (0 : Int32))] (.int (0 : Int32)) := (Arv.new Ar2 (by decide)).pad (pad_rep [] _ 6)
  refine OGo.st st2 ?_
  show OG p e below Φ T2 m 6 #[iv 3] [(.ref b2)]
  refine OGo.fin X2 hlk (v := (some (.ref b2))) (fun h => by rw [hret] at h; cases h) (by decide) (by decide) (fun fs hr => X2.areturnOut hx rfl hret rfl (hb hby d20_6) hr) fun U eU hF => hΦ _ _ _ ?_ hF
  rw [eU, e2]
  show Q_rsb3_1nf Z  h0 n0 _ _ _
  exact ⟨_, _, rfl, N1, K2, V2, sz2⟩

theorem ef_rsb3_1pc0 (m : MethodId) (x0 : Addr) (x1 : Int32) (x2 : Int32) : entryFrame m #[(.ref x0), (.int x1), (.int x2)] 3 = mkF m 0 #[.val (.ref x0), .val (.int x1), .val (.int x2)] [] := by first | (simp [entryFrame, mkF, argsToLocals, Value.category]; done) | rfl
def Q_rsb3_1pc0 (Z : State) (b : Addr) (cb : ClassId) (c0_ : Int32) (c1_ : Int32) (c2_ : Int32) (h0 : Heap) (n0 : Nat) (v : Option Value) (h : Heap) (L : List Loc) : Prop := v = none ∧ Fr n0 L ∧ Keep h0 h [b] ∧ Arv Z h b cb .byte (6 : Int32) [(.int (nar .byte (c0_ >>> (0 &&& 31)).toInt8.toInt32)), (.int (nar .byte (c0_ >>> (8 &&& 31)).toInt8.toInt32)), (.int (0 : Int32)), (.int (0 : Int32)), (.int (0 : Int32)), (.int (0 : Int32))] (.int (0 : Int32))
set_option maxRecDepth 65536 in
set_option maxHeartbeats 40000000 in
theorem rsb3_1pc0 (l : Launch) (Z : State) (a0 : Array Value) (hw : ∀ d ∈ tables_1, d.before a0 Z = true) (ws : List Jvm.Cond) (b : Addr) (cb : ClassId) (c0_ : Int32) (c1_ : Int32) (c2_ : Int32) (h0 : Heap) (n0 : Nat) (Z0 : n0 ≤ h0.size) (V_b : Arv Z h0 b cb .byte (6 : Int32) [(.int (0 : Int32)), (.int (0 : Int32)), (.int (0 : Int32)), (.int (0 : Int32)), (.int (0 : Int32)), (.int (0 : Int32))] (.int (0 : Int32))) (g_b : n0 ≤ b) (S_ad : Sta Z h0 "java/lang/StringUTF16" "$assertionsDisabled" "Z" (.int (1 : Int32))) (S_hb : Sta Z h0 "java/lang/StringUTF16" "HI_BYTE_SHIFT" "I" (.int (0 : Int32))) (S_lb : Sta Z h0 "java/lang/StringUTF16" "LO_BYTE_SHIFT" "I" (.int (8 : Int32))) :
    OCon l Z (⟨"java/lang/StringUTF16", "putChar", "([BII)V"⟩ : MethodName) jdk_52_method_4_code 3 none ws ({ frames := 0, cells := 0, slots := 0, locals := 0 } : Room) #[(.ref b), (.int (0 : Int32)), (.int c0_)] h0 (Q_rsb3_1pc0 Z b cb c0_ c1_ c2_ h0 n0) := by
  refine OCon.of (plainFor_of_name pn1) ?_
  intro p e s m below meth c s₁ Φ X0 hx hby hml hown hnm hret hlk hZ e0 hΦ
  have N0 := Fr.nil n0
  refine OGo.st (fun _ kz => castTop (ef_rsb3_1pc0 m b (0 : Int32) c0_) kz) ?_
  have K0 := Keep.refl h0 [b]
  show OG p e below Φ s₁ m 0 #[rv b, iv 0, iv c0_] []
  obtain ⟨T1, X1, e1, st1⟩ := getS2 X0 hx hZ hown (host := "") (Or.inl (ow117 hw)) Via.refl e0 S_ad (g := (mkF m 0 #[rv b, iv 0, iv c0_] [])) rfl (hb hby d22_0)
  refine OGo.st st1 ?_
  show OG p e below Φ T1 m 3 #[rv b, iv 0, iv c0_] [(.int 1)]
  refine OGo.st (fun _ kz => XS.ifYes X1.here hx rfl (pc0 := 3) (pc' := 28) rfl (hb hby d22_3) rfl (XT.i0_ne_t (by decide)) (by decide) (by decide) kz) ?_
  show OG p e below Φ T1 m 28 #[rv b, iv 0, iv c0_] []
  refine OGo.st (fun _ kz => XS.iloadN X1.here hx rfl (hb hby d22_28) rfl kz) ?_
  show OG p e below Φ T1 m 29 #[rv b, iv 0, iv c0_] [(.int 0)]
  refine OGo.st (fun _ kz => XS.iconst X1.here hx rfl (hb hby d22_29) kz) ?_
  show OG p e below Φ T1 m 30 #[rv b, iv 0, iv c0_] [(.int 1), (.int 0)]
  refine OGo.st (fun _ kz => XT.ishl X1.here hx rfl (hb hby d22_30) rfl kz) ?_
  show OG p e below Φ T1 m 31 #[rv b, iv 0, iv c0_] [(.int 0)]
  refine OGo.st (fun _ kz => XS.istoreN X1.here hx rfl (hb hby d22_31) rfl (l' := #[rv b, iv 0, iv c0_]) rfl kz) ?_
  show OG p e below Φ T1 m 32 #[rv b, iv 0, iv c0_] []
  refine OGo.st (fun _ kz => XS.aloadN X1.here hx rfl (hb hby d22_32) rfl rfl kz) ?_
  show OG p e below Φ T1 m 33 #[rv b, iv 0, iv c0_] [(.ref b)]
  refine OGo.st (fun _ kz => XS.iloadN X1.here hx rfl (hb hby d22_33) rfl kz) ?_
  show OG p e below Φ T1 m 34 #[rv b, iv 0, iv c0_] [(.int 0), (.ref b)]
  refine OGo.st (fun _ kz => XS.iinc X1.here hx rfl (hb hby d22_34) rfl (l' := #[rv b, iv ((0 : Int32) + (1 : Int32)), iv c0_]) rfl kz) ?_
  show OG p e below Φ T1 m 37 #[rv b, iv 1, iv c0_] [(.int 0), (.ref b)]
  refine OGo.st (fun _ kz => XS.iloadN X1.here hx rfl (hb hby d22_37) rfl kz) ?_
  show OG p e below Φ T1 m 38 #[rv b, iv 1, iv c0_] [(.int c0_), (.int 0), (.ref b)]
  obtain ⟨T2, X2, e2, st2⟩ := getS2 X1 hx hZ hown (host := "") (Or.inl (ow118 hw)) Via.refl e1 S_hb (g := (mkF m 38 #[rv b, iv 1, iv c0_] [(.int c0_), (.int 0), (.ref b)])) rfl (hb hby d22_38)
  refine OGo.st st2 ?_
  show OG p e below Φ T2 m 41 #[rv b, iv 1, iv c0_] [(.int 0), (.int c0_), (.int 0), (.ref b)]
  refine OGo.st (fun _ kz => XT.ishr X2.here hx rfl (hb hby d22_41) rfl kz) ?_
  show OG p e below Φ T2 m 42 #[rv b, iv 1, iv c0_] [(.int (c0_ >>> ((0 : Int32) &&& 31))), (.int 0), (.ref b)]
  refine OGo.st (fun _ kz => XT.i2b X2.here hx rfl (hb hby d22_42) rfl kz) ?_
  show OG p e below Φ T2 m 43 #[rv b, iv 1, iv c0_] [(.int ((c0_ >>> ((0 : Int32) &&& 31)).toInt8.toInt32)), (.int 0), (.ref b)]
  obtain ⟨cl3, Aq3, Cq3, S3, M3, H3, G3⟩ := id V_b
  have in3 : ¬ ((0 : Int32) < 0 ∨ cl3.slots.size ≤ (0 : Int32).toNatClampNeg) := inb_of S3 ⟨by decide, by decide⟩
  obtain ⟨T3, h3, X3, e3, W3, st3⟩ := stB X2 hx hZ e2 Aq3 in3 (g := (mkF m 43 #[rv b, iv 1, iv c0_] [(.int ((c0_ >>> ((0 : Int32) &&& 31)).toInt8.toInt32)), (.int 0), (.ref b)])) rfl rfl (hb hby d22_43)
  have W3 : Wr h0 h3 b (0 : Int32).toNatClampNeg (.int (nar .byte ((c0_ >>> ((0 : Int32) &&& 31)).toInt8.toInt32))) := W3
  have F4 := S_ad.wr W3
  have F5 := S_hb.wr W3
  have F6 := S_lb.wr W3
  have V3 : Arv Z h3 b cb .byte (6 : Int32) [(.int (nar .byte ((c0_ >>> ((0 : Int32) &&& 31)).toInt8.toInt32))), (.int (0 : Int32)), (.int (0 : Int32)), (.int (0 : Int32)), (.int (0 : Int32)), (.int (0 : Int32))] (.int (0 : Int32)) := Arv.set Aq3 Cq3 S3 M3 H3 G3 (fits_nar_byte _) W3 0 (by decide) (by show 0 < 6; decide)
  have K3 := K0.wr W3 (Or.inl (List.mem_of_getElem? (i := 0) rfl))
  have N3 := Fr.snoc X3 N0 g_b
  have Zs3 : n0 ≤ h3.size := by rw [W3.size]; exact Z0
  refine OGo.st st3 ?_
  show OG p e below Φ T3 m 44 #[rv b, iv 1, iv c0_] []
  refine OGo.st (fun _ kz => XS.aloadN X3.here hx rfl (hb hby d22_44) rfl rfl kz) ?_
  show OG p e below Φ T3 m 45 #[rv b, iv 1, iv c0_] [(.ref b)]
  refine OGo.st (fun _ kz => XS.iloadN X3.here hx rfl (hb hby d22_45) rfl kz) ?_
  show OG p e below Φ T3 m 46 #[rv b, iv 1, iv c0_] [(.int 1), (.ref b)]
  refine OGo.st (fun _ kz => XS.iloadN X3.here hx rfl (hb hby d22_46) rfl kz) ?_
  show OG p e below Φ T3 m 47 #[rv b, iv 1, iv c0_] [(.int c0_), (.int 1), (.ref b)]
  obtain ⟨T7, X7, e7, st7⟩ := getS2 X3 hx hZ hown (host := "") (Or.inl (ow119 hw)) Via.refl e3 F6 (g := (mkF m 47 #[rv b, iv 1, iv c0_] [(.int c0_), (.int 1), (.ref b)])) rfl (hb hby d22_47)
  refine OGo.st st7 ?_
  show OG p e below Φ T7 m 50 #[rv b, iv 1, iv c0_] [(.int 8), (.int c0_), (.int 1), (.ref b)]
  refine OGo.st (fun _ kz => XT.ishr X7.here hx rfl (hb hby d22_50) rfl kz) ?_
  show OG p e below Φ T7 m 51 #[rv b, iv 1, iv c0_] [(.int (c0_ >>> ((8 : Int32) &&& 31))), (.int 1), (.ref b)]
  refine OGo.st (fun _ kz => XT.i2b X7.here hx rfl (hb hby d22_51) rfl kz) ?_
  show OG p e below Φ T7 m 52 #[rv b, iv 1, iv c0_] [(.int ((c0_ >>> ((8 : Int32) &&& 31)).toInt8.toInt32)), (.int 1), (.ref b)]
  obtain ⟨cl8, Aq8, Cq8, S8, M8, H8, G8⟩ := id V3
  have in8 : ¬ ((1 : Int32) < 0 ∨ cl8.slots.size ≤ (1 : Int32).toNatClampNeg) := inb_of S8 ⟨by decide, by decide⟩
  obtain ⟨T8, h8, X8, e8, W8, st8⟩ := stB X7 hx hZ e7 Aq8 in8 (g := (mkF m 52 #[rv b, iv 1, iv c0_] [(.int ((c0_ >>> ((8 : Int32) &&& 31)).toInt8.toInt32)), (.int 1), (.ref b)])) rfl rfl (hb hby d22_52)
  have W8 : Wr h3 h8 b (1 : Int32).toNatClampNeg (.int (nar .byte ((c0_ >>> ((8 : Int32) &&& 31)).toInt8.toInt32))) := W8
  have F9 := F4.wr W8
  have F10 := F5.wr W8
  have F11 := F6.wr W8
  have V8 : Arv Z h8 b cb .byte (6 : Int32) [(.int (nar .byte ((c0_ >>> ((0 : Int32) &&& 31)).toInt8.toInt32))), (.int (nar .byte ((c0_ >>> ((8 : Int32) &&& 31)).toInt8.toInt32))), (.int (0 : Int32)), (.int (0 : Int32)), (.int (0 : Int32)), (.int (0 : Int32))] (.int (0 : Int32)) := Arv.set Aq8 Cq8 S8 M8 H8 G8 (fits_nar_byte _) W8 1 (by decide) (by show 1 < 6; decide)
  have K8 := K3.wr W8 (Or.inl (List.mem_of_getElem? (i := 0) rfl))
  have N8 := Fr.snoc X8 N3 g_b
  have Zs8 : n0 ≤ h8.size := by rw [W8.size]; exact Zs3
  refine OGo.st st8 ?_
  show OG p e below Φ T8 m 53 #[rv b, iv 1, iv c0_] []
  refine OGo.fin X8 hlk (v := none) (fun _ => rfl) (by decide) (by decide) (fun fs hr => X8.returnOut hx hret (hb hby d22_53) hr) fun U eU hF => hΦ _ _ _ ?_ hF
  rw [eU, e8]
  show Q_rsb3_1pc0 Z b cb c0_ c1_ c2_ h0 n0 _ _ _
  exact ⟨rfl, N8, K8, V8⟩

theorem ef_rsb3_1pc1 (m : MethodId) (x0 : Addr) (x1 : Int32) (x2 : Int32) : entryFrame m #[(.ref x0), (.int x1), (.int x2)] 3 = mkF m 0 #[.val (.ref x0), .val (.int x1), .val (.int x2)] [] := by first | (simp [entryFrame, mkF, argsToLocals, Value.category]; done) | rfl
def Q_rsb3_1pc1 (Z : State) (b : Addr) (cb : ClassId) (c0_ : Int32) (c1_ : Int32) (c2_ : Int32) (h0 : Heap) (n0 : Nat) (v : Option Value) (h : Heap) (L : List Loc) : Prop := v = none ∧ Fr n0 L ∧ Keep h0 h [b] ∧ Arv Z h b cb .byte (6 : Int32) [(.int (nar .byte (c0_ >>> (0 &&& 31)).toInt8.toInt32)), (.int (nar .byte (c0_ >>> (8 &&& 31)).toInt8.toInt32)), (.int (nar .byte (c1_ >>> (0 &&& 31)).toInt8.toInt32)), (.int (nar .byte (c1_ >>> (8 &&& 31)).toInt8.toInt32)), (.int (0 : Int32)), (.int (0 : Int32))] (.int (0 : Int32))
set_option maxRecDepth 65536 in
set_option maxHeartbeats 40000000 in
theorem rsb3_1pc1 (l : Launch) (Z : State) (a0 : Array Value) (hw : ∀ d ∈ tables_1, d.before a0 Z = true) (ws : List Jvm.Cond) (b : Addr) (cb : ClassId) (c0_ : Int32) (c1_ : Int32) (c2_ : Int32) (h0 : Heap) (n0 : Nat) (Z0 : n0 ≤ h0.size) (V_b : Arv Z h0 b cb .byte (6 : Int32) [(.int (nar .byte (c0_ >>> (0 &&& 31)).toInt8.toInt32)), (.int (nar .byte (c0_ >>> (8 &&& 31)).toInt8.toInt32)), (.int (0 : Int32)), (.int (0 : Int32)), (.int (0 : Int32)), (.int (0 : Int32))] (.int (0 : Int32))) (g_b : n0 ≤ b) (S_ad : Sta Z h0 "java/lang/StringUTF16" "$assertionsDisabled" "Z" (.int (1 : Int32))) (S_hb : Sta Z h0 "java/lang/StringUTF16" "HI_BYTE_SHIFT" "I" (.int (0 : Int32))) (S_lb : Sta Z h0 "java/lang/StringUTF16" "LO_BYTE_SHIFT" "I" (.int (8 : Int32))) :
    OCon l Z (⟨"java/lang/StringUTF16", "putChar", "([BII)V"⟩ : MethodName) jdk_52_method_4_code 3 none ws ({ frames := 0, cells := 0, slots := 0, locals := 0 } : Room) #[(.ref b), (.int (1 : Int32)), (.int c1_)] h0 (Q_rsb3_1pc1 Z b cb c0_ c1_ c2_ h0 n0) := by
  refine OCon.of (plainFor_of_name pn1) ?_
  intro p e s m below meth c s₁ Φ X0 hx hby hml hown hnm hret hlk hZ e0 hΦ
  have N0 := Fr.nil n0
  refine OGo.st (fun _ kz => castTop (ef_rsb3_1pc1 m b (1 : Int32) c1_) kz) ?_
  have K0 := Keep.refl h0 [b]
  show OG p e below Φ s₁ m 0 #[rv b, iv 1, iv c1_] []
  obtain ⟨T1, X1, e1, st1⟩ := getS2 X0 hx hZ hown (host := "") (Or.inl (ow117 hw)) Via.refl e0 S_ad (g := (mkF m 0 #[rv b, iv 1, iv c1_] [])) rfl (hb hby d22_0)
  refine OGo.st st1 ?_
  show OG p e below Φ T1 m 3 #[rv b, iv 1, iv c1_] [(.int 1)]
  refine OGo.st (fun _ kz => XS.ifYes X1.here hx rfl (pc0 := 3) (pc' := 28) rfl (hb hby d22_3) rfl (XT.i0_ne_t (by decide)) (by decide) (by decide) kz) ?_
  show OG p e below Φ T1 m 28 #[rv b, iv 1, iv c1_] []
  refine OGo.st (fun _ kz => XS.iloadN X1.here hx rfl (hb hby d22_28) rfl kz) ?_
  show OG p e below Φ T1 m 29 #[rv b, iv 1, iv c1_] [(.int 1)]
  refine OGo.st (fun _ kz => XS.iconst X1.here hx rfl (hb hby d22_29) kz) ?_
  show OG p e below Φ T1 m 30 #[rv b, iv 1, iv c1_] [(.int 1), (.int 1)]
  refine OGo.st (fun _ kz => XT.ishl X1.here hx rfl (hb hby d22_30) rfl kz) ?_
  show OG p e below Φ T1 m 31 #[rv b, iv 1, iv c1_] [(.int 2)]
  refine OGo.st (fun _ kz => XS.istoreN X1.here hx rfl (hb hby d22_31) rfl (l' := #[rv b, iv 2, iv c1_]) rfl kz) ?_
  show OG p e below Φ T1 m 32 #[rv b, iv 2, iv c1_] []
  refine OGo.st (fun _ kz => XS.aloadN X1.here hx rfl (hb hby d22_32) rfl rfl kz) ?_
  show OG p e below Φ T1 m 33 #[rv b, iv 2, iv c1_] [(.ref b)]
  refine OGo.st (fun _ kz => XS.iloadN X1.here hx rfl (hb hby d22_33) rfl kz) ?_
  show OG p e below Φ T1 m 34 #[rv b, iv 2, iv c1_] [(.int 2), (.ref b)]
  refine OGo.st (fun _ kz => XS.iinc X1.here hx rfl (hb hby d22_34) rfl (l' := #[rv b, iv ((2 : Int32) + (1 : Int32)), iv c1_]) rfl kz) ?_
  show OG p e below Φ T1 m 37 #[rv b, iv 3, iv c1_] [(.int 2), (.ref b)]
  refine OGo.st (fun _ kz => XS.iloadN X1.here hx rfl (hb hby d22_37) rfl kz) ?_
  show OG p e below Φ T1 m 38 #[rv b, iv 3, iv c1_] [(.int c1_), (.int 2), (.ref b)]
  obtain ⟨T2, X2, e2, st2⟩ := getS2 X1 hx hZ hown (host := "") (Or.inl (ow118 hw)) Via.refl e1 S_hb (g := (mkF m 38 #[rv b, iv 3, iv c1_] [(.int c1_), (.int 2), (.ref b)])) rfl (hb hby d22_38)
  refine OGo.st st2 ?_
  show OG p e below Φ T2 m 41 #[rv b, iv 3, iv c1_] [(.int 0), (.int c1_), (.int 2), (.ref b)]
  refine OGo.st (fun _ kz => XT.ishr X2.here hx rfl (hb hby d22_41) rfl kz) ?_
  show OG p e below Φ T2 m 42 #[rv b, iv 3, iv c1_] [(.int (c1_ >>> ((0 : Int32) &&& 31))), (.int 2), (.ref b)]
  refine OGo.st (fun _ kz => XT.i2b X2.here hx rfl (hb hby d22_42) rfl kz) ?_
  show OG p e below Φ T2 m 43 #[rv b, iv 3, iv c1_] [(.int ((c1_ >>> ((0 : Int32) &&& 31)).toInt8.toInt32)), (.int 2), (.ref b)]
  obtain ⟨cl3, Aq3, Cq3, S3, M3, H3, G3⟩ := id V_b
  have in3 : ¬ ((2 : Int32) < 0 ∨ cl3.slots.size ≤ (2 : Int32).toNatClampNeg) := inb_of S3 ⟨by decide, by decide⟩
  obtain ⟨T3, h3, X3, e3, W3, st3⟩ := stB X2 hx hZ e2 Aq3 in3 (g := (mkF m 43 #[rv b, iv 3, iv c1_] [(.int ((c1_ >>> ((0 : Int32) &&& 31)).toInt8.toInt32)), (.int 2), (.ref b)])) rfl rfl (hb hby d22_43)
  have W3 : Wr h0 h3 b (2 : Int32).toNatClampNeg (.int (nar .byte ((c1_ >>> ((0 : Int32) &&& 31)).toInt8.toInt32))) := W3
  have F4 := S_ad.wr W3
  have F5 := S_hb.wr W3
  have F6 := S_lb.wr W3
  have V3 : Arv Z h3 b cb .byte (6 : Int32) [(.int (nar .byte (c0_ >>> (0 &&& 31)).toInt8.toInt32)), (.int (nar .byte (c0_ >>> (8 &&& 31)).toInt8.toInt32)), (.int (nar .byte ((c1_ >>> ((0 : Int32) &&& 31)).toInt8.toInt32))), (.int (0 : Int32)), (.int (0 : Int32)), (.int (0 : Int32))] (.int (0 : Int32)) := Arv.set Aq3 Cq3 S3 M3 H3 G3 (fits_nar_byte _) W3 2 (by decide) (by show 2 < 6; decide)
  have K3 := K0.wr W3 (Or.inl (List.mem_of_getElem? (i := 0) rfl))
  have N3 := Fr.snoc X3 N0 g_b
  have Zs3 : n0 ≤ h3.size := by rw [W3.size]; exact Z0
  refine OGo.st st3 ?_
  show OG p e below Φ T3 m 44 #[rv b, iv 3, iv c1_] []
  refine OGo.st (fun _ kz => XS.aloadN X3.here hx rfl (hb hby d22_44) rfl rfl kz) ?_
  show OG p e below Φ T3 m 45 #[rv b, iv 3, iv c1_] [(.ref b)]
  refine OGo.st (fun _ kz => XS.iloadN X3.here hx rfl (hb hby d22_45) rfl kz) ?_
  show OG p e below Φ T3 m 46 #[rv b, iv 3, iv c1_] [(.int 3), (.ref b)]
  refine OGo.st (fun _ kz => XS.iloadN X3.here hx rfl (hb hby d22_46) rfl kz) ?_
  show OG p e below Φ T3 m 47 #[rv b, iv 3, iv c1_] [(.int c1_), (.int 3), (.ref b)]
  obtain ⟨T7, X7, e7, st7⟩ := getS2 X3 hx hZ hown (host := "") (Or.inl (ow119 hw)) Via.refl e3 F6 (g := (mkF m 47 #[rv b, iv 3, iv c1_] [(.int c1_), (.int 3), (.ref b)])) rfl (hb hby d22_47)
  refine OGo.st st7 ?_
  show OG p e below Φ T7 m 50 #[rv b, iv 3, iv c1_] [(.int 8), (.int c1_), (.int 3), (.ref b)]
  refine OGo.st (fun _ kz => XT.ishr X7.here hx rfl (hb hby d22_50) rfl kz) ?_
  show OG p e below Φ T7 m 51 #[rv b, iv 3, iv c1_] [(.int (c1_ >>> ((8 : Int32) &&& 31))), (.int 3), (.ref b)]
  refine OGo.st (fun _ kz => XT.i2b X7.here hx rfl (hb hby d22_51) rfl kz) ?_
  show OG p e below Φ T7 m 52 #[rv b, iv 3, iv c1_] [(.int ((c1_ >>> ((8 : Int32) &&& 31)).toInt8.toInt32)), (.int 3), (.ref b)]
  obtain ⟨cl8, Aq8, Cq8, S8, M8, H8, G8⟩ := id V3
  have in8 : ¬ ((3 : Int32) < 0 ∨ cl8.slots.size ≤ (3 : Int32).toNatClampNeg) := inb_of S8 ⟨by decide, by decide⟩
  obtain ⟨T8, h8, X8, e8, W8, st8⟩ := stB X7 hx hZ e7 Aq8 in8 (g := (mkF m 52 #[rv b, iv 3, iv c1_] [(.int ((c1_ >>> ((8 : Int32) &&& 31)).toInt8.toInt32)), (.int 3), (.ref b)])) rfl rfl (hb hby d22_52)
  have W8 : Wr h3 h8 b (3 : Int32).toNatClampNeg (.int (nar .byte ((c1_ >>> ((8 : Int32) &&& 31)).toInt8.toInt32))) := W8
  have F9 := F4.wr W8
  have F10 := F5.wr W8
  have F11 := F6.wr W8
  have V8 : Arv Z h8 b cb .byte (6 : Int32) [(.int (nar .byte (c0_ >>> (0 &&& 31)).toInt8.toInt32)), (.int (nar .byte (c0_ >>> (8 &&& 31)).toInt8.toInt32)), (.int (nar .byte ((c1_ >>> ((0 : Int32) &&& 31)).toInt8.toInt32))), (.int (nar .byte ((c1_ >>> ((8 : Int32) &&& 31)).toInt8.toInt32))), (.int (0 : Int32)), (.int (0 : Int32))] (.int (0 : Int32)) := Arv.set Aq8 Cq8 S8 M8 H8 G8 (fits_nar_byte _) W8 3 (by decide) (by show 3 < 6; decide)
  have K8 := K3.wr W8 (Or.inl (List.mem_of_getElem? (i := 0) rfl))
  have N8 := Fr.snoc X8 N3 g_b
  have Zs8 : n0 ≤ h8.size := by rw [W8.size]; exact Zs3
  refine OGo.st st8 ?_
  show OG p e below Φ T8 m 53 #[rv b, iv 3, iv c1_] []
  refine OGo.fin X8 hlk (v := none) (fun _ => rfl) (by decide) (by decide) (fun fs hr => X8.returnOut hx hret (hb hby d22_53) hr) fun U eU hF => hΦ _ _ _ ?_ hF
  rw [eU, e8]
  show Q_rsb3_1pc1 Z b cb c0_ c1_ c2_ h0 n0 _ _ _
  exact ⟨rfl, N8, K8, V8⟩

theorem ef_rsb3_1pc2 (m : MethodId) (x0 : Addr) (x1 : Int32) (x2 : Int32) : entryFrame m #[(.ref x0), (.int x1), (.int x2)] 3 = mkF m 0 #[.val (.ref x0), .val (.int x1), .val (.int x2)] [] := by first | (simp [entryFrame, mkF, argsToLocals, Value.category]; done) | rfl
def Q_rsb3_1pc2 (Z : State) (b : Addr) (cb : ClassId) (c0_ : Int32) (c1_ : Int32) (c2_ : Int32) (h0 : Heap) (n0 : Nat) (v : Option Value) (h : Heap) (L : List Loc) : Prop := v = none ∧ Fr n0 L ∧ Keep h0 h [b] ∧ Arv Z h b cb .byte (6 : Int32) [(.int (nar .byte (c0_ >>> (0 &&& 31)).toInt8.toInt32)), (.int (nar .byte (c0_ >>> (8 &&& 31)).toInt8.toInt32)), (.int (nar .byte (c1_ >>> (0 &&& 31)).toInt8.toInt32)), (.int (nar .byte (c1_ >>> (8 &&& 31)).toInt8.toInt32)), (.int (nar .byte (c2_ >>> (0 &&& 31)).toInt8.toInt32)), (.int (nar .byte (c2_ >>> (8 &&& 31)).toInt8.toInt32))] (.int (0 : Int32))
set_option maxRecDepth 65536 in
set_option maxHeartbeats 40000000 in
theorem rsb3_1pc2 (l : Launch) (Z : State) (a0 : Array Value) (hw : ∀ d ∈ tables_1, d.before a0 Z = true) (ws : List Jvm.Cond) (b : Addr) (cb : ClassId) (c0_ : Int32) (c1_ : Int32) (c2_ : Int32) (h0 : Heap) (n0 : Nat) (Z0 : n0 ≤ h0.size) (V_b : Arv Z h0 b cb .byte (6 : Int32) [(.int (nar .byte (c0_ >>> (0 &&& 31)).toInt8.toInt32)), (.int (nar .byte (c0_ >>> (8 &&& 31)).toInt8.toInt32)), (.int (nar .byte (c1_ >>> (0 &&& 31)).toInt8.toInt32)), (.int (nar .byte (c1_ >>> (8 &&& 31)).toInt8.toInt32)), (.int (0 : Int32)), (.int (0 : Int32))] (.int (0 : Int32))) (g_b : n0 ≤ b) (S_ad : Sta Z h0 "java/lang/StringUTF16" "$assertionsDisabled" "Z" (.int (1 : Int32))) (S_hb : Sta Z h0 "java/lang/StringUTF16" "HI_BYTE_SHIFT" "I" (.int (0 : Int32))) (S_lb : Sta Z h0 "java/lang/StringUTF16" "LO_BYTE_SHIFT" "I" (.int (8 : Int32))) :
    OCon l Z (⟨"java/lang/StringUTF16", "putChar", "([BII)V"⟩ : MethodName) jdk_52_method_4_code 3 none ws ({ frames := 0, cells := 0, slots := 0, locals := 0 } : Room) #[(.ref b), (.int (2 : Int32)), (.int c2_)] h0 (Q_rsb3_1pc2 Z b cb c0_ c1_ c2_ h0 n0) := by
  refine OCon.of (plainFor_of_name pn1) ?_
  intro p e s m below meth c s₁ Φ X0 hx hby hml hown hnm hret hlk hZ e0 hΦ
  have N0 := Fr.nil n0
  refine OGo.st (fun _ kz => castTop (ef_rsb3_1pc2 m b (2 : Int32) c2_) kz) ?_
  have K0 := Keep.refl h0 [b]
  show OG p e below Φ s₁ m 0 #[rv b, iv 2, iv c2_] []
  obtain ⟨T1, X1, e1, st1⟩ := getS2 X0 hx hZ hown (host := "") (Or.inl (ow117 hw)) Via.refl e0 S_ad (g := (mkF m 0 #[rv b, iv 2, iv c2_] [])) rfl (hb hby d22_0)
  refine OGo.st st1 ?_
  show OG p e below Φ T1 m 3 #[rv b, iv 2, iv c2_] [(.int 1)]
  refine OGo.st (fun _ kz => XS.ifYes X1.here hx rfl (pc0 := 3) (pc' := 28) rfl (hb hby d22_3) rfl (XT.i0_ne_t (by decide)) (by decide) (by decide) kz) ?_
  show OG p e below Φ T1 m 28 #[rv b, iv 2, iv c2_] []
  refine OGo.st (fun _ kz => XS.iloadN X1.here hx rfl (hb hby d22_28) rfl kz) ?_
  show OG p e below Φ T1 m 29 #[rv b, iv 2, iv c2_] [(.int 2)]
  refine OGo.st (fun _ kz => XS.iconst X1.here hx rfl (hb hby d22_29) kz) ?_
  show OG p e below Φ T1 m 30 #[rv b, iv 2, iv c2_] [(.int 1), (.int 2)]
  refine OGo.st (fun _ kz => XT.ishl X1.here hx rfl (hb hby d22_30) rfl kz) ?_
  show OG p e below Φ T1 m 31 #[rv b, iv 2, iv c2_] [(.int 4)]
  refine OGo.st (fun _ kz => XS.istoreN X1.here hx rfl (hb hby d22_31) rfl (l' := #[rv b, iv 4, iv c2_]) rfl kz) ?_
  show OG p e below Φ T1 m 32 #[rv b, iv 4, iv c2_] []
  refine OGo.st (fun _ kz => XS.aloadN X1.here hx rfl (hb hby d22_32) rfl rfl kz) ?_
  show OG p e below Φ T1 m 33 #[rv b, iv 4, iv c2_] [(.ref b)]
  refine OGo.st (fun _ kz => XS.iloadN X1.here hx rfl (hb hby d22_33) rfl kz) ?_
  show OG p e below Φ T1 m 34 #[rv b, iv 4, iv c2_] [(.int 4), (.ref b)]
  refine OGo.st (fun _ kz => XS.iinc X1.here hx rfl (hb hby d22_34) rfl (l' := #[rv b, iv ((4 : Int32) + (1 : Int32)), iv c2_]) rfl kz) ?_
  show OG p e below Φ T1 m 37 #[rv b, iv 5, iv c2_] [(.int 4), (.ref b)]
  refine OGo.st (fun _ kz => XS.iloadN X1.here hx rfl (hb hby d22_37) rfl kz) ?_
  show OG p e below Φ T1 m 38 #[rv b, iv 5, iv c2_] [(.int c2_), (.int 4), (.ref b)]
  obtain ⟨T2, X2, e2, st2⟩ := getS2 X1 hx hZ hown (host := "") (Or.inl (ow118 hw)) Via.refl e1 S_hb (g := (mkF m 38 #[rv b, iv 5, iv c2_] [(.int c2_), (.int 4), (.ref b)])) rfl (hb hby d22_38)
  refine OGo.st st2 ?_
  show OG p e below Φ T2 m 41 #[rv b, iv 5, iv c2_] [(.int 0), (.int c2_), (.int 4), (.ref b)]
  refine OGo.st (fun _ kz => XT.ishr X2.here hx rfl (hb hby d22_41) rfl kz) ?_
  show OG p e below Φ T2 m 42 #[rv b, iv 5, iv c2_] [(.int (c2_ >>> ((0 : Int32) &&& 31))), (.int 4), (.ref b)]
  refine OGo.st (fun _ kz => XT.i2b X2.here hx rfl (hb hby d22_42) rfl kz) ?_
  show OG p e below Φ T2 m 43 #[rv b, iv 5, iv c2_] [(.int ((c2_ >>> ((0 : Int32) &&& 31)).toInt8.toInt32)), (.int 4), (.ref b)]
  obtain ⟨cl3, Aq3, Cq3, S3, M3, H3, G3⟩ := id V_b
  have in3 : ¬ ((4 : Int32) < 0 ∨ cl3.slots.size ≤ (4 : Int32).toNatClampNeg) := inb_of S3 ⟨by decide, by decide⟩
  obtain ⟨T3, h3, X3, e3, W3, st3⟩ := stB X2 hx hZ e2 Aq3 in3 (g := (mkF m 43 #[rv b, iv 5, iv c2_] [(.int ((c2_ >>> ((0 : Int32) &&& 31)).toInt8.toInt32)), (.int 4), (.ref b)])) rfl rfl (hb hby d22_43)
  have W3 : Wr h0 h3 b (4 : Int32).toNatClampNeg (.int (nar .byte ((c2_ >>> ((0 : Int32) &&& 31)).toInt8.toInt32))) := W3
  have F4 := S_ad.wr W3
  have F5 := S_hb.wr W3
  have F6 := S_lb.wr W3
  have V3 : Arv Z h3 b cb .byte (6 : Int32) [(.int (nar .byte (c0_ >>> (0 &&& 31)).toInt8.toInt32)), (.int (nar .byte (c0_ >>> (8 &&& 31)).toInt8.toInt32)), (.int (nar .byte (c1_ >>> (0 &&& 31)).toInt8.toInt32)), (.int (nar .byte (c1_ >>> (8 &&& 31)).toInt8.toInt32)), (.int (nar .byte ((c2_ >>> ((0 : Int32) &&& 31)).toInt8.toInt32))), (.int (0 : Int32))] (.int (0 : Int32)) := Arv.set Aq3 Cq3 S3 M3 H3 G3 (fits_nar_byte _) W3 4 (by decide) (by show 4 < 6; decide)
  have K3 := K0.wr W3 (Or.inl (List.mem_of_getElem? (i := 0) rfl))
  have N3 := Fr.snoc X3 N0 g_b
  have Zs3 : n0 ≤ h3.size := by rw [W3.size]; exact Z0
  refine OGo.st st3 ?_
  show OG p e below Φ T3 m 44 #[rv b, iv 5, iv c2_] []
  refine OGo.st (fun _ kz => XS.aloadN X3.here hx rfl (hb hby d22_44) rfl rfl kz) ?_
  show OG p e below Φ T3 m 45 #[rv b, iv 5, iv c2_] [(.ref b)]
  refine OGo.st (fun _ kz => XS.iloadN X3.here hx rfl (hb hby d22_45) rfl kz) ?_
  show OG p e below Φ T3 m 46 #[rv b, iv 5, iv c2_] [(.int 5), (.ref b)]
  refine OGo.st (fun _ kz => XS.iloadN X3.here hx rfl (hb hby d22_46) rfl kz) ?_
  show OG p e below Φ T3 m 47 #[rv b, iv 5, iv c2_] [(.int c2_), (.int 5), (.ref b)]
  obtain ⟨T7, X7, e7, st7⟩ := getS2 X3 hx hZ hown (host := "") (Or.inl (ow119 hw)) Via.refl e3 F6 (g := (mkF m 47 #[rv b, iv 5, iv c2_] [(.int c2_), (.int 5), (.ref b)])) rfl (hb hby d22_47)
  refine OGo.st st7 ?_
  show OG p e below Φ T7 m 50 #[rv b, iv 5, iv c2_] [(.int 8), (.int c2_), (.int 5), (.ref b)]
  refine OGo.st (fun _ kz => XT.ishr X7.here hx rfl (hb hby d22_50) rfl kz) ?_
  show OG p e below Φ T7 m 51 #[rv b, iv 5, iv c2_] [(.int (c2_ >>> ((8 : Int32) &&& 31))), (.int 5), (.ref b)]
  refine OGo.st (fun _ kz => XT.i2b X7.here hx rfl (hb hby d22_51) rfl kz) ?_
  show OG p e below Φ T7 m 52 #[rv b, iv 5, iv c2_] [(.int ((c2_ >>> ((8 : Int32) &&& 31)).toInt8.toInt32)), (.int 5), (.ref b)]
  obtain ⟨cl8, Aq8, Cq8, S8, M8, H8, G8⟩ := id V3
  have in8 : ¬ ((5 : Int32) < 0 ∨ cl8.slots.size ≤ (5 : Int32).toNatClampNeg) := inb_of S8 ⟨by decide, by decide⟩
  obtain ⟨T8, h8, X8, e8, W8, st8⟩ := stB X7 hx hZ e7 Aq8 in8 (g := (mkF m 52 #[rv b, iv 5, iv c2_] [(.int ((c2_ >>> ((8 : Int32) &&& 31)).toInt8.toInt32)), (.int 5), (.ref b)])) rfl rfl (hb hby d22_52)
  have W8 : Wr h3 h8 b (5 : Int32).toNatClampNeg (.int (nar .byte ((c2_ >>> ((8 : Int32) &&& 31)).toInt8.toInt32))) := W8
  have F9 := F4.wr W8
  have F10 := F5.wr W8
  have F11 := F6.wr W8
  have V8 : Arv Z h8 b cb .byte (6 : Int32) [(.int (nar .byte (c0_ >>> (0 &&& 31)).toInt8.toInt32)), (.int (nar .byte (c0_ >>> (8 &&& 31)).toInt8.toInt32)), (.int (nar .byte (c1_ >>> (0 &&& 31)).toInt8.toInt32)), (.int (nar .byte (c1_ >>> (8 &&& 31)).toInt8.toInt32)), (.int (nar .byte ((c2_ >>> ((0 : Int32) &&& 31)).toInt8.toInt32))), (.int (nar .byte ((c2_ >>> ((8 : Int32) &&& 31)).toInt8.toInt32)))] (.int (0 : Int32)) := Arv.set Aq8 Cq8 S8 M8 H8 G8 (fits_nar_byte _) W8 5 (by decide) (by show 5 < 6; decide)
  have K8 := K3.wr W8 (Or.inl (List.mem_of_getElem? (i := 0) rfl))
  have N8 := Fr.snoc X8 N3 g_b
  have Zs8 : n0 ≤ h8.size := by rw [W8.size]; exact Zs3
  refine OGo.st st8 ?_
  show OG p e below Φ T8 m 53 #[rv b, iv 5, iv c2_] []
  refine OGo.fin X8 hlk (v := none) (fun _ => rfl) (by decide) (by decide) (fun fs hr => X8.returnOut hx hret (hb hby d22_53) hr) fun U eU hF => hΦ _ _ _ ?_ hF
  rw [eU, e8]
  show Q_rsb3_1pc2 Z b cb c0_ c1_ c2_ h0 n0 _ _ _
  exact ⟨rfl, N8, K8, V8⟩

theorem ef_rsb3_1tb (m : MethodId) (x0 : Addr) (x1 : Int32) (x2 : Int32) : entryFrame m #[(.ref x0), (.int x1), (.int x2)] 5 = mkF m 0 #[.val (.ref x0), .val (.int x1), .val (.int x2), .unset, .unset] [] := by first | (simp [entryFrame, mkF, argsToLocals, Value.category]; done) | rfl
def Q_rsb3_1tb (Z : State) (a : Addr) (ca : ClassId) (c0_ : Int32) (c1_ : Int32) (c2_ : Int32) (h0 : Heap) (n0 : Nat) (v : Option Value) (h : Heap) (L : List Loc) : Prop := ∃ b cb, v = some (.ref b) ∧ Fr n0 L ∧ Keep h0 h [] ∧ Arv Z h b cb .byte (6 : Int32) [(.int (nar .byte (c0_ >>> (0 &&& 31)).toInt8.toInt32)), (.int (nar .byte (c0_ >>> (8 &&& 31)).toInt8.toInt32)), (.int (nar .byte (c1_ >>> (0 &&& 31)).toInt8.toInt32)), (.int (nar .byte (c1_ >>> (8 &&& 31)).toInt8.toInt32)), (.int (nar .byte (c2_ >>> (0 &&& 31)).toInt8.toInt32)), (.int (nar .byte (c2_ >>> (8 &&& 31)).toInt8.toInt32))] (.int (0 : Int32)) ∧ h0.size ≤ b
set_option maxRecDepth 65536 in
set_option maxHeartbeats 40000000 in
theorem rsb3_1tb (l : Launch) (Z : State) (a0 : Array Value) (hw : ∀ d ∈ tables_1, d.before a0 Z = true) (ws : List Jvm.Cond) (a : Addr) (ca : ClassId) (c0_ : Int32) (c1_ : Int32) (c2_ : Int32) (h0 : Heap) (n0 : Nat) (Z0 : n0 ≤ h0.size) (V_a : Arv Z h0 a ca .char (3 : Int32) [(.int c0_), (.int c1_), (.int c2_)] (.int (0 : Int32))) (O_0 : Old Z n0 h0) (S_ad : Sta Z Z.heap "java/lang/StringUTF16" "$assertionsDisabled" "Z" (.int (1 : Int32))) (S_hb : Sta Z Z.heap "java/lang/StringUTF16" "HI_BYTE_SHIFT" "I" (.int (0 : Int32))) (S_lb : Sta Z Z.heap "java/lang/StringUTF16" "LO_BYTE_SHIFT" "I" (.int (8 : Int32))) :
    OCon l Z (⟨"java/lang/StringUTF16", "toBytes", "([CII)[B"⟩ : MethodName) jdk_52_method_14_code 5 (some (.array .byte)) ws ({ frames := 2, cells := 1, slots := 6, locals := 24 } : Room) #[(.ref a), (.int (0 : Int32)), (.int (3 : Int32))] h0 (Q_rsb3_1tb Z a ca c0_ c1_ c2_ h0 n0) := by
  refine OCon.of (plainFor_of_name pn1) ?_
  intro p e s m below meth c s₁ Φ X0 hx hby hml hown hnm hret hlk hZ e0 hΦ
  have N0 := Fr.nil n0
  refine OGo.st (fun _ kz => castTop (ef_rsb3_1tb m a (0 : Int32) (3 : Int32)) kz) ?_
  have K0 := Keep.refl h0 []
  show OG p e below Φ s₁ m 0 #[rv a, iv 0, iv 3, .unset, .unset] []
  refine OGo.st (fun _ kz => XS.iloadN X0.here hx rfl (hb hby d19_0) rfl kz) ?_
  show OG p e below Φ s₁ m 1 #[rv a, iv 0, iv 3, .unset, .unset] [(.int 3)]
  obtain ⟨_, T1, L1, X1, hQ1, st1⟩ := own_callSt X0 hx hZ hown (ow107 hw) (ow108 hw) (ow36 hw) (ow109 hw) (by decide) (rsb3_1nf l Z a0 hw []  h0 n0 Z0 ) e0 (W := 0) (by decide) (by decide) (by decide) (by decide) (pc := 1) (ls := #[rv a, iv 0, iv 3, .unset, .unset]) (stk := [(.int 3)]) (by rw [hml]; rfl) (argsL := [(.int 3)]) (rest := []) (lenOf pd5 rfl) rfl rfl (Nat.le_of_eq rfl) (hb hby d19_1)
  obtain ⟨b1, cb1, rfl, Nq1, Kq1, Vq1, hz1⟩ := hQ1
  have nq1_a : a ≠ b1 := Nat.ne_of_lt (Nat.lt_of_lt_of_le V_a.lt hz1)
  have gq1 : n0 ≤ b1 := Nat.le_trans Z0 hz1
  have sq1 : h0.size ≤ b1 := Nat.le_trans K0.1 hz1
  have N1 := Fr.app N0 Nq1
  have Zs1 : n0 ≤ T1.heap.size := Nat.le_trans Z0 Kq1.1
  have F2 := V_a.keep Kq1 nin0
  have F3 := O_0.keep Kq1 all0
  have K1 := K0.trans Kq1 all0
  refine OGo.st st1 ?_
  show OG p e below Φ T1 m 4 #[rv a, iv 0, iv 3, .unset, .unset] [(.ref b1)]
  refine OGo.st (fun _ kz => XS.astoreN X1.here hx rfl (hb hby d19_4) rfl rfl (l' := #[rv a, iv 0, iv 3, rv b1, .unset]) rfl kz) ?_
  show OG p e below Φ T1 m 5 #[rv a, iv 0, iv 3, rv b1, .unset] []
  refine OGo.st (fun _ kz => XS.iconst X1.here hx rfl (hb hby d19_5) kz) ?_
  show OG p e below Φ T1 m 6 #[rv a, iv 0, iv 3, rv b1, .unset] [(.int 0)]
  refine OGo.st (fun _ kz => XS.istore X1.here hx rfl (hb hby d19_6) rfl (l' := #[rv a, iv 0, iv 3, rv b1, iv 0]) rfl kz) ?_
  show OG p e below Φ T1 m 8 #[rv a, iv 0, iv 3, rv b1, iv 0] []
  refine OGo.st (fun _ kz => XS.iload X1.here hx rfl (hb hby d19_8) rfl kz) ?_
  show OG p e below Φ T1 m 10 #[rv a, iv 0, iv 3, rv b1, iv 0] [(.int 0)]
  refine OGo.st (fun _ kz => XS.iloadN X1.here hx rfl (hb hby d19_10) rfl kz) ?_
  show OG p e below Φ T1 m 11 #[rv a, iv 0, iv 3, rv b1, iv 0] [(.int 3), (.int 0)]
  refine OGo.st (fun _ kz => XS.icmpNo X1.here hx rfl (hb hby d19_11) rfl (XT.ii_ge_f (by decide)) kz) ?_
  show OG p e below Φ T1 m 14 #[rv a, iv 0, iv 3, rv b1, iv 0] []
  refine OGo.st (fun _ kz => XS.aloadN X1.here hx rfl (hb hby d19_14) rfl rfl kz) ?_
  show OG p e below Φ T1 m 15 #[rv a, iv 0, iv 3, rv b1, iv 0] [(.ref b1)]
  refine OGo.st (fun _ kz => XS.iload X1.here hx rfl (hb hby d19_15) rfl kz) ?_
  show OG p e below Φ T1 m 17 #[rv a, iv 0, iv 3, rv b1, iv 0] [(.int 0), (.ref b1)]
  refine OGo.st (fun _ kz => XS.aloadN X1.here hx rfl (hb hby d19_17) rfl rfl kz) ?_
  show OG p e below Φ T1 m 18 #[rv a, iv 0, iv 3, rv b1, iv 0] [(.ref a), (.int 0), (.ref b1)]
  refine OGo.st (fun _ kz => XS.iloadN X1.here hx rfl (hb hby d19_18) rfl kz) ?_
  show OG p e below Φ T1 m 19 #[rv a, iv 0, iv 3, rv b1, iv 0] [(.int 0), (.ref a), (.int 0), (.ref b1)]
  obtain ⟨cl4, Aq4, -, S4, M4, H4, -⟩ := id F2
  have in4 : ¬ ((0 : Int32) < 0 ∨ cl4.slots.size ≤ (0 : Int32).toNatClampNeg) := inb_of S4 ⟨by decide, by decide⟩
  have at4 : cl4.slots[(0 : Int32).toNatClampNeg]? = some (.int c0_) := H4.at in4 rfl
  refine OGo.st (fun _ kz => X1.caload hx Aq4.1 (State.isArrayOf_alike hZ.alike Aq4.2.1) Aq4.2.2 in4 at4 (g := (mkF m 19 #[rv a, iv 0, iv 3, rv b1, iv 0] [(.int 0), (.ref a), (.int 0), (.ref b1)])) rfl rfl (hb hby d19_19) _ kz) ?_
  show OG p e below Φ T1 m 20 #[rv a, iv 0, iv 3, rv b1, iv 0] [(.int c0_), (.int 0), (.ref b1)]
  obtain ⟨_, T5, L5, X5, hQ5, st5⟩ := own_callSt X1 hx hZ hown (ow114 hw) (ow115 hw) (ow36 hw) (ow116 hw) (by decide) (rsb3_1pc0 l Z a0 hw [] b1 cb1 c0_ c1_ c2_ T1.heap n0 Zs1 Vq1 gq1 (S_ad.ext F3.2) (S_hb.ext F3.2) (S_lb.ext F3.2)) rfl (W := 0) (by decide) (by decide) (by decide) (by decide) (pc := 20) (ls := #[rv a, iv 0, iv 3, rv b1, iv 0]) (stk := [(.int c0_), (.int 0), (.ref b1)]) (by rw [hml]; rfl) (argsL := [(.ref b1), (.int 0), (.int c0_)]) (rest := []) (lenOf pd6 rfl) rfl rfl (Nat.le_of_eq rfl) (hb hby d19_20)
  obtain ⟨rfl, Nq5, Kq5, Vq5⟩ := hQ5
  have N5 := Fr.app N1 Nq5
  have Zs5 : n0 ≤ T5.heap.size := Nat.le_trans Zs1 Kq5.1
  have F6 := F2.keep Kq5 (ninS nq1_a nin0)
  have F7 := F3.keep Kq5 (allS gq1 all0)
  have K5 := K1.trans Kq5 (allS (Or.inr sq1) all0)
  refine OGo.st st5 ?_
  show OG p e below Φ T5 m 23 #[rv a, iv 0, iv 3, rv b1, iv 0] []
  refine OGo.st (fun _ kz => XS.iinc X5.here hx rfl (hb hby d19_23) rfl (l' := #[rv a, iv ((0 : Int32) + (1 : Int32)), iv 3, rv b1, iv 0]) rfl kz) ?_
  show OG p e below Φ T5 m 26 #[rv a, iv 1, iv 3, rv b1, iv 0] []
  refine OGo.st (fun _ kz => XS.iinc X5.here hx rfl (hb hby d19_26) rfl (l' := #[rv a, iv 1, iv 3, rv b1, iv ((0 : Int32) + (1 : Int32))]) rfl kz) ?_
  show OG p e below Φ T5 m 29 #[rv a, iv 1, iv 3, rv b1, iv 1] []
  refine OGo.st (fun _ kz => XS.goto X5.here hx rfl (pc0 := 29) (pc' := 8) rfl (hb hby d19_29) (by decide) (by decide) kz) ?_
  show OG p e below Φ T5 m 8 #[rv a, iv 1, iv 3, rv b1, iv 1] []
  refine OGo.st (fun _ kz => XS.iload X5.here hx rfl (hb hby d19_8) rfl kz) ?_
  show OG p e below Φ T5 m 10 #[rv a, iv 1, iv 3, rv b1, iv 1] [(.int 1)]
  refine OGo.st (fun _ kz => XS.iloadN X5.here hx rfl (hb hby d19_10) rfl kz) ?_
  show OG p e below Φ T5 m 11 #[rv a, iv 1, iv 3, rv b1, iv 1] [(.int 3), (.int 1)]
  refine OGo.st (fun _ kz => XS.icmpNo X5.here hx rfl (hb hby d19_11) rfl (XT.ii_ge_f (by decide)) kz) ?_
  show OG p e below Φ T5 m 14 #[rv a, iv 1, iv 3, rv b1, iv 1] []
  refine OGo.st (fun _ kz => XS.aloadN X5.here hx rfl (hb hby d19_14) rfl rfl kz) ?_
  show OG p e below Φ T5 m 15 #[rv a, iv 1, iv 3, rv b1, iv 1] [(.ref b1)]
  refine OGo.st (fun _ kz => XS.iload X5.here hx rfl (hb hby d19_15) rfl kz) ?_
  show OG p e below Φ T5 m 17 #[rv a, iv 1, iv 3, rv b1, iv 1] [(.int 1), (.ref b1)]
  refine OGo.st (fun _ kz => XS.aloadN X5.here hx rfl (hb hby d19_17) rfl rfl kz) ?_
  show OG p e below Φ T5 m 18 #[rv a, iv 1, iv 3, rv b1, iv 1] [(.ref a), (.int 1), (.ref b1)]
  refine OGo.st (fun _ kz => XS.iloadN X5.here hx rfl (hb hby d19_18) rfl kz) ?_
  show OG p e below Φ T5 m 19 #[rv a, iv 1, iv 3, rv b1, iv 1] [(.int 1), (.ref a), (.int 1), (.ref b1)]
  obtain ⟨cl8, Aq8, -, S8, M8, H8, -⟩ := id F6
  have in8 : ¬ ((1 : Int32) < 0 ∨ cl8.slots.size ≤ (1 : Int32).toNatClampNeg) := inb_of S8 ⟨by decide, by decide⟩
  have at8 : cl8.slots[(1 : Int32).toNatClampNeg]? = some (.int c1_) := H8.at in8 rfl
  refine OGo.st (fun _ kz => X5.caload hx Aq8.1 (State.isArrayOf_alike hZ.alike Aq8.2.1) Aq8.2.2 in8 at8 (g := (mkF m 19 #[rv a, iv 1, iv 3, rv b1, iv 1] [(.int 1), (.ref a), (.int 1), (.ref b1)])) rfl rfl (hb hby d19_19) _ kz) ?_
  show OG p e below Φ T5 m 20 #[rv a, iv 1, iv 3, rv b1, iv 1] [(.int c1_), (.int 1), (.ref b1)]
  obtain ⟨_, T9, L9, X9, hQ9, st9⟩ := own_callSt X5 hx hZ hown (ow114 hw) (ow115 hw) (ow36 hw) (ow116 hw) (by decide) (rsb3_1pc1 l Z a0 hw [] b1 cb1 c0_ c1_ c2_ T5.heap n0 Zs5 Vq5 gq1 (S_ad.ext F7.2) (S_hb.ext F7.2) (S_lb.ext F7.2)) rfl (W := 0) (by decide) (by decide) (by decide) (by decide) (pc := 20) (ls := #[rv a, iv 1, iv 3, rv b1, iv 1]) (stk := [(.int c1_), (.int 1), (.ref b1)]) (by rw [hml]; rfl) (argsL := [(.ref b1), (.int 1), (.int c1_)]) (rest := []) (lenOf pd6 rfl) rfl rfl (Nat.le_of_eq rfl) (hb hby d19_20)
  obtain ⟨rfl, Nq9, Kq9, Vq9⟩ := hQ9
  have N9 := Fr.app N5 Nq9
  have Zs9 : n0 ≤ T9.heap.size := Nat.le_trans Zs5 Kq9.1
  have F10 := F6.keep Kq9 (ninS nq1_a nin0)
  have F11 := F7.keep Kq9 (allS gq1 all0)
  have K9 := K5.trans Kq9 (allS (Or.inr sq1) all0)
  refine OGo.st st9 ?_
  show OG p e below Φ T9 m 23 #[rv a, iv 1, iv 3, rv b1, iv 1] []
  refine OGo.st (fun _ kz => XS.iinc X9.here hx rfl (hb hby d19_23) rfl (l' := #[rv a, iv ((1 : Int32) + (1 : Int32)), iv 3, rv b1, iv 1]) rfl kz) ?_
  show OG p e below Φ T9 m 26 #[rv a, iv 2, iv 3, rv b1, iv 1] []
  refine OGo.st (fun _ kz => XS.iinc X9.here hx rfl (hb hby d19_26) rfl (l' := #[rv a, iv 2, iv 3, rv b1, iv ((1 : Int32) + (1 : Int32))]) rfl kz) ?_
  show OG p e below Φ T9 m 29 #[rv a, iv 2, iv 3, rv b1, iv 2] []
  refine OGo.st (fun _ kz => XS.goto X9.here hx rfl (pc0 := 29) (pc' := 8) rfl (hb hby d19_29) (by decide) (by decide) kz) ?_
  show OG p e below Φ T9 m 8 #[rv a, iv 2, iv 3, rv b1, iv 2] []
  refine OGo.st (fun _ kz => XS.iload X9.here hx rfl (hb hby d19_8) rfl kz) ?_
  show OG p e below Φ T9 m 10 #[rv a, iv 2, iv 3, rv b1, iv 2] [(.int 2)]
  refine OGo.st (fun _ kz => XS.iloadN X9.here hx rfl (hb hby d19_10) rfl kz) ?_
  show OG p e below Φ T9 m 11 #[rv a, iv 2, iv 3, rv b1, iv 2] [(.int 3), (.int 2)]
  refine OGo.st (fun _ kz => XS.icmpNo X9.here hx rfl (hb hby d19_11) rfl (XT.ii_ge_f (by decide)) kz) ?_
  show OG p e below Φ T9 m 14 #[rv a, iv 2, iv 3, rv b1, iv 2] []
  refine OGo.st (fun _ kz => XS.aloadN X9.here hx rfl (hb hby d19_14) rfl rfl kz) ?_
  show OG p e below Φ T9 m 15 #[rv a, iv 2, iv 3, rv b1, iv 2] [(.ref b1)]
  refine OGo.st (fun _ kz => XS.iload X9.here hx rfl (hb hby d19_15) rfl kz) ?_
  show OG p e below Φ T9 m 17 #[rv a, iv 2, iv 3, rv b1, iv 2] [(.int 2), (.ref b1)]
  refine OGo.st (fun _ kz => XS.aloadN X9.here hx rfl (hb hby d19_17) rfl rfl kz) ?_
  show OG p e below Φ T9 m 18 #[rv a, iv 2, iv 3, rv b1, iv 2] [(.ref a), (.int 2), (.ref b1)]
  refine OGo.st (fun _ kz => XS.iloadN X9.here hx rfl (hb hby d19_18) rfl kz) ?_
  show OG p e below Φ T9 m 19 #[rv a, iv 2, iv 3, rv b1, iv 2] [(.int 2), (.ref a), (.int 2), (.ref b1)]
  obtain ⟨cl12, Aq12, -, S12, M12, H12, -⟩ := id F10
  have in12 : ¬ ((2 : Int32) < 0 ∨ cl12.slots.size ≤ (2 : Int32).toNatClampNeg) := inb_of S12 ⟨by decide, by decide⟩
  have at12 : cl12.slots[(2 : Int32).toNatClampNeg]? = some (.int c2_) := H12.at in12 rfl
  refine OGo.st (fun _ kz => X9.caload hx Aq12.1 (State.isArrayOf_alike hZ.alike Aq12.2.1) Aq12.2.2 in12 at12 (g := (mkF m 19 #[rv a, iv 2, iv 3, rv b1, iv 2] [(.int 2), (.ref a), (.int 2), (.ref b1)])) rfl rfl (hb hby d19_19) _ kz) ?_
  show OG p e below Φ T9 m 20 #[rv a, iv 2, iv 3, rv b1, iv 2] [(.int c2_), (.int 2), (.ref b1)]
  obtain ⟨_, T13, L13, X13, hQ13, st13⟩ := own_callSt X9 hx hZ hown (ow114 hw) (ow115 hw) (ow36 hw) (ow116 hw) (by decide) (rsb3_1pc2 l Z a0 hw [] b1 cb1 c0_ c1_ c2_ T9.heap n0 Zs9 Vq9 gq1 (S_ad.ext F11.2) (S_hb.ext F11.2) (S_lb.ext F11.2)) rfl (W := 0) (by decide) (by decide) (by decide) (by decide) (pc := 20) (ls := #[rv a, iv 2, iv 3, rv b1, iv 2]) (stk := [(.int c2_), (.int 2), (.ref b1)]) (by rw [hml]; rfl) (argsL := [(.ref b1), (.int 2), (.int c2_)]) (rest := []) (lenOf pd6 rfl) rfl rfl (Nat.le_of_eq rfl) (hb hby d19_20)
  obtain ⟨rfl, Nq13, Kq13, Vq13⟩ := hQ13
  have N13 := Fr.app N9 Nq13
  have Zs13 : n0 ≤ T13.heap.size := Nat.le_trans Zs9 Kq13.1
  have F14 := F10.keep Kq13 (ninS nq1_a nin0)
  have F15 := F11.keep Kq13 (allS gq1 all0)
  have K13 := K9.trans Kq13 (allS (Or.inr sq1) all0)
  refine OGo.st st13 ?_
  show OG p e below Φ T13 m 23 #[rv a, iv 2, iv 3, rv b1, iv 2] []
  refine OGo.st (fun _ kz => XS.iinc X13.here hx rfl (hb hby d19_23) rfl (l' := #[rv a, iv ((2 : Int32) + (1 : Int32)), iv 3, rv b1, iv 2]) rfl kz) ?_
  show OG p e below Φ T13 m 26 #[rv a, iv 3, iv 3, rv b1, iv 2] []
  refine OGo.st (fun _ kz => XS.iinc X13.here hx rfl (hb hby d19_26) rfl (l' := #[rv a, iv 3, iv 3, rv b1, iv ((2 : Int32) + (1 : Int32))]) rfl kz) ?_
  show OG p e below Φ T13 m 29 #[rv a, iv 3, iv 3, rv b1, iv 3] []
  refine OGo.st (fun _ kz => XS.goto X13.here hx rfl (pc0 := 29) (pc' := 8) rfl (hb hby d19_29) (by decide) (by decide) kz) ?_
  show OG p e below Φ T13 m 8 #[rv a, iv 3, iv 3, rv b1, iv 3] []
  refine OGo.st (fun _ kz => XS.iload X13.here hx rfl (hb hby d19_8) rfl kz) ?_
  show OG p e below Φ T13 m 10 #[rv a, iv 3, iv 3, rv b1, iv 3] [(.int 3)]
  refine OGo.st (fun _ kz => XS.iloadN X13.here hx rfl (hb hby d19_10) rfl kz) ?_
  show OG p e below Φ T13 m 11 #[rv a, iv 3, iv 3, rv b1, iv 3] [(.int 3), (.int 3)]
  refine OGo.st (fun _ kz => XS.icmpYes X13.here hx rfl (pc0 := 11) (pc' := 32) rfl (hb hby d19_11) rfl (XT.ii_ge_t (by decide)) (by decide) (by decide) kz) ?_
  show OG p e below Φ T13 m 32 #[rv a, iv 3, iv 3, rv b1, iv 3] []
  refine OGo.st (fun _ kz => XS.aloadN X13.here hx rfl (hb hby d19_32) rfl rfl kz) ?_
  show OG p e below Φ T13 m 33 #[rv a, iv 3, iv 3, rv b1, iv 3] [(.ref b1)]
  refine OGo.fin X13 hlk (v := (some (.ref b1))) (fun h => by rw [hret] at h; cases h) (by decide) (by decide) (fun fs hr => X13.areturnOut hx rfl hret rfl (hb hby d19_33) hr) fun U eU hF => hΦ _ _ _ ?_ hF
  rw [eU]
  show Q_rsb3_1tb Z a ca c0_ c1_ c2_ h0 n0 _ _ _
  exact ⟨_, _, rfl, N13, K13, Vq13, sq1⟩

theorem ef_rsb3_1gc (m : MethodId) (x0 : Addr) (x1 : Int32) : entryFrame m #[(.ref x0), (.int x1)] 2 = mkF m 0 #[.val (.ref x0), .val (.int x1)] [] := by first | (simp [entryFrame, mkF, argsToLocals, Value.category]; done) | rfl
def Q_rsb3_1gc (Z : State) (b : Addr) (cb : ClassId) (c0_ : Int32) (c1_ : Int32) (c2_ : Int32) (h0 : Heap) (n0 : Nat) (v : Option Value) (h : Heap) (L : List Loc) : Prop := v = some (.int c1_) ∧ Fr n0 L ∧ h = h0
set_option maxRecDepth 65536 in
set_option maxHeartbeats 40000000 in
theorem rsb3_1gc (l : Launch) (Z : State) (a0 : Array Value) (hw : ∀ d ∈ tables_1, d.before a0 Z = true) (ws : List Jvm.Cond) (b : Addr) (cb : ClassId) (c0_ : Int32) (c1_ : Int32) (c2_ : Int32) (h0 : Heap) (n0 : Nat) (Z0 : n0 ≤ h0.size) (V_b : Arv Z h0 b cb .byte (6 : Int32) [(.int (nar .byte (c0_ >>> (0 &&& 31)).toInt8.toInt32)), (.int (nar .byte (c0_ >>> (8 &&& 31)).toInt8.toInt32)), (.int (nar .byte (c1_ >>> (0 &&& 31)).toInt8.toInt32)), (.int (nar .byte (c1_ >>> (8 &&& 31)).toInt8.toInt32)), (.int (nar .byte (c2_ >>> (0 &&& 31)).toInt8.toInt32)), (.int (nar .byte (c2_ >>> (8 &&& 31)).toInt8.toInt32))] (.int (0 : Int32))) (S_ad : Sta Z h0 "java/lang/StringUTF16" "$assertionsDisabled" "Z" (.int (1 : Int32))) (S_hb : Sta Z h0 "java/lang/StringUTF16" "HI_BYTE_SHIFT" "I" (.int (0 : Int32))) (S_lb : Sta Z h0 "java/lang/StringUTF16" "LO_BYTE_SHIFT" "I" (.int (8 : Int32))) (hr1 : nar .char c1_ = c1_) :
    OCon l Z (⟨"java/lang/StringUTF16", "getChar", "([BI)C"⟩ : MethodName) jdk_52_method_5_code 2 (some .char) ws ({ frames := 0, cells := 0, slots := 0, locals := 0 } : Room) #[(.ref b), (.int (1 : Int32))] h0 (Q_rsb3_1gc Z b cb c0_ c1_ c2_ h0 n0) := by
  refine OCon.of (plainFor_of_name pn1) ?_
  intro p e s m below meth c s₁ Φ X0 hx hby hml hown hnm hret hlk hZ e0 hΦ
  have N0 := Fr.nil n0
  refine OGo.st (fun _ kz => castTop (ef_rsb3_1gc m b (1 : Int32)) kz) ?_
  show OG p e below Φ s₁ m 0 #[rv b, iv 1] []
  obtain ⟨T1, X1, e1, st1⟩ := getS2 X0 hx hZ hown (host := "") (Or.inl (ow117 hw)) Via.refl e0 S_ad (g := (mkF m 0 #[rv b, iv 1] [])) rfl (hb hby d23_0)
  refine OGo.st st1 ?_
  show OG p e below Φ T1 m 3 #[rv b, iv 1] [(.int 1)]
  refine OGo.st (fun _ kz => XS.ifYes X1.here hx rfl (pc0 := 3) (pc' := 28) rfl (hb hby d23_3) rfl (XT.i0_ne_t (by decide)) (by decide) (by decide) kz) ?_
  show OG p e below Φ T1 m 28 #[rv b, iv 1] []
  refine OGo.st (fun _ kz => XS.iloadN X1.here hx rfl (hb hby d23_28) rfl kz) ?_
  show OG p e below Φ T1 m 29 #[rv b, iv 1] [(.int 1)]
  refine OGo.st (fun _ kz => XS.iconst X1.here hx rfl (hb hby d23_29) kz) ?_
  show OG p e below Φ T1 m 30 #[rv b, iv 1] [(.int 1), (.int 1)]
  refine OGo.st (fun _ kz => XT.ishl X1.here hx rfl (hb hby d23_30) rfl kz) ?_
  show OG p e below Φ T1 m 31 #[rv b, iv 1] [(.int 2)]
  refine OGo.st (fun _ kz => XS.istoreN X1.here hx rfl (hb hby d23_31) rfl (l' := #[rv b, iv 2]) rfl kz) ?_
  show OG p e below Φ T1 m 32 #[rv b, iv 2] []
  refine OGo.st (fun _ kz => XS.aloadN X1.here hx rfl (hb hby d23_32) rfl rfl kz) ?_
  show OG p e below Φ T1 m 33 #[rv b, iv 2] [(.ref b)]
  refine OGo.st (fun _ kz => XS.iloadN X1.here hx rfl (hb hby d23_33) rfl kz) ?_
  show OG p e below Φ T1 m 34 #[rv b, iv 2] [(.int 2), (.ref b)]
  refine OGo.st (fun _ kz => XS.iinc X1.here hx rfl (hb hby d23_34) rfl (l' := #[rv b, iv ((2 : Int32) + (1 : Int32))]) rfl kz) ?_
  show OG p e below Φ T1 m 37 #[rv b, iv 3] [(.int 2), (.ref b)]
  obtain ⟨cl2, Aq2, -, S2, M2, H2, -⟩ := id V_b
  have in2 : ¬ ((2 : Int32) < 0 ∨ cl2.slots.size ≤ (2 : Int32).toNatClampNeg) := inb_of S2 ⟨by decide, by decide⟩
  have at2 : cl2.slots[(2 : Int32).toNatClampNeg]? = some (.int (nar .byte (c1_ >>> (0 &&& 31)).toInt8.toInt32)) := H2.at in2 rfl
  refine OGo.st (fun _ kz => X1.baloadBytes hx (by rw [e1]; exact Aq2.1) (State.isArrayOf_alike hZ.alike Aq2.2.1) Aq2.2.2 in2 at2 (g := (mkF m 37 #[rv b, iv 3] [(.int 2), (.ref b)])) rfl rfl (hb hby d23_37) _ kz) ?_
  show OG p e below Φ T1 m 38 #[rv b, iv 3] [(.int (nar .byte (c1_ >>> (0 &&& 31)).toInt8.toInt32))]
  refine OGo.st (fun _ kz => XS.sipush X1.here hx rfl (hb hby d23_38) kz) ?_
  show OG p e below Φ T1 m 41 #[rv b, iv 3] [(.int 255), (.int (nar .byte (c1_ >>> (0 &&& 31)).toInt8.toInt32))]
  refine OGo.st (fun _ kz => XS.iand X1.here hx rfl (hb hby d23_41) rfl kz) ?_
  show OG p e below Φ T1 m 42 #[rv b, iv 3] [(.int ((nar .byte (c1_ >>> (0 &&& 31)).toInt8.toInt32) &&& (255 : Int32)))]
  obtain ⟨T3, X3, e3, st3⟩ := getS2 X1 hx hZ hown (host := "") (Or.inl (ow118 hw)) Via.refl e1 S_hb (g := (mkF m 42 #[rv b, iv 3] [(.int ((nar .byte (c1_ >>> (0 &&& 31)).toInt8.toInt32) &&& (255 : Int32)))])) rfl (hb hby d23_42)
  refine OGo.st st3 ?_
  show OG p e below Φ T3 m 45 #[rv b, iv 3] [(.int 0), (.int ((nar .byte (c1_ >>> (0 &&& 31)).toInt8.toInt32) &&& (255 : Int32)))]
  refine OGo.st (fun _ kz => XT.ishl X3.here hx rfl (hb hby d23_45) rfl kz) ?_
  show OG p e below Φ T3 m 46 #[rv b, iv 3] [(.int (((nar .byte (c1_ >>> (0 &&& 31)).toInt8.toInt32) &&& (255 : Int32)) <<< ((0 : Int32) &&& 31)))]
  refine OGo.st (fun _ kz => XS.aloadN X3.here hx rfl (hb hby d23_46) rfl rfl kz) ?_
  show OG p e below Φ T3 m 47 #[rv b, iv 3] [(.ref b), (.int (((nar .byte (c1_ >>> (0 &&& 31)).toInt8.toInt32) &&& (255 : Int32)) <<< ((0 : Int32) &&& 31)))]
  refine OGo.st (fun _ kz => XS.iloadN X3.here hx rfl (hb hby d23_47) rfl kz) ?_
  show OG p e below Φ T3 m 48 #[rv b, iv 3] [(.int 3), (.ref b), (.int (((nar .byte (c1_ >>> (0 &&& 31)).toInt8.toInt32) &&& (255 : Int32)) <<< ((0 : Int32) &&& 31)))]
  obtain ⟨cl4, Aq4, -, S4, M4, H4, -⟩ := id V_b
  have in4 : ¬ ((3 : Int32) < 0 ∨ cl4.slots.size ≤ (3 : Int32).toNatClampNeg) := inb_of S4 ⟨by decide, by decide⟩
  have at4 : cl4.slots[(3 : Int32).toNatClampNeg]? = some (.int (nar .byte (c1_ >>> (8 &&& 31)).toInt8.toInt32)) := H4.at in4 rfl
  refine OGo.st (fun _ kz => X3.baloadBytes hx (by rw [e3]; exact Aq4.1) (State.isArrayOf_alike hZ.alike Aq4.2.1) Aq4.2.2 in4 at4 (g := (mkF m 48 #[rv b, iv 3] [(.int 3), (.ref b), (.int (((nar .byte (c1_ >>> (0 &&& 31)).toInt8.toInt32) &&& (255 : Int32)) <<< ((0 : Int32) &&& 31)))])) rfl rfl (hb hby d23_48) _ kz) ?_
  show OG p e below Φ T3 m 49 #[rv b, iv 3] [(.int (nar .byte (c1_ >>> (8 &&& 31)).toInt8.toInt32)), (.int (((nar .byte (c1_ >>> (0 &&& 31)).toInt8.toInt32) &&& (255 : Int32)) <<< ((0 : Int32) &&& 31)))]
  refine OGo.st (fun _ kz => XS.sipush X3.here hx rfl (hb hby d23_49) kz) ?_
  show OG p e below Φ T3 m 52 #[rv b, iv 3] [(.int 255), (.int (nar .byte (c1_ >>> (8 &&& 31)).toInt8.toInt32)), (.int (((nar .byte (c1_ >>> (0 &&& 31)).toInt8.toInt32) &&& (255 : Int32)) <<< ((0 : Int32) &&& 31)))]
  refine OGo.st (fun _ kz => XS.iand X3.here hx rfl (hb hby d23_52) rfl kz) ?_
  show OG p e below Φ T3 m 53 #[rv b, iv 3] [(.int ((nar .byte (c1_ >>> (8 &&& 31)).toInt8.toInt32) &&& (255 : Int32))), (.int (((nar .byte (c1_ >>> (0 &&& 31)).toInt8.toInt32) &&& (255 : Int32)) <<< ((0 : Int32) &&& 31)))]
  obtain ⟨T5, X5, e5, st5⟩ := getS2 X3 hx hZ hown (host := "") (Or.inl (ow119 hw)) Via.refl e3 S_lb (g := (mkF m 53 #[rv b, iv 3] [(.int ((nar .byte (c1_ >>> (8 &&& 31)).toInt8.toInt32) &&& (255 : Int32))), (.int (((nar .byte (c1_ >>> (0 &&& 31)).toInt8.toInt32) &&& (255 : Int32)) <<< ((0 : Int32) &&& 31)))])) rfl (hb hby d23_53)
  refine OGo.st st5 ?_
  show OG p e below Φ T5 m 56 #[rv b, iv 3] [(.int 8), (.int ((nar .byte (c1_ >>> (8 &&& 31)).toInt8.toInt32) &&& (255 : Int32))), (.int (((nar .byte (c1_ >>> (0 &&& 31)).toInt8.toInt32) &&& (255 : Int32)) <<< ((0 : Int32) &&& 31)))]
  refine OGo.st (fun _ kz => XT.ishl X5.here hx rfl (hb hby d23_56) rfl kz) ?_
  show OG p e below Φ T5 m 57 #[rv b, iv 3] [(.int (((nar .byte (c1_ >>> (8 &&& 31)).toInt8.toInt32) &&& (255 : Int32)) <<< ((8 : Int32) &&& 31))), (.int (((nar .byte (c1_ >>> (0 &&& 31)).toInt8.toInt32) &&& (255 : Int32)) <<< ((0 : Int32) &&& 31)))]
  refine OGo.st (fun _ kz => XT.ior X5.here hx rfl (hb hby d23_57) rfl kz) ?_
  show OG p e below Φ T5 m 58 #[rv b, iv 3] [(.int ((((nar .byte (c1_ >>> (0 &&& 31)).toInt8.toInt32) &&& (255 : Int32)) <<< ((0 : Int32) &&& 31)) ||| (((nar .byte (c1_ >>> (8 &&& 31)).toInt8.toInt32) &&& (255 : Int32)) <<< ((8 : Int32) &&& 31))))]
  refine OGo.st (fun _ kz => XT.i2c X5.here hx rfl (hb hby d23_58) rfl kz) ?_
  show OG p e below Φ T5 m 59 #[rv b, iv 3] [(.int (((((nar .byte (c1_ >>> (0 &&& 31)).toInt8.toInt32) &&& (255 : Int32)) <<< ((0 : Int32) &&& 31)) ||| (((nar .byte (c1_ >>> (8 &&& 31)).toInt8.toInt32) &&& (255 : Int32)) <<< ((8 : Int32) &&& 31))).toUInt32.toUInt16.toUInt32.toInt32))]
  refine OGo.fin X5 hlk (v := (some (.int (((((nar .byte (c1_ >>> (0 &&& 31)).toInt8.toInt32) &&& (255 : Int32)) <<< ((0 : Int32) &&& 31)) ||| (((nar .byte (c1_ >>> (8 &&& 31)).toInt8.toInt32) &&& (255 : Int32)) <<< ((8 : Int32) &&& 31))).toUInt32.toUInt16.toUInt32.toInt32)))) (fun h => by rw [hret] at h; cases h) (by decide) (by decide) (fun fs hr => X5.ireturnOut hx hret (XT.narrow_c _) (by simp) (hb hby d23_59) hr) fun U eU hF => hΦ _ _ _ ?_ hF
  rw [eU, e5]
  show Q_rsb3_1gc Z b cb c0_ c1_ c2_ h0 n0 _ _ _
  rw [own_gc _ hr1]
  exact ⟨rfl, N0, rfl⟩

theorem ef_rsb3_1c3 (m : MethodId) (x0 : Addr) (x1 : Int32) (x2 : Int32) : entryFrame m #[(.ref x0), (.int x1), (.int x2)] 6 = mkF m 0 #[.val (.ref x0), .val (.int x1), .val (.int x2), .unset, .unset, .unset] [] := by first | (simp [entryFrame, mkF, argsToLocals, Value.category]; done) | rfl
def Q_rsb3_1c3 (Z : State) (a : Addr) (ca : ClassId) (c0_ : Int32) (c1_ : Int32) (c2_ : Int32) (h0 : Heap) (n0 : Nat) (v : Option Value) (h : Heap) (L : List Loc) : Prop := ∃ b cb, v = some (.ref b) ∧ Fr n0 L ∧ Keep h0 h [] ∧ Arv Z h b cb .byte (6 : Int32) [(.int (nar .byte (c0_ >>> (0 &&& 31)).toInt8.toInt32)), (.int (nar .byte (c0_ >>> (8 &&& 31)).toInt8.toInt32)), (.int (nar .byte (c1_ >>> (0 &&& 31)).toInt8.toInt32)), (.int (nar .byte (c1_ >>> (8 &&& 31)).toInt8.toInt32)), (.int (nar .byte (c2_ >>> (0 &&& 31)).toInt8.toInt32)), (.int (nar .byte (c2_ >>> (8 &&& 31)).toInt8.toInt32))] (.int (0 : Int32)) ∧ h0.size ≤ b
set_option maxRecDepth 65536 in
set_option maxHeartbeats 40000000 in
theorem rsb3_1c3 (l : Launch) (Z : State) (a0 : Array Value) (hw : ∀ d ∈ tables_1, d.before a0 Z = true) (ws : List Jvm.Cond) (a : Addr) (ca : ClassId) (c0_ : Int32) (c1_ : Int32) (c2_ : Int32) (h0 : Heap) (n0 : Nat) (Z0 : n0 ≤ h0.size) (V_a : Arv Z h0 a ca .char (3 : Int32) [(.int c0_), (.int c1_), (.int c2_)] (.int (0 : Int32))) (O_0 : Old Z n0 h0) (S_ad : Sta Z Z.heap "java/lang/StringUTF16" "$assertionsDisabled" "Z" (.int (1 : Int32))) (S_hb : Sta Z Z.heap "java/lang/StringUTF16" "HI_BYTE_SHIFT" "I" (.int (0 : Int32))) (S_lb : Sta Z Z.heap "java/lang/StringUTF16" "LO_BYTE_SHIFT" "I" (.int (8 : Int32))) (hl0 : ¬ (255 : Int32) < c0_) (hb1 : (255 : Int32) < c1_) (hr1 : nar .char c1_ = c1_) :
    OCon l Z (⟨"java/lang/StringUTF16", "compress", "([CII)[B"⟩ : MethodName) jdk_52_method_16_code 6 (some (.array .byte)) ws ({ frames := 3, cells := 2, slots := 9, locals := 40 } : Room) #[(.ref a), (.int (0 : Int32)), (.int (3 : Int32))] h0 (Q_rsb3_1c3 Z a ca c0_ c1_ c2_ h0 n0) := by
  refine OCon.of (plainFor_of_name pn1) ?_
  intro p e s m below meth c s₁ Φ X0 hx hby hml hown hnm hret hlk hZ e0 hΦ
  have N0 := Fr.nil n0
  refine OGo.st (fun _ kz => castTop (ef_rsb3_1c3 m a (0 : Int32) (3 : Int32)) kz) ?_
  have K0 := Keep.refl h0 []
  show OG p e below Φ s₁ m 0 #[rv a, iv 0, iv 3, .unset, .unset, .unset] []
  refine OGo.st (fun _ kz => XS.iloadN X0.here hx rfl (hb hby d6_0) rfl kz) ?_
  show OG p e below Φ s₁ m 1 #[rv a, iv 0, iv 3, .unset, .unset, .unset] [(.int 3)]
  obtain ⟨T1, h1, c1, X1, e1, E1, Ar1, st1⟩ := newP (aty := .byte) X0 hx hZ (ow26 hw) e0 (g := (mkF m 1 #[rv a, iv 0, iv 3, .unset, .unset, .unset] [(.int 3)])) rfl (hb hby d6_1) rfl (by decide) (cap := 3) (by decide) (by decide) (by decide) (by decide)
  obtain ⟨b1, g1⟩ : ∃ z, z = h0.size := ⟨_, rfl⟩
  rw [← g1] at Ar1 st1
  have ne1_a : a ≠ b1 := by rw [g1]; exact Nat.ne_of_lt V_a.lt
  have F2 := V_a.ext E1
  have F3 := O_0.ext E1
  have gb1 : n0 ≤ b1 := Nat.le_trans Z0 (Nat.le_of_eq g1.symm)
  have sz1 : h0.size ≤ b1 := Nat.le_trans K0.1 (Nat.le_of_eq g1.symm)
  have K1 := K0.ext E1
  have Zs1 : n0 ≤ h1.size := Nat.le_trans Z0 E1.1
  have V1 : Arv Z h1 b1 c1 .byte (3 : Int32) [(.int (0 : Int32)), (.int (0 : Int32)), (.int (0 : Int32))] (.int (0 : Int32)) := (Arv.new Ar1 (by decide)).pad (pad_rep [] _ 3)
  refine OGo.st st1 ?_
  show OG p e below Φ T1 m 3 #[rv a, iv 0, iv 3, .unset, .unset, .unset] [(.ref b1)]
  refine OGo.st (fun _ kz => XS.astoreN X1.here hx rfl (hb hby d6_3) rfl rfl (l' := #[rv a, iv 0, iv 3, rv b1, .unset, .unset]) rfl kz) ?_
  show OG p e below Φ T1 m 4 #[rv a, iv 0, iv 3, rv b1, .unset, .unset] []
  refine OGo.st (fun _ kz => XS.aloadN X1.here hx rfl (hb hby d6_4) rfl rfl kz) ?_
  show OG p e below Φ T1 m 5 #[rv a, iv 0, iv 3, rv b1, .unset, .unset] [(.ref a)]
  refine OGo.st (fun _ kz => XS.iloadN X1.here hx rfl (hb hby d6_5) rfl kz) ?_
  show OG p e below Φ T1 m 6 #[rv a, iv 0, iv 3, rv b1, .unset, .unset] [(.int 0), (.ref a)]
  refine OGo.st (fun _ kz => XS.aloadN X1.here hx rfl (hb hby d6_6) rfl rfl kz) ?_
  show OG p e below Φ T1 m 7 #[rv a, iv 0, iv 3, rv b1, .unset, .unset] [(.ref b1), (.int 0), (.ref a)]
  refine OGo.st (fun _ kz => XS.iconst X1.here hx rfl (hb hby d6_7) kz) ?_
  show OG p e below Φ T1 m 8 #[rv a, iv 0, iv 3, rv b1, .unset, .unset] [(.int 0), (.ref b1), (.int 0), (.ref a)]
  refine OGo.st (fun _ kz => XS.iloadN X1.here hx rfl (hb hby d6_8) rfl kz) ?_
  show OG p e below Φ T1 m 9 #[rv a, iv 0, iv 3, rv b1, .unset, .unset] [(.int 3), (.int 0), (.ref b1), (.int 0), (.ref a)]
  obtain ⟨_, T4, L4, X4, hQ4, st4⟩ := own_callSt X1 hx hZ hown (ow38 hw) (ow39 hw) (ow36 hw) (ow40 hw) (by decide) (rsb3_1c2 l Z a0 hw [] a ca b1 c1 c0_ c1_ c2_ h1 n0 Zs1 F2 V1 ne1_a gb1 hl0 hb1) e1 (W := 0) (by decide) (by decide) (by decide) (by decide) (pc := 9) (ls := #[rv a, iv 0, iv 3, rv b1, .unset, .unset]) (stk := [(.int 3), (.int 0), (.ref b1), (.int 0), (.ref a)]) (by rw [hml]; rfl) (argsL := [(.ref a), (.int 0), (.ref b1), (.int 0), (.int 3)]) (rest := []) (lenOf pd1 rfl) rfl rfl (Nat.le_of_eq rfl) (hb hby d6_9)
  obtain ⟨rfl, Nq4, Kq4⟩ := hQ4
  have N4 := Fr.app N0 Nq4
  have Zs4 : n0 ≤ T4.heap.size := Nat.le_trans Zs1 Kq4.1
  have F5 := F2.keep Kq4 (ninS ne1_a nin0)
  have F6 := F3.keep Kq4 (allS gb1 all0)
  have K4 := K1.trans Kq4 (allS (Or.inr sz1) all0)
  refine OGo.st st4 ?_
  show OG p e below Φ T4 m 12 #[rv a, iv 0, iv 3, rv b1, .unset, .unset] [(.int 1)]
  refine OGo.st (fun _ kz => XS.istore X4.here hx rfl (hb hby d6_12) rfl (l' := #[rv a, iv 0, iv 3, rv b1, iv 1, .unset]) rfl kz) ?_
  show OG p e below Φ T4 m 14 #[rv a, iv 0, iv 3, rv b1, iv 1, .unset] []
  refine OGo.st (fun _ kz => XS.iload X4.here hx rfl (hb hby d6_14) rfl kz) ?_
  show OG p e below Φ T4 m 16 #[rv a, iv 0, iv 3, rv b1, iv 1, .unset] [(.int 1)]
  refine OGo.st (fun _ kz => XS.iloadN X4.here hx rfl (hb hby d6_16) rfl kz) ?_
  show OG p e below Φ T4 m 17 #[rv a, iv 0, iv 3, rv b1, iv 1, .unset] [(.int 3), (.int 1)]
  refine OGo.st (fun _ kz => XS.icmpNo X4.here hx rfl (hb hby d6_17) rfl (XT.ii_eq_f (by decide)) kz) ?_
  show OG p e below Φ T4 m 20 #[rv a, iv 0, iv 3, rv b1, iv 1, .unset] []
  refine OGo.st (fun _ kz => XS.aloadN X4.here hx rfl (hb hby d6_20) rfl rfl kz) ?_
  show OG p e below Φ T4 m 21 #[rv a, iv 0, iv 3, rv b1, iv 1, .unset] [(.ref a)]
  refine OGo.st (fun _ kz => XS.iloadN X4.here hx rfl (hb hby d6_21) rfl kz) ?_
  show OG p e below Φ T4 m 22 #[rv a, iv 0, iv 3, rv b1, iv 1, .unset] [(.int 0), (.ref a)]
  refine OGo.st (fun _ kz => XS.iloadN X4.here hx rfl (hb hby d6_22) rfl kz) ?_
  show OG p e below Φ T4 m 23 #[rv a, iv 0, iv 3, rv b1, iv 1, .unset] [(.int 3), (.int 0), (.ref a)]
  obtain ⟨_, T7, L7, X7, hQ7, st7⟩ := own_callSt X4 hx hZ hown (ow104 hw) (ow105 hw) (ow36 hw) (ow106 hw) (by decide) (rsb3_1tb l Z a0 hw [] a ca c0_ c1_ c2_ T4.heap n0 Zs4 F5 F6 S_ad S_hb S_lb) rfl (W := 0) (by decide) (by decide) (by decide) (by decide) (pc := 23) (ls := #[rv a, iv 0, iv 3, rv b1, iv 1, .unset]) (stk := [(.int 3), (.int 0), (.ref a)]) (by rw [hml]; rfl) (argsL := [(.ref a), (.int 0), (.int 3)]) (rest := []) (lenOf pd2 rfl) rfl rfl (Nat.le_of_eq rfl) (hb hby d6_23)
  obtain ⟨b7, cb7, rfl, Nq7, Kq7, Vq7, hz7⟩ := hQ7
  have nq7_a : a ≠ b7 := Nat.ne_of_lt (Nat.lt_of_lt_of_le F5.lt hz7)
  have gq7 : n0 ≤ b7 := Nat.le_trans Zs4 hz7
  have sq7 : h0.size ≤ b7 := Nat.le_trans K4.1 hz7
  have N7 := Fr.app N4 Nq7
  have Zs7 : n0 ≤ T7.heap.size := Nat.le_trans Zs4 Kq7.1
  have F8 := F5.keep Kq7 nin0
  have F9 := F6.keep Kq7 all0
  have K7 := K4.trans Kq7 all0
  refine OGo.st st7 ?_
  show OG p e below Φ T7 m 26 #[rv a, iv 0, iv 3, rv b1, iv 1, .unset] [(.ref b7)]
  refine OGo.st (fun _ kz => XS.astore X7.here hx rfl (hb hby d6_26) rfl rfl (l' := #[rv a, iv 0, iv 3, rv b1, iv 1, rv b7]) rfl kz) ?_
  show OG p e below Φ T7 m 28 #[rv a, iv 0, iv 3, rv b1, iv 1, rv b7] []
  refine OGo.st (fun _ kz => XS.aload X7.here hx rfl (hb hby d6_28) rfl rfl kz) ?_
  show OG p e below Φ T7 m 30 #[rv a, iv 0, iv 3, rv b1, iv 1, rv b7] [(.ref b7)]
  refine OGo.st (fun _ kz => XS.iload X7.here hx rfl (hb hby d6_30) rfl kz) ?_
  show OG p e below Φ T7 m 32 #[rv a, iv 0, iv 3, rv b1, iv 1, rv b7] [(.int 1), (.ref b7)]
  obtain ⟨_, T10, L10, X10, hQ10, st10⟩ := own_callSt X7 hx hZ hown (ow120 hw) (ow121 hw) (ow36 hw) (ow122 hw) (by decide) (rsb3_1gc l Z a0 hw [] b7 cb7 c0_ c1_ c2_ T7.heap n0 Zs7 Vq7 (S_ad.ext F9.2) (S_hb.ext F9.2) (S_lb.ext F9.2) hr1) rfl (W := 0) (by decide) (by decide) (by decide) (by decide) (pc := 32) (ls := #[rv a, iv 0, iv 3, rv b1, iv 1, rv b7]) (stk := [(.int 1), (.ref b7)]) (by rw [hml]; rfl) (argsL := [(.ref b7), (.int 1)]) (rest := []) (lenOf pd7 rfl) rfl rfl (Nat.le_of_eq rfl) (hb hby d6_32)
  obtain ⟨rfl, Nq10, e10⟩ := hQ10
  have N10 := Fr.app N7 Nq10
  refine OGo.st st10 ?_
  show OG p e below Φ T10 m 35 #[rv a, iv 0, iv 3, rv b1, iv 1, rv b7] [(.int c1_)]
  refine OGo.st (fun _ kz => XS.sipush X10.here hx rfl (hb hby d6_35) kz) ?_
  show OG p e below Φ T10 m 38 #[rv a, iv 0, iv 3, rv b1, iv 1, rv b7] [(.int 255), (.int c1_)]
  refine OGo.st (fun _ kz => XS.icmpYes X10.here hx rfl (pc0 := 38) (pc' := 54) rfl (hb hby d6_38) rfl (XT.ii_gt_t hb1) (by decide) (by decide) kz) ?_
  show OG p e below Φ T10 m 54 #[rv a, iv 0, iv 3, rv b1, iv 1, rv b7] []
  refine OGo.st (fun _ kz => XS.aload X10.here hx rfl (hb hby d6_54) rfl rfl kz) ?_
  show OG p e below Φ T10 m 56 #[rv a, iv 0, iv 3, rv b1, iv 1, rv b7] [(.ref b7)]
  refine OGo.fin X10 hlk (v := (some (.ref b7))) (fun h => by rw [hret] at h; cases h) (by decide) (by decide) (fun fs hr => X10.areturnOut hx rfl hret rfl (hb hby d6_56) hr) fun U eU hF => hΦ _ _ _ ?_ hF
  rw [eU, e10]
  show Q_rsb3_1c3 Z a ca c0_ c1_ c2_ h0 n0 _ _ _
  exact ⟨_, _, rfl, N10, K7, Vq7, sq7⟩

theorem ef_rsb3_1cf (m : MethodId) (x0 : Addr) (x1 : Int32) : entryFrame m #[(.ref x0), (.int x1)] 2 = mkF m 0 #[.val (.ref x0), .val (.int x1)] [] := by first | (simp [entryFrame, mkF, argsToLocals, Value.category]; done) | rfl
def Q_rsb3_1cf (Z : State) (b : Addr) (cb : ClassId) (c0_ : Int32) (c1_ : Int32) (c2_ : Int32) (h0 : Heap) (n0 : Nat) (v : Option Value) (h : Heap) (L : List Loc) : Prop := v = some (.int (1 : Int32)) ∧ Fr n0 L ∧ h = h0
set_option maxRecDepth 65536 in
set_option maxHeartbeats 40000000 in
theorem rsb3_1cf (l : Launch) (Z : State) (a0 : Array Value) (hw : ∀ d ∈ tables_1, d.before a0 Z = true) (ws : List Jvm.Cond) (b : Addr) (cb : ClassId) (c0_ : Int32) (c1_ : Int32) (c2_ : Int32) (h0 : Heap) (n0 : Nat) (Z0 : n0 ≤ h0.size) (V_b : Arv Z h0 b cb .byte (6 : Int32) [(.int (nar .byte (c0_ >>> (0 &&& 31)).toInt8.toInt32)), (.int (nar .byte (c0_ >>> (8 &&& 31)).toInt8.toInt32)), (.int (nar .byte (c1_ >>> (0 &&& 31)).toInt8.toInt32)), (.int (nar .byte (c1_ >>> (8 &&& 31)).toInt8.toInt32)), (.int (nar .byte (c2_ >>> (0 &&& 31)).toInt8.toInt32)), (.int (nar .byte (c2_ >>> (8 &&& 31)).toInt8.toInt32))] (.int (0 : Int32))) :
    OCon l Z (⟨"java/lang/StringUTF16", "coderFromArrayLen", "([BI)B"⟩ : MethodName) jdk_52_method_15_code 2 (some .byte) ws ({ frames := 0, cells := 0, slots := 0, locals := 0 } : Room) #[(.ref b), (.int (3 : Int32))] h0 (Q_rsb3_1cf Z b cb c0_ c1_ c2_ h0 n0) := by
  refine OCon.of (plainFor_of_name pn1) ?_
  intro p e s m below meth c s₁ Φ X0 hx hby hml hown hnm hret hlk hZ e0 hΦ
  have N0 := Fr.nil n0
  refine OGo.st (fun _ kz => castTop (ef_rsb3_1cf m b (3 : Int32)) kz) ?_
  show OG p e below Φ s₁ m 0 #[rv b, iv 3] []
  refine OGo.st (fun _ kz => XS.iloadN X0.here hx rfl (hb hby d8_0) rfl kz) ?_
  show OG p e below Φ s₁ m 1 #[rv b, iv 3] [(.int 3)]
  refine OGo.st (fun _ kz => XS.aloadN X0.here hx rfl (hb hby d8_1) rfl rfl kz) ?_
  show OG p e below Φ s₁ m 2 #[rv b, iv 3] [(.ref b), (.int 3)]
  obtain ⟨cl1, Aq1, -, S1, M1, -, -⟩ := id V_b
  refine OGo.st (fun _ kz => X0.arraylength hx (by rw [e0]; exact Aq1.1) (State.isArrayOf_alike hZ.alike Aq1.2.1) (g := (mkF m 2 #[rv b, iv 3] [(.ref b), (.int 3)])) rfl rfl (hb hby d8_2) _ kz) ?_
  rw [len_of S1 M1]
  show OG p e below Φ s₁ m 3 #[rv b, iv 3] [(.int 6), (.int 3)]
  refine OGo.st (fun _ kz => XS.isub X0.here hx rfl (hb hby d8_3) rfl kz) ?_
  show OG p e below Φ s₁ m 4 #[rv b, iv 3] [(.int (-3))]
  refine OGo.st (fun _ kz => XS.bipush X0.here hx rfl (hb hby d8_4) kz) ?_
  show OG p e below Φ s₁ m 6 #[rv b, iv 3] [(.int 31), (.int (-3))]
  refine OGo.st (fun _ kz => XT.iushr X0.here hx rfl (hb hby d8_6) rfl kz) ?_
  show OG p e below Φ s₁ m 7 #[rv b, iv 3] [(.int 1)]
  refine OGo.st (fun _ kz => XT.i2b X0.here hx rfl (hb hby d8_7) rfl kz) ?_
  show OG p e below Φ s₁ m 8 #[rv b, iv 3] [(.int 1)]
  refine OGo.fin X0 hlk (v := (some (.int 1))) (fun h => by rw [hret] at h; cases h) (by decide) (by decide) (fun fs hr => X0.ireturnOut hx hret rfl (by simp) (hb hby d8_8) hr) fun U eU hF => hΦ _ _ _ ?_ hF
  rw [eU, e0]
  show Q_rsb3_1cf Z b cb c0_ c1_ c2_ h0 n0 _ _ _
  exact ⟨rfl, N0, rfl⟩

theorem ef_rsb3_1i4 (m : MethodId) (x0 : Addr) (x1 : Addr) (x2 : Int32) (x3 : Int32) : entryFrame m #[(.ref x0), (.ref x1), (.int x2), (.int x3), .null] 6 = mkF m 0 #[.val (.ref x0), .val (.ref x1), .val (.int x2), .val (.int x3), .val .null, .unset] [] := by first | (simp [entryFrame, mkF, argsToLocals, Value.category]; done) | rfl
def Q_rsb3_1i4 (Z : State) (s_ : Addr) (a : Addr) (ca : ClassId) (qc : Int32) (c0_ : Int32) (c1_ : Int32) (c2_ : Int32) (h0 : Heap) (n0 : Nat) (v : Option Value) (h : Heap) (L : List Loc) : Prop := v = none ∧ Fr n0 L ∧ Keep h0 h [s_] ∧ Exa Z h s_ "java/lang/String" ∧ ∃ b cb, Fld Z h s_ "java/lang/String" "value" "[B" (.ref b) ∧ Fld Z h s_ "java/lang/String" "coder" "B" (.int (1 : Int32)) ∧ Arv Z h b cb .byte (6 : Int32) [(.int (nar .byte (c0_ >>> (0 &&& 31)).toInt8.toInt32)), (.int (nar .byte (c0_ >>> (8 &&& 31)).toInt8.toInt32)), (.int (nar .byte (c1_ >>> (0 &&& 31)).toInt8.toInt32)), (.int (nar .byte (c1_ >>> (8 &&& 31)).toInt8.toInt32)), (.int (nar .byte (c2_ >>> (0 &&& 31)).toInt8.toInt32)), (.int (nar .byte (c2_ >>> (8 &&& 31)).toInt8.toInt32))] (.int (0 : Int32)) ∧ h0.size ≤ b
set_option maxRecDepth 65536 in
set_option maxHeartbeats 40000000 in
theorem rsb3_1i4 (l : Launch) (Z : State) (a0 : Array Value) (hw : ∀ d ∈ tables_1, d.before a0 Z = true) (ws : List Jvm.Cond) (s_ : Addr) (a : Addr) (ca : ClassId) (qc : Int32) (c0_ : Int32) (c1_ : Int32) (c2_ : Int32) (h0 : Heap) (n0 : Nat) (Z0 : n0 ≤ h0.size) (E_s : Exa Z h0 s_ "java/lang/String") (g_s : n0 ≤ s_) (F_v : Fld Z h0 s_ "java/lang/String" "value" "[B" .null) (F_c : Fld Z h0 s_ "java/lang/String" "coder" "B" (.int (0 : Int32))) (V_a : Arv Z h0 a ca .char (3 : Int32) [(.int c0_), (.int c1_), (.int c2_)] (.int (0 : Int32))) (nsa : s_ ≠ a) (S_cs : Sta Z Z.heap "java/lang/String" "COMPACT_STRINGS" "Z" (.int qc)) (hq : ¬ qc = 0) (O_0 : Old Z n0 h0) (S_ad : Sta Z Z.heap "java/lang/StringUTF16" "$assertionsDisabled" "Z" (.int (1 : Int32))) (S_hb : Sta Z Z.heap "java/lang/StringUTF16" "HI_BYTE_SHIFT" "I" (.int (0 : Int32))) (S_lb : Sta Z Z.heap "java/lang/StringUTF16" "LO_BYTE_SHIFT" "I" (.int (8 : Int32))) (hl0 : ¬ (255 : Int32) < c0_) (hb1 : (255 : Int32) < c1_) (hr1 : nar .char c1_ = c1_) :
    OCon l Z (⟨"java/lang/String", "<init>", "([CIILjava/lang/Void;)V"⟩ : MethodName) jdk_42_method_149_code 6 none ws ({ frames := 4, cells := 2, slots := 9, locals := 57 } : Room) #[(.ref s_), (.ref a), (.int (0 : Int32)), (.int (3 : Int32)), .null] h0 (Q_rsb3_1i4 Z s_ a ca qc c0_ c1_ c2_ h0 n0) := by
  refine OCon.of (plainFor_of_name pn0) ?_
  intro p e s m below meth c s₁ Φ X0 hx hby hml hown hnm hret hlk hZ e0 hΦ
  have N0 := Fr.nil n0
  refine OGo.st (fun _ kz => castTop (ef_rsb3_1i4 m s_ a (0 : Int32) (3 : Int32)) kz) ?_
  have K0 := Keep.refl h0 [s_]
  show OG p e below Φ s₁ m 0 #[rv s_, rv a, iv 0, iv 3, .val .null, .unset] []
  refine OGo.st (fun _ kz => XS.aloadN X0.here hx rfl (hb hby d4_0) rfl rfl kz) ?_
  show OG p e below Φ s₁ m 1 #[rv s_, rv a, iv 0, iv 3, .val .null, .unset] [(.ref s_)]
  obtain ⟨T1, X1, e1, st1⟩ := initO X0 hx hZ hown (ow22 hw) (ow23 hw) (ow24 hw) e0 (g := (mkF m 1 #[rv s_, rv a, iv 0, iv 3, .val .null, .unset] [(.ref s_)])) rfl (by rw [hml]; rfl) rfl (hb hby d4_1) (by decide) (W := 0) (Nat.le_of_eq rfl) (by decide)
  refine OGo.st st1 ?_
  show OG p e below Φ T1 m 4 #[rv s_, rv a, iv 0, iv 3, .val .null, .unset] []
  refine OGo.st (fun _ kz => XS.iloadN X1.here hx rfl (hb hby d4_4) rfl kz) ?_
  show OG p e below Φ T1 m 5 #[rv s_, rv a, iv 0, iv 3, .val .null, .unset] [(.int 3)]
  refine OGo.st (fun _ kz => XS.ifYes X1.here hx rfl (pc0 := 5) (pc' := 27) rfl (hb hby d4_5) rfl (XT.i0_ne_t (by decide)) (by decide) (by decide) kz) ?_
  show OG p e below Φ T1 m 27 #[rv s_, rv a, iv 0, iv 3, .val .null, .unset] []
  have Sq := S_cs.ext O_0.2
  obtain ⟨T2, X2, e2, st2⟩ := getS2 X1 hx hZ hown (host := "") (Or.inl (ow33 hw)) Via.refl e1 Sq (g := (mkF m 27 #[rv s_, rv a, iv 0, iv 3, .val .null, .unset] [])) rfl (hb hby d4_27)
  refine OGo.st st2 ?_
  show OG p e below Φ T2 m 30 #[rv s_, rv a, iv 0, iv 3, .val .null, .unset] [(.int qc)]
  refine OGo.st (fun _ kz => XS.ifNo X2.here hx rfl (hb hby d4_30) rfl (XT.i0_eq_f hq) kz) ?_
  show OG p e below Φ T2 m 33 #[rv s_, rv a, iv 0, iv 3, .val .null, .unset] []
  refine OGo.st (fun _ kz => XS.aloadN X2.here hx rfl (hb hby d4_33) rfl rfl kz) ?_
  show OG p e below Φ T2 m 34 #[rv s_, rv a, iv 0, iv 3, .val .null, .unset] [(.ref a)]
  refine OGo.st (fun _ kz => XS.iloadN X2.here hx rfl (hb hby d4_34) rfl kz) ?_
  show OG p e below Φ T2 m 35 #[rv s_, rv a, iv 0, iv 3, .val .null, .unset] [(.int 0), (.ref a)]
  refine OGo.st (fun _ kz => XS.iloadN X2.here hx rfl (hb hby d4_35) rfl kz) ?_
  show OG p e below Φ T2 m 36 #[rv s_, rv a, iv 0, iv 3, .val .null, .unset] [(.int 3), (.int 0), (.ref a)]
  obtain ⟨_, T3, L3, X3, hQ3, st3⟩ := own_callSt X2 hx hZ hown (ow34 hw) (ow35 hw) (ow36 hw) (ow37 hw) (by decide) (rsb3_1c3 l Z a0 hw [] a ca c0_ c1_ c2_ h0 n0 Z0 V_a O_0 S_ad S_hb S_lb hl0 hb1 hr1) e2 (W := 0) (by decide) (by decide) (by decide) (by decide) (pc := 36) (ls := #[rv s_, rv a, iv 0, iv 3, .val .null, .unset]) (stk := [(.int 3), (.int 0), (.ref a)]) (by rw [hml]; rfl) (argsL := [(.ref a), (.int 0), (.int 3)]) (rest := []) (lenOf pd2 rfl) rfl rfl (Nat.le_of_eq rfl) (hb hby d4_36)
  obtain ⟨b3, cb3, rfl, Nq3, Kq3, Vq3, hz3⟩ := hQ3
  have nq3_a : a ≠ b3 := Nat.ne_of_lt (Nat.lt_of_lt_of_le V_a.lt hz3)
  have nq3_s_ : s_ ≠ b3 := Nat.ne_of_lt (Nat.lt_of_lt_of_le E_s.lt hz3)
  have gq3 : n0 ≤ b3 := Nat.le_trans Z0 hz3
  have sq3 : h0.size ≤ b3 := Nat.le_trans K0.1 hz3
  have N3 := Fr.app N0 Nq3
  have Zs3 : n0 ≤ T3.heap.size := Nat.le_trans Z0 Kq3.1
  have F4 := E_s.keep Kq3
  have F5 := F_v.keep Kq3 nin0
  have F6 := F_c.keep Kq3 nin0
  have F7 := V_a.keep Kq3 nin0
  have F8 := O_0.keep Kq3 all0
  have K3 := K0.trans Kq3 all0
  refine OGo.st st3 ?_
  show OG p e below Φ T3 m 39 #[rv s_, rv a, iv 0, iv 3, .val .null, .unset] [(.ref b3)]
  refine OGo.st (fun _ kz => XS.astore X3.here hx rfl (hb hby d4_39) rfl rfl (l' := #[rv s_, rv a, iv 0, iv 3, .val .null, rv b3]) rfl kz) ?_
  show OG p e below Φ T3 m 41 #[rv s_, rv a, iv 0, iv 3, .val .null, rv b3] []
  refine OGo.st (fun _ kz => XS.aloadN X3.here hx rfl (hb hby d4_41) rfl rfl kz) ?_
  show OG p e below Φ T3 m 42 #[rv s_, rv a, iv 0, iv 3, .val .null, rv b3] [(.ref s_)]
  refine OGo.st (fun _ kz => XS.aload X3.here hx rfl (hb hby d4_42) rfl rfl kz) ?_
  show OG p e below Φ T3 m 44 #[rv s_, rv a, iv 0, iv 3, .val .null, rv b3] [(.ref b3), (.ref s_)]
  refine OGo.st (fun _ kz => XS.iloadN X3.here hx rfl (hb hby d4_44) rfl kz) ?_
  show OG p e below Φ T3 m 45 #[rv s_, rv a, iv 0, iv 3, .val .null, rv b3] [(.int 3), (.ref b3), (.ref s_)]
  obtain ⟨_, T9, L9, X9, hQ9, st9⟩ := own_callSt X3 hx hZ hown (ow41 hw) (ow42 hw) (ow36 hw) (ow43 hw) (by decide) (rsb3_1cf l Z a0 hw [] b3 cb3 c0_ c1_ c2_ T3.heap n0 Zs3 Vq3) rfl (W := 1) (by decide) (by decide) (by decide) (by decide) (pc := 45) (ls := #[rv s_, rv a, iv 0, iv 3, .val .null, rv b3]) (stk := [(.int 3), (.ref b3), (.ref s_)]) (by rw [hml]; rfl) (argsL := [(.ref b3), (.int 3)]) (rest := [(.ref s_)]) (lenOf pd3 rfl) rfl rfl (Nat.le_of_eq rfl) (hb hby d4_45)
  obtain ⟨rfl, Nq9, e9⟩ := hQ9
  have N9 := Fr.app N3 Nq9
  refine OGo.st st9 ?_
  show OG p e below Φ T9 m 48 #[rv s_, rv a, iv 0, iv 3, .val .null, rv b3] [(.int 1), (.ref s_)]
  obtain ⟨T10, h10, X10, e10, W10, st10⟩ := putF X9 hx hZ hown (host := "") (Or.inl (ow32 hw)) Via.refl e9 F6 F4 (Or.inr ⟨(ow28 hw), rfl, hnm⟩) (ow12 hw) (ty := .byte) (by decide) (by decide) (by decide) (g := (mkF m 48 #[rv s_, rv a, iv 0, iv 3, .val .null, rv b3] [(.int 1), (.ref s_)])) rfl rfl (hb hby d4_48)
  have F11 := F4.wr W10
  have F12 := F5.other W10 (Or.inr (slot_ne (Or.inr (ow27 hw)) (Or.inr (ow28 hw)) (by decide) (t := (.array .byte)) (t' := .byte) (by decide) (by decide)))
  have F13 := F6.same W10
  have F14 := F7.other W10 (Ne.symm nsa)
  have F15 := F8.wr W10 g_s
  have F16 := Vq3.other W10 (Ne.symm nq3_s_)
  have K10 := K3.wr W10 (Or.inl (List.mem_of_getElem? (i := 0) rfl))
  have N10 := Fr.snoc X10 N9 g_s
  have Zs10 : n0 ≤ h10.size := by rw [W10.size]; exact Zs3
  refine OGo.st st10 ?_
  show OG p e below Φ T10 m 51 #[rv s_, rv a, iv 0, iv 3, .val .null, rv b3] []
  refine OGo.st (fun _ kz => XS.aloadN X10.here hx rfl (hb hby d4_51) rfl rfl kz) ?_
  show OG p e below Φ T10 m 52 #[rv s_, rv a, iv 0, iv 3, .val .null, rv b3] [(.ref s_)]
  refine OGo.st (fun _ kz => XS.aload X10.here hx rfl (hb hby d4_52) rfl rfl kz) ?_
  show OG p e below Φ T10 m 54 #[rv s_, rv a, iv 0, iv 3, .val .null, rv b3] [(.ref b3), (.ref s_)]
  obtain ⟨T17, h17, X17, e17, W17, st17⟩ := putF X10 hx hZ hown (host := "") (Or.inl (ow31 hw)) Via.refl e10 F12 F11 (Or.inr ⟨(ow27 hw), rfl, hnm⟩) (ow12 hw) (ty := (.array .byte)) (by decide) rfl rfl (g := (mkF m 54 #[rv s_, rv a, iv 0, iv 3, .val .null, rv b3] [(.ref b3), (.ref s_)])) rfl rfl (hb hby d4_54)
  have F18 := F11.wr W17
  have F19 := F12.same W17
  have F20 := F13.other W17 (Or.inr (slot_ne (Or.inr (ow28 hw)) (Or.inr (ow27 hw)) (by decide) (t := .byte) (t' := (.array .byte)) (by decide) (by decide)))
  have F21 := F14.other W17 (Ne.symm nsa)
  have F22 := F15.wr W17 g_s
  have F23 := F16.other W17 (Ne.symm nq3_s_)
  have K17 := K10.wr W17 (Or.inl (List.mem_of_getElem? (i := 0) rfl))
  have N17 := Fr.snoc X17 N10 g_s
  have Zs17 : n0 ≤ h17.size := by rw [W17.size]; exact Zs10
  refine OGo.st st17 ?_
  show OG p e below Φ T17 m 57 #[rv s_, rv a, iv 0, iv 3, .val .null, rv b3] []
  refine OGo.fin X17 hlk (v := none) (fun _ => rfl) (by decide) (by decide) (fun fs hr => X17.returnOut hx hret (hb hby d4_57) hr) fun U eU hF => hΦ _ _ _ ?_ hF
  rw [eU, e17]
  show Q_rsb3_1i4 Z s_ a ca qc c0_ c1_ c2_ h0 n0 _ _ _
  exact ⟨rfl, N17, K17, F18, _, _, F19, F20, F23, sq3⟩

theorem ef_rsb3_1i1 (m : MethodId) (x0 : Addr) (x1 : Addr) : entryFrame m #[(.ref x0), (.ref x1)] 2 = mkF m 0 #[.val (.ref x0), .val (.ref x1)] [] := by first | (simp [entryFrame, mkF, argsToLocals, Value.category]; done) | rfl
def Q_rsb3_1i1 (Z : State) (s_ : Addr) (a : Addr) (ca : ClassId) (qc : Int32) (c0_ : Int32) (c1_ : Int32) (c2_ : Int32) (h0 : Heap) (n0 : Nat) (v : Option Value) (h : Heap) (L : List Loc) : Prop := v = none ∧ Fr n0 L ∧ Keep h0 h [s_] ∧ Exa Z h s_ "java/lang/String" ∧ ∃ b cb, Fld Z h s_ "java/lang/String" "value" "[B" (.ref b) ∧ Fld Z h s_ "java/lang/String" "coder" "B" (.int (1 : Int32)) ∧ Arv Z h b cb .byte (6 : Int32) [(.int (nar .byte (c0_ >>> (0 &&& 31)).toInt8.toInt32)), (.int (nar .byte (c0_ >>> (8 &&& 31)).toInt8.toInt32)), (.int (nar .byte (c1_ >>> (0 &&& 31)).toInt8.toInt32)), (.int (nar .byte (c1_ >>> (8 &&& 31)).toInt8.toInt32)), (.int (nar .byte (c2_ >>> (0 &&& 31)).toInt8.toInt32)), (.int (nar .byte (c2_ >>> (8 &&& 31)).toInt8.toInt32))] (.int (0 : Int32)) ∧ h0.size ≤ b
set_option maxRecDepth 65536 in
set_option maxHeartbeats 40000000 in
theorem rsb3_1i1 (l : Launch) (Z : State) (a0 : Array Value) (hw : ∀ d ∈ tables_1, d.before a0 Z = true) (ws : List Jvm.Cond) (s_ : Addr) (a : Addr) (ca : ClassId) (qc : Int32) (c0_ : Int32) (c1_ : Int32) (c2_ : Int32) (h0 : Heap) (n0 : Nat) (Z0 : n0 ≤ h0.size) (E_s : Exa Z h0 s_ "java/lang/String") (g_s : n0 ≤ s_) (F_v : Fld Z h0 s_ "java/lang/String" "value" "[B" .null) (F_c : Fld Z h0 s_ "java/lang/String" "coder" "B" (.int (0 : Int32))) (V_a : Arv Z h0 a ca .char (3 : Int32) [(.int c0_), (.int c1_), (.int c2_)] (.int (0 : Int32))) (nsa : s_ ≠ a) (S_cs : Sta Z Z.heap "java/lang/String" "COMPACT_STRINGS" "Z" (.int qc)) (hq : ¬ qc = 0) (O_0 : Old Z n0 h0) (S_ad : Sta Z Z.heap "java/lang/StringUTF16" "$assertionsDisabled" "Z" (.int (1 : Int32))) (S_hb : Sta Z Z.heap "java/lang/StringUTF16" "HI_BYTE_SHIFT" "I" (.int (0 : Int32))) (S_lb : Sta Z Z.heap "java/lang/StringUTF16" "LO_BYTE_SHIFT" "I" (.int (8 : Int32))) (hl0 : ¬ (255 : Int32) < c0_) (hb1 : (255 : Int32) < c1_) (hr1 : nar .char c1_ = c1_) :
    OCon l Z (⟨"java/lang/String", "<init>", "([C)V"⟩ : MethodName) jdk_42_method_3_code 2 none ws ({ frames := 5, cells := 2, slots := 9, locals := 74 } : Room) #[(.ref s_), (.ref a)] h0 (Q_rsb3_1i1 Z s_ a ca qc c0_ c1_ c2_ h0 n0) := by
  refine OCon.of (plainFor_of_name pn0) ?_
  intro p e s m below meth c s₁ Φ X0 hx hby hml hown hnm hret hlk hZ e0 hΦ
  have N0 := Fr.nil n0
  refine OGo.st (fun _ kz => castTop (ef_rsb3_1i1 m s_ a) kz) ?_
  have K0 := Keep.refl h0 [s_]
  show OG p e below Φ s₁ m 0 #[rv s_, rv a] []
  refine OGo.st (fun _ kz => XS.aloadN X0.here hx rfl (hb hby d3_0) rfl rfl kz) ?_
  show OG p e below Φ s₁ m 1 #[rv s_, rv a] [(.ref s_)]
  refine OGo.st (fun _ kz => XS.aloadN X0.here hx rfl (hb hby d3_1) rfl rfl kz) ?_
  show OG p e below Φ s₁ m 2 #[rv s_, rv a] [(.ref a), (.ref s_)]
  refine OGo.st (fun _ kz => XS.iconst X0.here hx rfl (hb hby d3_2) kz) ?_
  show OG p e below Φ s₁ m 3 #[rv s_, rv a] [(.int 0), (.ref a), (.ref s_)]
  refine OGo.st (fun _ kz => XS.aloadN X0.here hx rfl (hb hby d3_3) rfl rfl kz) ?_
  show OG p e below Φ s₁ m 4 #[rv s_, rv a] [(.ref a), (.int 0), (.ref a), (.ref s_)]
  obtain ⟨cl1, Aq1, -, S1, M1, -, -⟩ := id V_a
  refine OGo.st (fun _ kz => X0.arraylength hx (by rw [e0]; exact Aq1.1) (State.isArrayOf_alike hZ.alike Aq1.2.1) (g := (mkF m 4 #[rv s_, rv a] [(.ref a), (.int 0), (.ref a), (.ref s_)])) rfl rfl (hb hby d3_4) _ kz) ?_
  rw [len_of S1 M1]
  show OG p e below Φ s₁ m 5 #[rv s_, rv a] [(.int 3), (.int 0), (.ref a), (.ref s_)]
  refine OGo.st (fun _ kz => XS.aconstNull X0.here hx rfl (hb hby d3_5) kz) ?_
  show OG p e below Φ s₁ m 6 #[rv s_, rv a] [.null, (.int 3), (.int 0), (.ref a), (.ref s_)]
  obtain ⟨_, T2, L2, X2, hQ2, st2⟩ := own_callSp X0 hx hZ rfl hown (ow18 hw) (ow19 hw) (ow13 hw) (ow21 hw) (by decide) (rsb3_1i4 l Z a0 hw [] s_ a ca qc c0_ c1_ c2_ h0 n0 Z0 E_s g_s F_v F_c V_a nsa S_cs hq O_0 S_ad S_hb S_lb hl0 hb1 hr1) e0 (W := 0) (by decide) (by decide) (by decide) (by decide) (pc := 6) (ls := #[rv s_, rv a]) (stk := [.null, (.int 3), (.int 0), (.ref a), (.ref s_)]) (by rw [hml]; rfl) (a := s_) (argsL := [(.ref a), (.int 0), (.int 3), .null]) (rest := []) (lenOf pd0 rfl) rfl rfl (Nat.le_of_eq rfl) (hb hby d3_6)
  obtain ⟨rfl, Nq2, Kq2, Eq2, b2, cb2, Fv2, Fc2, Vq2, hz2⟩ := hQ2
  have nq2_a : a ≠ b2 := Nat.ne_of_lt (Nat.lt_of_lt_of_le V_a.lt hz2)
  have nq2_s_ : s_ ≠ b2 := Nat.ne_of_lt (Nat.lt_of_lt_of_le E_s.lt hz2)
  have gq2 : n0 ≤ b2 := Nat.le_trans Z0 hz2
  have sq2 : h0.size ≤ b2 := Nat.le_trans K0.1 hz2
  have N2 := Fr.app N0 Nq2
  have Zs2 : n0 ≤ T2.heap.size := Nat.le_trans Z0 Kq2.1
  have F3 := V_a.keep Kq2 (ninS (Ne.symm nsa) nin0)
  have F4 := O_0.keep Kq2 (allS g_s all0)
  have K2 := K0.trans Kq2 (allS (Or.inl (List.mem_of_getElem? (i := 0) rfl)) all0)
  refine OGo.st st2 ?_
  show OG p e below Φ T2 m 9 #[rv s_, rv a] []
  refine OGo.fin X2 hlk (v := none) (fun _ => rfl) (by decide) (by decide) (fun fs hr => X2.returnOut hx hret (hb hby d3_9) hr) fun U eU hF => hΦ _ _ _ ?_ hF
  rw [eU]
  show Q_rsb3_1i1 Z s_ a ca qc c0_ c1_ c2_ h0 n0 _ _ _
  exact ⟨rfl, N2, K2, Eq2, _, _, Fv2, Fc2, Vq2, sq2⟩

theorem pn2 : plainName "com/example/zonewright/zonewright/storage/PlanIndexBytesOfPinLaw" = true := by first | (simp [plainName, overriddenIn]; done) | decide +kernel
theorem d2_0 : decode method_3_code 0 = .ok (.iload_n 0, 1) := by decide +kernel
theorem d2_1 : decode method_3_code 1 = .ok (.iconst 3, 1) := by decide +kernel
theorem d2_2 : decode method_3_code 2 = .ok (.iand, 1) := by decide +kernel
theorem d2_3 : decode method_3_code 3 = .ok (.istore_n 1, 1) := by decide +kernel
theorem d2_4 : decode method_3_code 4 = .ok (.iload_n 0, 1) := by decide +kernel
theorem d2_5 : decode method_3_code 5 = .ok (.bipush 16, 2) := by decide +kernel
theorem d2_7 : decode method_3_code 7 = .ok (.iushr, 1) := by decide +kernel
theorem d2_8 : decode method_3_code 8 = .ok (.i2c, 1) := by decide +kernel
theorem d2_9 : decode method_3_code 9 = .ok (.istore_n 2, 1) := by decide +kernel
theorem d2_10 : decode method_3_code 10 = .ok (.iload_n 0, 1) := by decide +kernel
theorem d2_11 : decode method_3_code 11 = .ok (.iconst 2, 1) := by decide +kernel
theorem d2_12 : decode method_3_code 12 = .ok (.iushr, 1) := by decide +kernel
theorem d2_13 : decode method_3_code 13 = .ok (.i2c, 1) := by decide +kernel
theorem d2_14 : decode method_3_code 14 = .ok (.istore_n 3, 1) := by decide +kernel
theorem d2_15 : decode method_3_code 15 = .ok (.iload_n 1, 1) := by decide +kernel
theorem d2_16 : decode method_3_code 16 = .ok (.ifCond .ne 14, 3) := by decide +kernel
theorem d2_19 : decode method_3_code 19 = .ok (.new 7, 3) := by decide +kernel
theorem d2_22 : decode method_3_code 22 = .ok (.dup, 1) := by decide +kernel
theorem d2_23 : decode method_3_code 23 = .ok (.iconst 0, 1) := by decide +kernel
theorem d2_24 : decode method_3_code 24 = .ok (.newarray .char, 2) := by decide +kernel
theorem d2_26 : decode method_3_code 26 = .ok (.invokespecial 9, 3) := by decide +kernel
theorem pd8 : parseMethodDescriptor "([C)V" = some ⟨[(.array .char)], none⟩ := by decide +kernel
theorem d2_29 : decode method_3_code 29 = .ok (.areturn, 1) := by decide +kernel
theorem d2_30 : decode method_3_code 30 = .ok (.iload_n 1, 1) := by decide +kernel
theorem d2_31 : decode method_3_code 31 = .ok (.iconst 1, 1) := by decide +kernel
theorem d2_32 : decode method_3_code 32 = .ok (.if_icmp .ne 18, 3) := by decide +kernel
theorem d2_35 : decode method_3_code 35 = .ok (.new 7, 3) := by decide +kernel
theorem d2_38 : decode method_3_code 38 = .ok (.dup, 1) := by decide +kernel
theorem d2_39 : decode method_3_code 39 = .ok (.iconst 1, 1) := by decide +kernel
theorem d2_40 : decode method_3_code 40 = .ok (.newarray .char, 2) := by decide +kernel
theorem d2_42 : decode method_3_code 42 = .ok (.dup, 1) := by decide +kernel
theorem d2_43 : decode method_3_code 43 = .ok (.iconst 0, 1) := by decide +kernel
theorem d2_44 : decode method_3_code 44 = .ok (.iload_n 2, 1) := by decide +kernel
theorem d2_45 : decode method_3_code 45 = .ok (.castore, 1) := by decide +kernel
theorem d2_46 : decode method_3_code 46 = .ok (.invokespecial 9, 3) := by decide +kernel
theorem d2_49 : decode method_3_code 49 = .ok (.areturn, 1) := by decide +kernel
theorem d2_50 : decode method_3_code 50 = .ok (.iload_n 1, 1) := by decide +kernel
theorem d2_51 : decode method_3_code 51 = .ok (.iconst 2, 1) := by decide +kernel
theorem d2_52 : decode method_3_code 52 = .ok (.if_icmp .ne 22, 3) := by decide +kernel
theorem d2_55 : decode method_3_code 55 = .ok (.new 7, 3) := by decide +kernel
theorem d2_58 : decode method_3_code 58 = .ok (.dup, 1) := by decide +kernel
theorem d2_59 : decode method_3_code 59 = .ok (.iconst 2, 1) := by decide +kernel
theorem d2_60 : decode method_3_code 60 = .ok (.newarray .char, 2) := by decide +kernel
theorem d2_62 : decode method_3_code 62 = .ok (.dup, 1) := by decide +kernel
theorem d2_63 : decode method_3_code 63 = .ok (.iconst 0, 1) := by decide +kernel
theorem d2_64 : decode method_3_code 64 = .ok (.iload_n 2, 1) := by decide +kernel
theorem d2_65 : decode method_3_code 65 = .ok (.castore, 1) := by decide +kernel
theorem d2_66 : decode method_3_code 66 = .ok (.dup, 1) := by decide +kernel
theorem d2_67 : decode method_3_code 67 = .ok (.iconst 1, 1) := by decide +kernel
theorem d2_68 : decode method_3_code 68 = .ok (.iload_n 3, 1) := by decide +kernel
theorem d2_69 : decode method_3_code 69 = .ok (.castore, 1) := by decide +kernel
theorem d2_70 : decode method_3_code 70 = .ok (.invokespecial 9, 3) := by decide +kernel
theorem d2_73 : decode method_3_code 73 = .ok (.areturn, 1) := by decide +kernel
theorem d2_74 : decode method_3_code 74 = .ok (.new 7, 3) := by decide +kernel
theorem d2_77 : decode method_3_code 77 = .ok (.dup, 1) := by decide +kernel
theorem d2_78 : decode method_3_code 78 = .ok (.iconst 3, 1) := by decide +kernel
theorem d2_79 : decode method_3_code 79 = .ok (.newarray .char, 2) := by decide +kernel
theorem d2_81 : decode method_3_code 81 = .ok (.dup, 1) := by decide +kernel
theorem d2_82 : decode method_3_code 82 = .ok (.iconst 0, 1) := by decide +kernel
theorem d2_83 : decode method_3_code 83 = .ok (.iload_n 2, 1) := by decide +kernel
theorem d2_84 : decode method_3_code 84 = .ok (.castore, 1) := by decide +kernel
theorem d2_85 : decode method_3_code 85 = .ok (.dup, 1) := by decide +kernel
theorem d2_86 : decode method_3_code 86 = .ok (.iconst 1, 1) := by decide +kernel
theorem d2_87 : decode method_3_code 87 = .ok (.iload_n 3, 1) := by decide +kernel
theorem d2_88 : decode method_3_code 88 = .ok (.castore, 1) := by decide +kernel
theorem d2_89 : decode method_3_code 89 = .ok (.dup, 1) := by decide +kernel
theorem d2_90 : decode method_3_code 90 = .ok (.iconst 2, 1) := by decide +kernel
theorem d2_91 : decode method_3_code 91 = .ok (.iload_n 2, 1) := by decide +kernel
theorem d2_92 : decode method_3_code 92 = .ok (.castore, 1) := by decide +kernel
theorem d2_93 : decode method_3_code 93 = .ok (.invokespecial 9, 3) := by decide +kernel
theorem d2_96 : decode method_3_code 96 = .ok (.areturn, 1) := by decide +kernel
theorem ef_rstr (m : MethodId) (x0 : Int32) : entryFrame m #[(.int x0)] 4 = mkF m 0 #[.val (.int x0), .unset, .unset, .unset] [] := by first | (simp [entryFrame, mkF, argsToLocals, Value.category]; done) | rfl
def Q_rstr (Z : State) (xx : Int32) (qc : Int32) (h0 : Heap) (n0 : Nat) (v : Option Value) (h : Heap) (L : List Loc) : Prop := ∃ s_, v = some (.ref s_) ∧ Fr n0 L ∧ Keep h0 h [] ∧ OStr Z h s_ (xx &&& 3) ∧ h0.size ≤ s_
set_option maxRecDepth 65536 in
set_option maxHeartbeats 40000000 in
theorem rstr (l : Launch) (Z : State) (a0 : Array Value) (hw : ∀ d ∈ tables_1, d.before a0 Z = true) (ws : List Jvm.Cond) (xx : Int32) (qc : Int32) (h0 : Heap) (n0 : Nat) (Z0 : n0 ≤ h0.size) (O_0 : Old Z n0 h0) (S_cs : Sta Z Z.heap "java/lang/String" "COMPACT_STRINGS" "Z" (.int qc)) (hq : ¬ qc = 0) (S_ad : Sta Z Z.heap "java/lang/StringUTF16" "$assertionsDisabled" "Z" (.int (1 : Int32))) (S_hb : Sta Z Z.heap "java/lang/StringUTF16" "HI_BYTE_SHIFT" "I" (.int (0 : Int32))) (S_lb : Sta Z Z.heap "java/lang/StringUTF16" "LO_BYTE_SHIFT" "I" (.int (8 : Int32))) :
    OConW l Z own_EL (⟨"com/example/zonewright/zonewright/storage/PlanIndexBytesOfPinLaw", "str", "(I)Ljava/lang/String;"⟩ : MethodName) method_3_code 4 (some (.object "java/lang/String")) ws ({ frames := 6, cells := 4, slots := 16, locals := 88 } : Room) #[(.int xx)] h0 [] (Q_rstr Z xx qc h0 n0) := by
  refine OConW.of (plainFor_of_name pn2) ?_
  intro p e s m below meth c s₁ Φ X0 hx hby hml hown hnm hret hlk hZ e0 hS hkk hC hsf hΦ
  have N0 := Fr.nil n0
  refine OGo.st (fun _ kz => castTop (ef_rstr m xx) kz) ?_
  have K0 := Keep.refl h0 []
  show OG p e below Φ s₁ m 0 #[iv xx, .unset, .unset, .unset] []
  refine OGo.st (fun _ kz => XS.iloadN X0.here hx rfl (hb hby d2_0) rfl kz) ?_
  show OG p e below Φ s₁ m 1 #[iv xx, .unset, .unset, .unset] [(.int xx)]
  refine OGo.st (fun _ kz => XS.iconst X0.here hx rfl (hb hby d2_1) kz) ?_
  show OG p e below Φ s₁ m 2 #[iv xx, .unset, .unset, .unset] [(.int 3), (.int xx)]
  refine OGo.st (fun _ kz => XS.iand X0.here hx rfl (hb hby d2_2) rfl kz) ?_
  show OG p e below Φ s₁ m 3 #[iv xx, .unset, .unset, .unset] [(.int (xx &&& (3 : Int32)))]
  refine OGo.st (fun _ kz => XS.istoreN X0.here hx rfl (hb hby d2_3) rfl (l' := #[iv xx, iv (xx &&& (3 : Int32)), .unset, .unset]) rfl kz) ?_
  show OG p e below Φ s₁ m 4 #[iv xx, iv (xx &&& (3 : Int32)), .unset, .unset] []
  rcases own_and3 xx with hk1 | hk1 | hk1 | hk1
  · rw [hk1]
    show OG p e below Φ s₁ m 4 #[iv xx, iv 0, .unset, .unset] []
    refine OGo.st (fun _ kz => XS.iloadN X0.here hx rfl (hb hby d2_4) rfl kz) ?_
    show OG p e below Φ s₁ m 5 #[iv xx, iv 0, .unset, .unset] [(.int xx)]
    refine OGo.st (fun _ kz => XS.bipush X0.here hx rfl (hb hby d2_5) kz) ?_
    show OG p e below Φ s₁ m 7 #[iv xx, iv 0, .unset, .unset] [(.int 16), (.int xx)]
    refine OGo.st (fun _ kz => XT.iushr X0.here hx rfl (hb hby d2_7) rfl kz) ?_
    show OG p e below Φ s₁ m 8 #[iv xx, iv 0, .unset, .unset] [(.int (XT.ushr xx (16 : Int32)))]
    refine OGo.st (fun _ kz => XT.i2c X0.here hx rfl (hb hby d2_8) rfl kz) ?_
    show OG p e below Φ s₁ m 9 #[iv xx, iv 0, .unset, .unset] [(.int ((XT.ushr xx (16 : Int32)).toUInt32.toUInt16.toUInt32.toInt32))]
    refine OGo.st (fun _ kz => XS.istoreN X0.here hx rfl (hb hby d2_9) rfl (l' := #[iv xx, iv 0, iv ((XT.ushr xx (16 : Int32)).toUInt32.toUInt16.toUInt32.toInt32), .unset]) rfl kz) ?_
    show OG p e below Φ s₁ m 10 #[iv xx, iv 0, iv ((XT.ushr xx (16 : Int32)).toUInt32.toUInt16.toUInt32.toInt32), .unset] []
    refine OGo.st (fun _ kz => XS.iloadN X0.here hx rfl (hb hby d2_10) rfl kz) ?_
    show OG p e below Φ s₁ m 11 #[iv xx, iv 0, iv ((XT.ushr xx (16 : Int32)).toUInt32.toUInt16.toUInt32.toInt32), .unset] [(.int xx)]
    refine OGo.st (fun _ kz => XS.iconst X0.here hx rfl (hb hby d2_11) kz) ?_
    show OG p e below Φ s₁ m 12 #[iv xx, iv 0, iv ((XT.ushr xx (16 : Int32)).toUInt32.toUInt16.toUInt32.toInt32), .unset] [(.int 2), (.int xx)]
    refine OGo.st (fun _ kz => XT.iushr X0.here hx rfl (hb hby d2_12) rfl kz) ?_
    show OG p e below Φ s₁ m 13 #[iv xx, iv 0, iv ((XT.ushr xx (16 : Int32)).toUInt32.toUInt16.toUInt32.toInt32), .unset] [(.int (XT.ushr xx (2 : Int32)))]
    refine OGo.st (fun _ kz => XT.i2c X0.here hx rfl (hb hby d2_13) rfl kz) ?_
    show OG p e below Φ s₁ m 14 #[iv xx, iv 0, iv ((XT.ushr xx (16 : Int32)).toUInt32.toUInt16.toUInt32.toInt32), .unset] [(.int ((XT.ushr xx (2 : Int32)).toUInt32.toUInt16.toUInt32.toInt32))]
    refine OGo.st (fun _ kz => XS.istoreN X0.here hx rfl (hb hby d2_14) rfl (l' := #[iv xx, iv 0, iv ((XT.ushr xx (16 : Int32)).toUInt32.toUInt16.toUInt32.toInt32), iv ((XT.ushr xx (2 : Int32)).toUInt32.toUInt16.toUInt32.toInt32)]) rfl kz) ?_
    show OG p e below Φ s₁ m 15 #[iv xx, iv 0, iv ((XT.ushr xx (16 : Int32)).toUInt32.toUInt16.toUInt32.toInt32), iv ((XT.ushr xx (2 : Int32)).toUInt32.toUInt16.toUInt32.toInt32)] []
    refine OGo.st (fun _ kz => XS.iloadN X0.here hx rfl (hb hby d2_15) rfl kz) ?_
    show OG p e below Φ s₁ m 16 #[iv xx, iv 0, iv ((XT.ushr xx (16 : Int32)).toUInt32.toUInt16.toUInt32.toInt32), iv ((XT.ushr xx (2 : Int32)).toUInt32.toUInt16.toUInt32.toInt32)] [(.int 0)]
    refine OGo.st (fun _ kz => XS.ifNo X0.here hx rfl (hb hby d2_16) rfl (XT.i0_ne_f (by decide)) kz) ?_
    show OG p e below Φ s₁ m 19 #[iv xx, iv 0, iv ((XT.ushr xx (16 : Int32)).toUInt32.toUInt16.toUInt32.toInt32), iv ((XT.ushr xx (2 : Int32)).toUInt32.toUInt16.toUInt32.toInt32)] []
    obtain ⟨T2, h2, X2, e2, E2, A2, D2, U2, st2⟩ := newO X0 hx hZ hown (ow11 hw) (ow12 hw) (ow13 hw) e0 (g := (mkF m 19 #[iv xx, iv 0, iv ((XT.ushr xx (16 : Int32)).toUInt32.toUInt16.toUInt32.toInt32), iv ((XT.ushr xx (2 : Int32)).toUInt32.toUInt16.toUInt32.toInt32)] [])) rfl (hb hby d2_19) (by decide) (by decide)
    obtain ⟨b2, g2⟩ : ∃ z, z = h0.size := ⟨_, rfl⟩
    rw [← g2] at A2 D2 st2 U2
    have F3 := O_0.ext E2
    have gb2 : n0 ≤ b2 := Nat.le_trans Z0 (Nat.le_of_eq g2.symm)
    have K2 := K0.ext E2
    have sz2 : h0.size ≤ b2 := Nat.le_trans K0.1 (Nat.le_of_eq g2.symm)
    have Zs2 : n0 ≤ h2.size := Nat.le_trans Z0 E2.1
    have F2_27 : Fld Z h2 b2 "java/lang/String" "value" "[B" .null := D2 (Or.inr (ow27 hw)) (ty := (.array .byte)) (by decide)
    have F2_28 : Fld Z h2 b2 "java/lang/String" "coder" "B" (.int (0 : Int32)) := D2 (Or.inr (ow28 hw)) (ty := .byte) (by decide)
    have hA4 := CHr.ext E2 hC.1
    have sf_b2 := Safe.ext E2 hC.1 (Safe.new (Nat.le_of_eq g2.symm))
    have hkk := Nat.le_trans hkk hA4.2.1
    have hC := hC.trans hA4
    refine OGo.st (st2) ?_
    show OG p e below Φ T2 m 22 #[iv xx, iv 0, iv ((XT.ushr xx (16 : Int32)).toUInt32.toUInt16.toUInt32.toInt32), iv ((XT.ushr xx (2 : Int32)).toUInt32.toUInt16.toUInt32.toInt32)] [(.ref b2)]
    refine OGo.st (fun _ kz => XS.dup X2.here hx rfl (hb hby d2_22) rfl rfl kz) ?_
    show OG p e below Φ T2 m 23 #[iv xx, iv 0, iv ((XT.ushr xx (16 : Int32)).toUInt32.toUInt16.toUInt32.toInt32), iv ((XT.ushr xx (2 : Int32)).toUInt32.toUInt16.toUInt32.toInt32)] [(.ref b2), (.ref b2)]
    refine OGo.st (fun _ kz => XS.iconst X2.here hx rfl (hb hby d2_23) kz) ?_
    show OG p e below Φ T2 m 24 #[iv xx, iv 0, iv ((XT.ushr xx (16 : Int32)).toUInt32.toUInt16.toUInt32.toInt32), iv ((XT.ushr xx (2 : Int32)).toUInt32.toUInt16.toUInt32.toInt32)] [(.int 0), (.ref b2), (.ref b2)]
    obtain ⟨T5, h5, c5, X5, e5, E5, Ar5, st5⟩ := newP (aty := .char) X2 hx hZ (ow14 hw) e2 (g := (mkF m 24 #[iv xx, iv 0, iv ((XT.ushr xx (16 : Int32)).toUInt32.toUInt16.toUInt32.toInt32), iv ((XT.ushr xx (2 : Int32)).toUInt32.toUInt16.toUInt32.toInt32)] [(.int 0), (.ref b2), (.ref b2)])) rfl (hb hby d2_24) rfl (by decide) (cap := 0) (by decide) (by decide) (by decide) (by decide)
    obtain ⟨b5, g5⟩ : ∃ z, z = h2.size := ⟨_, rfl⟩
    rw [← g5] at Ar5 st5
    have ne5_b2 : b2 ≠ b5 := by rw [g5]; exact Nat.ne_of_lt A2.lt
    have F6 := F3.ext E5
    have F7 := A2.ext E5
    have F8 := F2_27.ext E5
    have F9 := F2_28.ext E5
    have gb5 : n0 ≤ b5 := Nat.le_trans Zs2 (Nat.le_of_eq g5.symm)
    have sz5 : h0.size ≤ b5 := Nat.le_trans K2.1 (Nat.le_of_eq g5.symm)
    have K5 := K2.ext E5
    have Zs5 : n0 ≤ h5.size := Nat.le_trans Zs2 E5.1
    have hA10 := CHr.ext E5 hC.1
    have sf_b5 := Safe.ext E5 hC.1 (Safe.new (Nat.le_of_eq g5.symm))
    have sf_b2 := hA10.safe A2.lt sf_b2
    have hkk := Nat.le_trans hkk hA10.2.1
    have hC := hC.trans hA10
    have V5 : Arv Z h5 b5 c5 .char (0 : Int32) [] (.int (0 : Int32)) := (Arv.new Ar5 (by decide)).pad (pad_rep [] _ 0)
    refine OGo.st st5 ?_
    show OG p e below Φ T5 m 26 #[iv xx, iv 0, iv ((XT.ushr xx (16 : Int32)).toUInt32.toUInt16.toUInt32.toInt32), iv ((XT.ushr xx (2 : Int32)).toUInt32.toUInt16.toUInt32.toInt32)] [(.ref b5), (.ref b2), (.ref b2)]
    obtain ⟨_, T11, L11, X11, hQ11, st11, hS, hZ, hown, hB11⟩ := own_callSpW X5 hx hZ rfl hown (ow15 hw) (ow16 hw) (ow13 hw) (ow17 hw) (by decide) (rsee1 l Z a0 hw [] b2 b5 c5 h5 n0 Zs5 F7 gb2 F8 F9 V5 ne5_b2) e5 (W := 1) (by decide) (by decide) (by decide) (by decide) (pc := 26) (ls := #[iv xx, iv 0, iv ((XT.ushr xx (16 : Int32)).toUInt32.toUInt16.toUInt32.toInt32), iv ((XT.ushr xx (2 : Int32)).toUInt32.toUInt16.toUInt32.toInt32)]) (stk := [(.ref b5), (.ref b2), (.ref b2)]) (by rw [hml]; rfl) (a := b2) (argsL := [(.ref b5)]) (rest := [(.ref b2)]) (lenOf pd8 rfl) rfl rfl (Nat.le_of_eq rfl) (hb hby d2_26) hS hkk (own_EW hw) hC (allS ⟨F7.lt, sf_b2⟩ all0)
    obtain ⟨rfl, Nq11, Kq11, Eq11, b11, cb11, Fv11, Fc11, Vq11⟩ := hQ11
    have N11 := Fr.app N0 Nq11
    have Zs11 : n0 ≤ T11.heap.size := Nat.le_trans Zs5 Kq11.1
    have F12 := F6.keep Kq11 (allS gb2 all0)
    have F13 := V5.keep Kq11 (ninS (Ne.symm ne5_b2) nin0)
    have K11 := K5.trans Kq11 (allS (Or.inr sz2) all0)
    have hA14 := hB11
    have sf_b2 := hA14.safe F7.lt sf_b2
    have sf_b5 := hA14.safe V5.lt sf_b5
    have hkk := Nat.le_refl T11.heap.size
    have hC := hC.trans hA14
    refine OGo.st st11 ?_
    show OG p e below Φ T11 m 29 #[iv xx, iv 0, iv ((XT.ushr xx (16 : Int32)).toUInt32.toUInt16.toUInt32.toInt32), iv ((XT.ushr xx (2 : Int32)).toUInt32.toUInt16.toUInt32.toInt32)] [(.ref b2)]
    refine OGo.finW X11 hlk hS rfl hkk (v := (some (.ref b2))) (fun h => by rw [hret] at h; cases h) (by decide) (by decide) hZ (own_EW hw) hC (fun fs hr => X11.areturnOut hx rfl hret rfl (hb hby d2_29) hr) fun U eU hc hF => hΦ _ _ _ ?_ hc hF
    rw [eU]
    show Q_rstr Z xx qc h0 n0 _ _ _
    exact ⟨_, rfl, N11, K11, ⟨Eq11, _, _, _, _, _, Fv11, Fc11, Vq11, by decide, by rw [hk1]; decide⟩, sz2⟩
  · rw [hk1]
    show OG p e below Φ s₁ m 4 #[iv xx, iv 1, .unset, .unset] []
    refine OGo.st (fun _ kz => XS.iloadN X0.here hx rfl (hb hby d2_4) rfl kz) ?_
    show OG p e below Φ s₁ m 5 #[iv xx, iv 1, .unset, .unset] [(.int xx)]
    refine OGo.st (fun _ kz => XS.bipush X0.here hx rfl (hb hby d2_5) kz) ?_
    show OG p e below Φ s₁ m 7 #[iv xx, iv 1, .unset, .unset] [(.int 16), (.int xx)]
    refine OGo.st (fun _ kz => XT.iushr X0.here hx rfl (hb hby d2_7) rfl kz) ?_
    show OG p e below Φ s₁ m 8 #[iv xx, iv 1, .unset, .unset] [(.int (XT.ushr xx (16 : Int32)))]
    refine OGo.st (fun _ kz => XT.i2c X0.here hx rfl (hb hby d2_8) rfl kz) ?_
    show OG p e below Φ s₁ m 9 #[iv xx, iv 1, .unset, .unset] [(.int ((XT.ushr xx (16 : Int32)).toUInt32.toUInt16.toUInt32.toInt32))]
    refine OGo.st (fun _ kz => XS.istoreN X0.here hx rfl (hb hby d2_9) rfl (l' := #[iv xx, iv 1, iv ((XT.ushr xx (16 : Int32)).toUInt32.toUInt16.toUInt32.toInt32), .unset]) rfl kz) ?_
    show OG p e below Φ s₁ m 10 #[iv xx, iv 1, iv ((XT.ushr xx (16 : Int32)).toUInt32.toUInt16.toUInt32.toInt32), .unset] []
    refine OGo.st (fun _ kz => XS.iloadN X0.here hx rfl (hb hby d2_10) rfl kz) ?_
    show OG p e below Φ s₁ m 11 #[iv xx, iv 1, iv ((XT.ushr xx (16 : Int32)).toUInt32.toUInt16.toUInt32.toInt32), .unset] [(.int xx)]
    refine OGo.st (fun _ kz => XS.iconst X0.here hx rfl (hb hby d2_11) kz) ?_
    show OG p e below Φ s₁ m 12 #[iv xx, iv 1, iv ((XT.ushr xx (16 : Int32)).toUInt32.toUInt16.toUInt32.toInt32), .unset] [(.int 2), (.int xx)]
    refine OGo.st (fun _ kz => XT.iushr X0.here hx rfl (hb hby d2_12) rfl kz) ?_
    show OG p e below Φ s₁ m 13 #[iv xx, iv 1, iv ((XT.ushr xx (16 : Int32)).toUInt32.toUInt16.toUInt32.toInt32), .unset] [(.int (XT.ushr xx (2 : Int32)))]
    refine OGo.st (fun _ kz => XT.i2c X0.here hx rfl (hb hby d2_13) rfl kz) ?_
    show OG p e below Φ s₁ m 14 #[iv xx, iv 1, iv ((XT.ushr xx (16 : Int32)).toUInt32.toUInt16.toUInt32.toInt32), .unset] [(.int ((XT.ushr xx (2 : Int32)).toUInt32.toUInt16.toUInt32.toInt32))]
    refine OGo.st (fun _ kz => XS.istoreN X0.here hx rfl (hb hby d2_14) rfl (l' := #[iv xx, iv 1, iv ((XT.ushr xx (16 : Int32)).toUInt32.toUInt16.toUInt32.toInt32), iv ((XT.ushr xx (2 : Int32)).toUInt32.toUInt16.toUInt32.toInt32)]) rfl kz) ?_
    show OG p e below Φ s₁ m 15 #[iv xx, iv 1, iv ((XT.ushr xx (16 : Int32)).toUInt32.toUInt16.toUInt32.toInt32), iv ((XT.ushr xx (2 : Int32)).toUInt32.toUInt16.toUInt32.toInt32)] []
    refine OGo.st (fun _ kz => XS.iloadN X0.here hx rfl (hb hby d2_15) rfl kz) ?_
    show OG p e below Φ s₁ m 16 #[iv xx, iv 1, iv ((XT.ushr xx (16 : Int32)).toUInt32.toUInt16.toUInt32.toInt32), iv ((XT.ushr xx (2 : Int32)).toUInt32.toUInt16.toUInt32.toInt32)] [(.int 1)]
    refine OGo.st (fun _ kz => XS.ifYes X0.here hx rfl (pc0 := 16) (pc' := 30) rfl (hb hby d2_16) rfl (XT.i0_ne_t (by decide)) (by decide) (by decide) kz) ?_
    show OG p e below Φ s₁ m 30 #[iv xx, iv 1, iv ((XT.ushr xx (16 : Int32)).toUInt32.toUInt16.toUInt32.toInt32), iv ((XT.ushr xx (2 : Int32)).toUInt32.toUInt16.toUInt32.toInt32)] []
    refine OGo.st (fun _ kz => XS.iloadN X0.here hx rfl (hb hby d2_30) rfl kz) ?_
    show OG p e below Φ s₁ m 31 #[iv xx, iv 1, iv ((XT.ushr xx (16 : Int32)).toUInt32.toUInt16.toUInt32.toInt32), iv ((XT.ushr xx (2 : Int32)).toUInt32.toUInt16.toUInt32.toInt32)] [(.int 1)]
    refine OGo.st (fun _ kz => XS.iconst X0.here hx rfl (hb hby d2_31) kz) ?_
    show OG p e below Φ s₁ m 32 #[iv xx, iv 1, iv ((XT.ushr xx (16 : Int32)).toUInt32.toUInt16.toUInt32.toInt32), iv ((XT.ushr xx (2 : Int32)).toUInt32.toUInt16.toUInt32.toInt32)] [(.int 1), (.int 1)]
    refine OGo.st (fun _ kz => XS.icmpNo X0.here hx rfl (hb hby d2_32) rfl (XT.ii_ne_f (by decide)) kz) ?_
    show OG p e below Φ s₁ m 35 #[iv xx, iv 1, iv ((XT.ushr xx (16 : Int32)).toUInt32.toUInt16.toUInt32.toInt32), iv ((XT.ushr xx (2 : Int32)).toUInt32.toUInt16.toUInt32.toInt32)] []
    obtain ⟨T15, h15, X15, e15, E15, A15, D15, U15, st15⟩ := newO X0 hx hZ hown (ow11 hw) (ow12 hw) (ow13 hw) e0 (g := (mkF m 35 #[iv xx, iv 1, iv ((XT.ushr xx (16 : Int32)).toUInt32.toUInt16.toUInt32.toInt32), iv ((XT.ushr xx (2 : Int32)).toUInt32.toUInt16.toUInt32.toInt32)] [])) rfl (hb hby d2_35) (by decide) (by decide)
    obtain ⟨b15, g15⟩ : ∃ z, z = h0.size := ⟨_, rfl⟩
    rw [← g15] at A15 D15 st15 U15
    have F16 := O_0.ext E15
    have gb15 : n0 ≤ b15 := Nat.le_trans Z0 (Nat.le_of_eq g15.symm)
    have K15 := K0.ext E15
    have sz15 : h0.size ≤ b15 := Nat.le_trans K0.1 (Nat.le_of_eq g15.symm)
    have Zs15 : n0 ≤ h15.size := Nat.le_trans Z0 E15.1
    have F15_27 : Fld Z h15 b15 "java/lang/String" "value" "[B" .null := D15 (Or.inr (ow27 hw)) (ty := (.array .byte)) (by decide)
    have F15_28 : Fld Z h15 b15 "java/lang/String" "coder" "B" (.int (0 : Int32)) := D15 (Or.inr (ow28 hw)) (ty := .byte) (by decide)
    have hA17 := CHr.ext E15 hC.1
    have sf_b15 := Safe.ext E15 hC.1 (Safe.new (Nat.le_of_eq g15.symm))
    have hkk := Nat.le_trans hkk hA17.2.1
    have hC := hC.trans hA17
    refine OGo.st (st15) ?_
    show OG p e below Φ T15 m 38 #[iv xx, iv 1, iv ((XT.ushr xx (16 : Int32)).toUInt32.toUInt16.toUInt32.toInt32), iv ((XT.ushr xx (2 : Int32)).toUInt32.toUInt16.toUInt32.toInt32)] [(.ref b15)]
    refine OGo.st (fun _ kz => XS.dup X15.here hx rfl (hb hby d2_38) rfl rfl kz) ?_
    show OG p e below Φ T15 m 39 #[iv xx, iv 1, iv ((XT.ushr xx (16 : Int32)).toUInt32.toUInt16.toUInt32.toInt32), iv ((XT.ushr xx (2 : Int32)).toUInt32.toUInt16.toUInt32.toInt32)] [(.ref b15), (.ref b15)]
    refine OGo.st (fun _ kz => XS.iconst X15.here hx rfl (hb hby d2_39) kz) ?_
    show OG p e below Φ T15 m 40 #[iv xx, iv 1, iv ((XT.ushr xx (16 : Int32)).toUInt32.toUInt16.toUInt32.toInt32), iv ((XT.ushr xx (2 : Int32)).toUInt32.toUInt16.toUInt32.toInt32)] [(.int 1), (.ref b15), (.ref b15)]
    obtain ⟨T18, h18, c18, X18, e18, E18, Ar18, st18⟩ := newP (aty := .char) X15 hx hZ (ow14 hw) e15 (g := (mkF m 40 #[iv xx, iv 1, iv ((XT.ushr xx (16 : Int32)).toUInt32.toUInt16.toUInt32.toInt32), iv ((XT.ushr xx (2 : Int32)).toUInt32.toUInt16.toUInt32.toInt32)] [(.int 1), (.ref b15), (.ref b15)])) rfl (hb hby d2_40) rfl (by decide) (cap := 1) (by decide) (by decide) (by decide) (by decide)
    obtain ⟨b18, g18⟩ : ∃ z, z = h15.size := ⟨_, rfl⟩
    rw [← g18] at Ar18 st18
    have ne18_b15 : b15 ≠ b18 := by rw [g18]; exact Nat.ne_of_lt A15.lt
    have F19 := F16.ext E18
    have F20 := A15.ext E18
    have F21 := F15_27.ext E18
    have F22 := F15_28.ext E18
    have gb18 : n0 ≤ b18 := Nat.le_trans Zs15 (Nat.le_of_eq g18.symm)
    have sz18 : h0.size ≤ b18 := Nat.le_trans K15.1 (Nat.le_of_eq g18.symm)
    have K18 := K15.ext E18
    have Zs18 : n0 ≤ h18.size := Nat.le_trans Zs15 E18.1
    have hA23 := CHr.ext E18 hC.1
    have sf_b18 := Safe.ext E18 hC.1 (Safe.new (Nat.le_of_eq g18.symm))
    have sf_b15 := hA23.safe A15.lt sf_b15
    have hkk := Nat.le_trans hkk hA23.2.1
    have hC := hC.trans hA23
    have V18 : Arv Z h18 b18 c18 .char (1 : Int32) [(.int (0 : Int32))] (.int (0 : Int32)) := (Arv.new Ar18 (by decide)).pad (pad_rep [] _ 1)
    refine OGo.st st18 ?_
    show OG p e below Φ T18 m 42 #[iv xx, iv 1, iv ((XT.ushr xx (16 : Int32)).toUInt32.toUInt16.toUInt32.toInt32), iv ((XT.ushr xx (2 : Int32)).toUInt32.toUInt16.toUInt32.toInt32)] [(.ref b18), (.ref b15), (.ref b15)]
    refine OGo.st (fun _ kz => XS.dup X18.here hx rfl (hb hby d2_42) rfl rfl kz) ?_
    show OG p e below Φ T18 m 43 #[iv xx, iv 1, iv ((XT.ushr xx (16 : Int32)).toUInt32.toUInt16.toUInt32.toInt32), iv ((XT.ushr xx (2 : Int32)).toUInt32.toUInt16.toUInt32.toInt32)] [(.ref b18), (.ref b18), (.ref b15), (.ref b15)]
    refine OGo.st (fun _ kz => XS.iconst X18.here hx rfl (hb hby d2_43) kz) ?_
    show OG p e below Φ T18 m 44 #[iv xx, iv 1, iv ((XT.ushr xx (16 : Int32)).toUInt32.toUInt16.toUInt32.toInt32), iv ((XT.ushr xx (2 : Int32)).toUInt32.toUInt16.toUInt32.toInt32)] [(.int 0), (.ref b18), (.ref b18), (.ref b15), (.ref b15)]
    refine OGo.st (fun _ kz => XS.iloadN X18.here hx rfl (hb hby d2_44) rfl kz) ?_
    show OG p e below Φ T18 m 45 #[iv xx, iv 1, iv ((XT.ushr xx (16 : Int32)).toUInt32.toUInt16.toUInt32.toInt32), iv ((XT.ushr xx (2 : Int32)).toUInt32.toUInt16.toUInt32.toInt32)] [(.int ((XT.ushr xx (16 : Int32)).toUInt32.toUInt16.toUInt32.toInt32)), (.int 0), (.ref b18), (.ref b18), (.ref b15), (.ref b15)]
    obtain ⟨cl24, Aq24, Cq24, S24, M24, H24, G24⟩ := id V18
    have in24 : ¬ ((0 : Int32) < 0 ∨ cl24.slots.size ≤ (0 : Int32).toNatClampNeg) := inb_of S24 ⟨by decide, by decide⟩
    obtain ⟨T24, h24, X24, e24, W24, st24⟩ := stC X18 hx hZ e18 Aq24 in24 (g := (mkF m 45 #[iv xx, iv 1, iv ((XT.ushr xx (16 : Int32)).toUInt32.toUInt16.toUInt32.toInt32), iv ((XT.ushr xx (2 : Int32)).toUInt32.toUInt16.toUInt32.toInt32)] [(.int ((XT.ushr xx (16 : Int32)).toUInt32.toUInt16.toUInt32.toInt32)), (.int 0), (.ref b18), (.ref b18), (.ref b15), (.ref b15)])) rfl rfl (hb hby d2_45)
    have W24 : Wr h18 h24 b18 (0 : Int32).toNatClampNeg (.int (nar .char ((XT.ushr xx (16 : Int32)).toUInt32.toUInt16.toUInt32.toInt32))) := W24
    have F25 := F19.wr W24 gb18
    have F26 := F20.wr W24
    have F27 := F21.other W24 (Or.inl ne18_b15)
    have F28 := F22.other W24 (Or.inl ne18_b15)
    have hA29 := CHr.wr W24 sf_b18 hC.1
    have sf_b15 := hA29.safe F20.lt sf_b15
    have sf_b18 := hA29.safe V18.lt sf_b18
    have hkk := Nat.le_trans hkk hA29.2.1
    have hC := hC.trans hA29
    have V24 : Arv Z h24 b18 c18 .char (1 : Int32) [(.int (nar .char ((XT.ushr xx (16 : Int32)).toUInt32.toUInt16.toUInt32.toInt32)))] (.int (0 : Int32)) := Arv.set Aq24 Cq24 S24 M24 H24 G24 (fits_nar_char _) W24 0 (by decide) (by show 0 < 1; decide)
    have K24 := K18.wr W24 (Or.inr sz18)
    have N24 := Fr.snoc X24 N0 gb18
    have Zs24 : n0 ≤ h24.size := by rw [W24.size]; exact Zs18
    refine OGo.st st24 ?_
    show OG p e below Φ T24 m 46 #[iv xx, iv 1, iv ((XT.ushr xx (16 : Int32)).toUInt32.toUInt16.toUInt32.toInt32), iv ((XT.ushr xx (2 : Int32)).toUInt32.toUInt16.toUInt32.toInt32)] [(.ref b18), (.ref b15), (.ref b15)]
    by_cases hc30 : (255 : Int32) < (nar .char ((XT.ushr xx (16 : Int32)).toUInt32.toUInt16.toUInt32.toInt32))
    · show OG p e below Φ T24 m 46 #[iv xx, iv 1, iv ((XT.ushr xx (16 : Int32)).toUInt32.toUInt16.toUInt32.toInt32), iv ((XT.ushr xx (2 : Int32)).toUInt32.toUInt16.toUInt32.toInt32)] [(.ref b18), (.ref b15), (.ref b15)]
      obtain ⟨_, T31, L31, X31, hQ31, st31⟩ := own_callSp X24 hx hZ rfl hown (ow15 hw) (ow16 hw) (ow13 hw) (ow17 hw) (by decide) (rsb1_0i1 l Z a0 hw [] b15 b18 c18 qc (nar .char ((XT.ushr xx (16 : Int32)).toUInt32.toUInt16.toUInt32.toInt32)) h24 n0 Zs24 F26 gb15 F27 F28 V24 ne18_b15 S_cs hq F25 S_ad S_hb S_lb hc30 (own_narnar _)) e24 (W := 1) (by decide) (by decide) (by decide) (by decide) (pc := 46) (ls := #[iv xx, iv 1, iv ((XT.ushr xx (16 : Int32)).toUInt32.toUInt16.toUInt32.toInt32), iv ((XT.ushr xx (2 : Int32)).toUInt32.toUInt16.toUInt32.toInt32)]) (stk := [(.ref b18), (.ref b15), (.ref b15)]) (by rw [hml]; rfl) (a := b15) (argsL := [(.ref b18)]) (rest := [(.ref b15)]) (lenOf pd8 rfl) rfl rfl (Nat.le_of_eq rfl) (hb hby d2_46)
      obtain ⟨rfl, Nq31, Kq31, Eq31, b31, cb31, Fv31, Fc31, Vq31, hz31⟩ := hQ31
      have nq31_b15 : b15 ≠ b31 := Nat.ne_of_lt (Nat.lt_of_lt_of_le F26.lt hz31)
      have nq31_b18 : b18 ≠ b31 := Nat.ne_of_lt (Nat.lt_of_lt_of_le V24.lt hz31)
      have gq31 : n0 ≤ b31 := Nat.le_trans Zs24 hz31
      have sq31 : h0.size ≤ b31 := Nat.le_trans K24.1 hz31
      have N31 := Fr.app N24 Nq31
      have Zs31 : n0 ≤ T31.heap.size := Nat.le_trans Zs24 Kq31.1
      have F32 := F25.keep Kq31 (allS gb15 all0)
      have F33 := V24.keep Kq31 (ninS (Ne.symm ne18_b15) nin0)
      have hA34 := CHr.keep Kq31 (sfS sf_b15 sf0) hC.1
      have sf_b15 := hA34.safe F26.lt sf_b15
      have sf_b18 := hA34.safe V24.lt sf_b18
      have hkk := Nat.le_trans hkk hA34.2.1
      have hC := hC.trans hA34
      have K31 := K24.trans Kq31 (allS (Or.inr sz15) all0)
      refine OGo.st st31 ?_
      show OG p e below Φ T31 m 49 #[iv xx, iv 1, iv ((XT.ushr xx (16 : Int32)).toUInt32.toUInt16.toUInt32.toInt32), iv ((XT.ushr xx (2 : Int32)).toUInt32.toUInt16.toUInt32.toInt32)] [(.ref b15)]
      refine OGo.finW X31 hlk hS rfl hkk (v := (some (.ref b15))) (fun h => by rw [hret] at h; cases h) (by decide) (by decide) hZ (own_EW hw) hC (fun fs hr => X31.areturnOut hx rfl hret rfl (hb hby d2_49) hr) fun U eU hc hF => hΦ _ _ _ ?_ hc hF
      rw [eU]
      show Q_rstr Z xx qc h0 n0 _ _ _
      exact ⟨_, rfl, N31, K31, ⟨Eq31, _, _, _, _, _, Fv31, Fc31, Vq31, by decide, by rw [hk1]; decide⟩, sz15⟩
    · show OG p e below Φ T24 m 46 #[iv xx, iv 1, iv ((XT.ushr xx (16 : Int32)).toUInt32.toUInt16.toUInt32.toInt32), iv ((XT.ushr xx (2 : Int32)).toUInt32.toUInt16.toUInt32.toInt32)] [(.ref b18), (.ref b15), (.ref b15)]
      obtain ⟨_, T35, L35, X35, hQ35, st35⟩ := own_callSp X24 hx hZ rfl hown (ow15 hw) (ow16 hw) (ow13 hw) (ow17 hw) (by decide) (rsl1i1 l Z a0 hw [] b15 b18 c18 qc (nar .char ((XT.ushr xx (16 : Int32)).toUInt32.toUInt16.toUInt32.toInt32)) h24 n0 Zs24 F26 gb15 F27 F28 V24 ne18_b15 (S_cs.ext F25.2) hq hc30) e24 (W := 1) (by decide) (by decide) (by decide) (by decide) (pc := 46) (ls := #[iv xx, iv 1, iv ((XT.ushr xx (16 : Int32)).toUInt32.toUInt16.toUInt32.toInt32), iv ((XT.ushr xx (2 : Int32)).toUInt32.toUInt16.toUInt32.toInt32)]) (stk := [(.ref b18), (.ref b15), (.ref b15)]) (by rw [hml]; rfl) (a := b15) (argsL := [(.ref b18)]) (rest := [(.ref b15)]) (lenOf pd8 rfl) rfl rfl (Nat.le_of_eq rfl) (hb hby d2_46)
      obtain ⟨rfl, Nq35, Kq35, Eq35, b35, cb35, Fv35, Fc35, Vq35, hz35⟩ := hQ35
      have nq35_b15 : b15 ≠ b35 := Nat.ne_of_lt (Nat.lt_of_lt_of_le F26.lt hz35)
      have nq35_b18 : b18 ≠ b35 := Nat.ne_of_lt (Nat.lt_of_lt_of_le V24.lt hz35)
      have gq35 : n0 ≤ b35 := Nat.le_trans Zs24 hz35
      have sq35 : h0.size ≤ b35 := Nat.le_trans K24.1 hz35
      have N35 := Fr.app N24 Nq35
      have Zs35 : n0 ≤ T35.heap.size := Nat.le_trans Zs24 Kq35.1
      have F36 := F25.keep Kq35 (allS gb15 all0)
      have F37 := V24.keep Kq35 (ninS (Ne.symm ne18_b15) nin0)
      have hA38 := CHr.keep Kq35 (sfS sf_b15 sf0) hC.1
      have sf_b15 := hA38.safe F26.lt sf_b15
      have sf_b18 := hA38.safe V24.lt sf_b18
      have hkk := Nat.le_trans hkk hA38.2.1
      have hC := hC.trans hA38
      have K35 := K24.trans Kq35 (allS (Or.inr sz15) all0)
      refine OGo.st st35 ?_
      show OG p e below Φ T35 m 49 #[iv xx, iv 1, iv ((XT.ushr xx (16 : Int32)).toUInt32.toUInt16.toUInt32.toInt32), iv ((XT.ushr xx (2 : Int32)).toUInt32.toUInt16.toUInt32.toInt32)] [(.ref b15)]
      refine OGo.finW X35 hlk hS rfl hkk (v := (some (.ref b15))) (fun h => by rw [hret] at h; cases h) (by decide) (by decide) hZ (own_EW hw) hC (fun fs hr => X35.areturnOut hx rfl hret rfl (hb hby d2_49) hr) fun U eU hc hF => hΦ _ _ _ ?_ hc hF
      rw [eU]
      show Q_rstr Z xx qc h0 n0 _ _ _
      exact ⟨_, rfl, N35, K35, ⟨Eq35, _, _, _, _, _, Fv35, Fc35, Vq35, by decide, by rw [hk1]; decide⟩, sz15⟩
  · rw [hk1]
    show OG p e below Φ s₁ m 4 #[iv xx, iv 2, .unset, .unset] []
    refine OGo.st (fun _ kz => XS.iloadN X0.here hx rfl (hb hby d2_4) rfl kz) ?_
    show OG p e below Φ s₁ m 5 #[iv xx, iv 2, .unset, .unset] [(.int xx)]
    refine OGo.st (fun _ kz => XS.bipush X0.here hx rfl (hb hby d2_5) kz) ?_
    show OG p e below Φ s₁ m 7 #[iv xx, iv 2, .unset, .unset] [(.int 16), (.int xx)]
    refine OGo.st (fun _ kz => XT.iushr X0.here hx rfl (hb hby d2_7) rfl kz) ?_
    show OG p e below Φ s₁ m 8 #[iv xx, iv 2, .unset, .unset] [(.int (XT.ushr xx (16 : Int32)))]
    refine OGo.st (fun _ kz => XT.i2c X0.here hx rfl (hb hby d2_8) rfl kz) ?_
    show OG p e below Φ s₁ m 9 #[iv xx, iv 2, .unset, .unset] [(.int ((XT.ushr xx (16 : Int32)).toUInt32.toUInt16.toUInt32.toInt32))]
    refine OGo.st (fun _ kz => XS.istoreN X0.here hx rfl (hb hby d2_9) rfl (l' := #[iv xx, iv 2, iv ((XT.ushr xx (16 : Int32)).toUInt32.toUInt16.toUInt32.toInt32), .unset]) rfl kz) ?_
    show OG p e below Φ s₁ m 10 #[iv xx, iv 2, iv ((XT.ushr xx (16 : Int32)).toUInt32.toUInt16.toUInt32.toInt32), .unset] []
    refine OGo.st (fun _ kz => XS.iloadN X0.here hx rfl (hb hby d2_10) rfl kz) ?_
    show OG p e below Φ s₁ m 11 #[iv xx, iv 2, iv ((XT.ushr xx (16 : Int32)).toUInt32.toUInt16.toUInt32.toInt32), .unset] [(.int xx)]
    refine OGo.st (fun _ kz => XS.iconst X0.here hx rfl (hb hby d2_11) kz) ?_
    show OG p e below Φ s₁ m 12 #[iv xx, iv 2, iv ((XT.ushr xx (16 : Int32)).toUInt32.toUInt16.toUInt32.toInt32), .unset] [(.int 2), (.int xx)]
    refine OGo.st (fun _ kz => XT.iushr X0.here hx rfl (hb hby d2_12) rfl kz) ?_
    show OG p e below Φ s₁ m 13 #[iv xx, iv 2, iv ((XT.ushr xx (16 : Int32)).toUInt32.toUInt16.toUInt32.toInt32), .unset] [(.int (XT.ushr xx (2 : Int32)))]
    refine OGo.st (fun _ kz => XT.i2c X0.here hx rfl (hb hby d2_13) rfl kz) ?_
    show OG p e below Φ s₁ m 14 #[iv xx, iv 2, iv ((XT.ushr xx (16 : Int32)).toUInt32.toUInt16.toUInt32.toInt32), .unset] [(.int ((XT.ushr xx (2 : Int32)).toUInt32.toUInt16.toUInt32.toInt32))]
    refine OGo.st (fun _ kz => XS.istoreN X0.here hx rfl (hb hby d2_14) rfl (l' := #[iv xx, iv 2, iv ((XT.ushr xx (16 : Int32)).toUInt32.toUInt16.toUInt32.toInt32), iv ((XT.ushr xx (2 : Int32)).toUInt32.toUInt16.toUInt32.toInt32)]) rfl kz) ?_
    show OG p e below Φ s₁ m 15 #[iv xx, iv 2, iv ((XT.ushr xx (16 : Int32)).toUInt32.toUInt16.toUInt32.toInt32), iv ((XT.ushr xx (2 : Int32)).toUInt32.toUInt16.toUInt32.toInt32)] []
    refine OGo.st (fun _ kz => XS.iloadN X0.here hx rfl (hb hby d2_15) rfl kz) ?_
    show OG p e below Φ s₁ m 16 #[iv xx, iv 2, iv ((XT.ushr xx (16 : Int32)).toUInt32.toUInt16.toUInt32.toInt32), iv ((XT.ushr xx (2 : Int32)).toUInt32.toUInt16.toUInt32.toInt32)] [(.int 2)]
    refine OGo.st (fun _ kz => XS.ifYes X0.here hx rfl (pc0 := 16) (pc' := 30) rfl (hb hby d2_16) rfl (XT.i0_ne_t (by decide)) (by decide) (by decide) kz) ?_
    show OG p e below Φ s₁ m 30 #[iv xx, iv 2, iv ((XT.ushr xx (16 : Int32)).toUInt32.toUInt16.toUInt32.toInt32), iv ((XT.ushr xx (2 : Int32)).toUInt32.toUInt16.toUInt32.toInt32)] []
    refine OGo.st (fun _ kz => XS.iloadN X0.here hx rfl (hb hby d2_30) rfl kz) ?_
    show OG p e below Φ s₁ m 31 #[iv xx, iv 2, iv ((XT.ushr xx (16 : Int32)).toUInt32.toUInt16.toUInt32.toInt32), iv ((XT.ushr xx (2 : Int32)).toUInt32.toUInt16.toUInt32.toInt32)] [(.int 2)]
    refine OGo.st (fun _ kz => XS.iconst X0.here hx rfl (hb hby d2_31) kz) ?_
    show OG p e below Φ s₁ m 32 #[iv xx, iv 2, iv ((XT.ushr xx (16 : Int32)).toUInt32.toUInt16.toUInt32.toInt32), iv ((XT.ushr xx (2 : Int32)).toUInt32.toUInt16.toUInt32.toInt32)] [(.int 1), (.int 2)]
    refine OGo.st (fun _ kz => XS.icmpYes X0.here hx rfl (pc0 := 32) (pc' := 50) rfl (hb hby d2_32) rfl (XT.ii_ne_t (by decide)) (by decide) (by decide) kz) ?_
    show OG p e below Φ s₁ m 50 #[iv xx, iv 2, iv ((XT.ushr xx (16 : Int32)).toUInt32.toUInt16.toUInt32.toInt32), iv ((XT.ushr xx (2 : Int32)).toUInt32.toUInt16.toUInt32.toInt32)] []
    refine OGo.st (fun _ kz => XS.iloadN X0.here hx rfl (hb hby d2_50) rfl kz) ?_
    show OG p e below Φ s₁ m 51 #[iv xx, iv 2, iv ((XT.ushr xx (16 : Int32)).toUInt32.toUInt16.toUInt32.toInt32), iv ((XT.ushr xx (2 : Int32)).toUInt32.toUInt16.toUInt32.toInt32)] [(.int 2)]
    refine OGo.st (fun _ kz => XS.iconst X0.here hx rfl (hb hby d2_51) kz) ?_
    show OG p e below Φ s₁ m 52 #[iv xx, iv 2, iv ((XT.ushr xx (16 : Int32)).toUInt32.toUInt16.toUInt32.toInt32), iv ((XT.ushr xx (2 : Int32)).toUInt32.toUInt16.toUInt32.toInt32)] [(.int 2), (.int 2)]
    refine OGo.st (fun _ kz => XS.icmpNo X0.here hx rfl (hb hby d2_52) rfl (XT.ii_ne_f (by decide)) kz) ?_
    show OG p e below Φ s₁ m 55 #[iv xx, iv 2, iv ((XT.ushr xx (16 : Int32)).toUInt32.toUInt16.toUInt32.toInt32), iv ((XT.ushr xx (2 : Int32)).toUInt32.toUInt16.toUInt32.toInt32)] []
    obtain ⟨T39, h39, X39, e39, E39, A39, D39, U39, st39⟩ := newO X0 hx hZ hown (ow11 hw) (ow12 hw) (ow13 hw) e0 (g := (mkF m 55 #[iv xx, iv 2, iv ((XT.ushr xx (16 : Int32)).toUInt32.toUInt16.toUInt32.toInt32), iv ((XT.ushr xx (2 : Int32)).toUInt32.toUInt16.toUInt32.toInt32)] [])) rfl (hb hby d2_55) (by decide) (by decide)
    obtain ⟨b39, g39⟩ : ∃ z, z = h0.size := ⟨_, rfl⟩
    rw [← g39] at A39 D39 st39 U39
    have F40 := O_0.ext E39
    have gb39 : n0 ≤ b39 := Nat.le_trans Z0 (Nat.le_of_eq g39.symm)
    have K39 := K0.ext E39
    have sz39 : h0.size ≤ b39 := Nat.le_trans K0.1 (Nat.le_of_eq g39.symm)
    have Zs39 : n0 ≤ h39.size := Nat.le_trans Z0 E39.1
    have F39_27 : Fld Z h39 b39 "java/lang/String" "value" "[B" .null := D39 (Or.inr (ow27 hw)) (ty := (.array .byte)) (by decide)
    have F39_28 : Fld Z h39 b39 "java/lang/String" "coder" "B" (.int (0 : Int32)) := D39 (Or.inr (ow28 hw)) (ty := .byte) (by decide)
    have hA41 := CHr.ext E39 hC.1
    have sf_b39 := Safe.ext E39 hC.1 (Safe.new (Nat.le_of_eq g39.symm))
    have hkk := Nat.le_trans hkk hA41.2.1
    have hC := hC.trans hA41
    refine OGo.st (st39) ?_
    show OG p e below Φ T39 m 58 #[iv xx, iv 2, iv ((XT.ushr xx (16 : Int32)).toUInt32.toUInt16.toUInt32.toInt32), iv ((XT.ushr xx (2 : Int32)).toUInt32.toUInt16.toUInt32.toInt32)] [(.ref b39)]
    refine OGo.st (fun _ kz => XS.dup X39.here hx rfl (hb hby d2_58) rfl rfl kz) ?_
    show OG p e below Φ T39 m 59 #[iv xx, iv 2, iv ((XT.ushr xx (16 : Int32)).toUInt32.toUInt16.toUInt32.toInt32), iv ((XT.ushr xx (2 : Int32)).toUInt32.toUInt16.toUInt32.toInt32)] [(.ref b39), (.ref b39)]
    refine OGo.st (fun _ kz => XS.iconst X39.here hx rfl (hb hby d2_59) kz) ?_
    show OG p e below Φ T39 m 60 #[iv xx, iv 2, iv ((XT.ushr xx (16 : Int32)).toUInt32.toUInt16.toUInt32.toInt32), iv ((XT.ushr xx (2 : Int32)).toUInt32.toUInt16.toUInt32.toInt32)] [(.int 2), (.ref b39), (.ref b39)]
    obtain ⟨T42, h42, c42, X42, e42, E42, Ar42, st42⟩ := newP (aty := .char) X39 hx hZ (ow14 hw) e39 (g := (mkF m 60 #[iv xx, iv 2, iv ((XT.ushr xx (16 : Int32)).toUInt32.toUInt16.toUInt32.toInt32), iv ((XT.ushr xx (2 : Int32)).toUInt32.toUInt16.toUInt32.toInt32)] [(.int 2), (.ref b39), (.ref b39)])) rfl (hb hby d2_60) rfl (by decide) (cap := 2) (by decide) (by decide) (by decide) (by decide)
    obtain ⟨b42, g42⟩ : ∃ z, z = h39.size := ⟨_, rfl⟩
    rw [← g42] at Ar42 st42
    have ne42_b39 : b39 ≠ b42 := by rw [g42]; exact Nat.ne_of_lt A39.lt
    have F43 := F40.ext E42
    have F44 := A39.ext E42
    have F45 := F39_27.ext E42
    have F46 := F39_28.ext E42
    have gb42 : n0 ≤ b42 := Nat.le_trans Zs39 (Nat.le_of_eq g42.symm)
    have sz42 : h0.size ≤ b42 := Nat.le_trans K39.1 (Nat.le_of_eq g42.symm)
    have K42 := K39.ext E42
    have Zs42 : n0 ≤ h42.size := Nat.le_trans Zs39 E42.1
    have hA47 := CHr.ext E42 hC.1
    have sf_b42 := Safe.ext E42 hC.1 (Safe.new (Nat.le_of_eq g42.symm))
    have sf_b39 := hA47.safe A39.lt sf_b39
    have hkk := Nat.le_trans hkk hA47.2.1
    have hC := hC.trans hA47
    have V42 : Arv Z h42 b42 c42 .char (2 : Int32) [(.int (0 : Int32)), (.int (0 : Int32))] (.int (0 : Int32)) := (Arv.new Ar42 (by decide)).pad (pad_rep [] _ 2)
    refine OGo.st st42 ?_
    show OG p e below Φ T42 m 62 #[iv xx, iv 2, iv ((XT.ushr xx (16 : Int32)).toUInt32.toUInt16.toUInt32.toInt32), iv ((XT.ushr xx (2 : Int32)).toUInt32.toUInt16.toUInt32.toInt32)] [(.ref b42), (.ref b39), (.ref b39)]
    refine OGo.st (fun _ kz => XS.dup X42.here hx rfl (hb hby d2_62) rfl rfl kz) ?_
    show OG p e below Φ T42 m 63 #[iv xx, iv 2, iv ((XT.ushr xx (16 : Int32)).toUInt32.toUInt16.toUInt32.toInt32), iv ((XT.ushr xx (2 : Int32)).toUInt32.toUInt16.toUInt32.toInt32)] [(.ref b42), (.ref b42), (.ref b39), (.ref b39)]
    refine OGo.st (fun _ kz => XS.iconst X42.here hx rfl (hb hby d2_63) kz) ?_
    show OG p e below Φ T42 m 64 #[iv xx, iv 2, iv ((XT.ushr xx (16 : Int32)).toUInt32.toUInt16.toUInt32.toInt32), iv ((XT.ushr xx (2 : Int32)).toUInt32.toUInt16.toUInt32.toInt32)] [(.int 0), (.ref b42), (.ref b42), (.ref b39), (.ref b39)]
    refine OGo.st (fun _ kz => XS.iloadN X42.here hx rfl (hb hby d2_64) rfl kz) ?_
    show OG p e below Φ T42 m 65 #[iv xx, iv 2, iv ((XT.ushr xx (16 : Int32)).toUInt32.toUInt16.toUInt32.toInt32), iv ((XT.ushr xx (2 : Int32)).toUInt32.toUInt16.toUInt32.toInt32)] [(.int ((XT.ushr xx (16 : Int32)).toUInt32.toUInt16.toUInt32.toInt32)), (.int 0), (.ref b42), (.ref b42), (.ref b39), (.ref b39)]
    obtain ⟨cl48, Aq48, Cq48, S48, M48, H48, G48⟩ := id V42
    have in48 : ¬ ((0 : Int32) < 0 ∨ cl48.slots.size ≤ (0 : Int32).toNatClampNeg) := inb_of S48 ⟨by decide, by decide⟩
    obtain ⟨T48, h48, X48, e48, W48, st48⟩ := stC X42 hx hZ e42 Aq48 in48 (g := (mkF m 65 #[iv xx, iv 2, iv ((XT.ushr xx (16 : Int32)).toUInt32.toUInt16.toUInt32.toInt32), iv ((XT.ushr xx (2 : Int32)).toUInt32.toUInt16.toUInt32.toInt32)] [(.int ((XT.ushr xx (16 : Int32)).toUInt32.toUInt16.toUInt32.toInt32)), (.int 0), (.ref b42), (.ref b42), (.ref b39), (.ref b39)])) rfl rfl (hb hby d2_65)
    have W48 : Wr h42 h48 b42 (0 : Int32).toNatClampNeg (.int (nar .char ((XT.ushr xx (16 : Int32)).toUInt32.toUInt16.toUInt32.toInt32))) := W48
    have F49 := F43.wr W48 gb42
    have F50 := F44.wr W48
    have F51 := F45.other W48 (Or.inl ne42_b39)
    have F52 := F46.other W48 (Or.inl ne42_b39)
    have hA53 := CHr.wr W48 sf_b42 hC.1
    have sf_b39 := hA53.safe F44.lt sf_b39
    have sf_b42 := hA53.safe V42.lt sf_b42
    have hkk := Nat.le_trans hkk hA53.2.1
    have hC := hC.trans hA53
    have V48 : Arv Z h48 b42 c42 .char (2 : Int32) [(.int (nar .char ((XT.ushr xx (16 : Int32)).toUInt32.toUInt16.toUInt32.toInt32))), (.int (0 : Int32))] (.int (0 : Int32)) := Arv.set Aq48 Cq48 S48 M48 H48 G48 (fits_nar_char _) W48 0 (by decide) (by show 0 < 2; decide)
    have K48 := K42.wr W48 (Or.inr sz42)
    have N48 := Fr.snoc X48 N0 gb42
    have Zs48 : n0 ≤ h48.size := by rw [W48.size]; exact Zs42
    refine OGo.st st48 ?_
    show OG p e below Φ T48 m 66 #[iv xx, iv 2, iv ((XT.ushr xx (16 : Int32)).toUInt32.toUInt16.toUInt32.toInt32), iv ((XT.ushr xx (2 : Int32)).toUInt32.toUInt16.toUInt32.toInt32)] [(.ref b42), (.ref b39), (.ref b39)]
    refine OGo.st (fun _ kz => XS.dup X48.here hx rfl (hb hby d2_66) rfl rfl kz) ?_
    show OG p e below Φ T48 m 67 #[iv xx, iv 2, iv ((XT.ushr xx (16 : Int32)).toUInt32.toUInt16.toUInt32.toInt32), iv ((XT.ushr xx (2 : Int32)).toUInt32.toUInt16.toUInt32.toInt32)] [(.ref b42), (.ref b42), (.ref b39), (.ref b39)]
    refine OGo.st (fun _ kz => XS.iconst X48.here hx rfl (hb hby d2_67) kz) ?_
    show OG p e below Φ T48 m 68 #[iv xx, iv 2, iv ((XT.ushr xx (16 : Int32)).toUInt32.toUInt16.toUInt32.toInt32), iv ((XT.ushr xx (2 : Int32)).toUInt32.toUInt16.toUInt32.toInt32)] [(.int 1), (.ref b42), (.ref b42), (.ref b39), (.ref b39)]
    refine OGo.st (fun _ kz => XS.iloadN X48.here hx rfl (hb hby d2_68) rfl kz) ?_
    show OG p e below Φ T48 m 69 #[iv xx, iv 2, iv ((XT.ushr xx (16 : Int32)).toUInt32.toUInt16.toUInt32.toInt32), iv ((XT.ushr xx (2 : Int32)).toUInt32.toUInt16.toUInt32.toInt32)] [(.int ((XT.ushr xx (2 : Int32)).toUInt32.toUInt16.toUInt32.toInt32)), (.int 1), (.ref b42), (.ref b42), (.ref b39), (.ref b39)]
    obtain ⟨cl54, Aq54, Cq54, S54, M54, H54, G54⟩ := id V48
    have in54 : ¬ ((1 : Int32) < 0 ∨ cl54.slots.size ≤ (1 : Int32).toNatClampNeg) := inb_of S54 ⟨by decide, by decide⟩
    obtain ⟨T54, h54, X54, e54, W54, st54⟩ := stC X48 hx hZ e48 Aq54 in54 (g := (mkF m 69 #[iv xx, iv 2, iv ((XT.ushr xx (16 : Int32)).toUInt32.toUInt16.toUInt32.toInt32), iv ((XT.ushr xx (2 : Int32)).toUInt32.toUInt16.toUInt32.toInt32)] [(.int ((XT.ushr xx (2 : Int32)).toUInt32.toUInt16.toUInt32.toInt32)), (.int 1), (.ref b42), (.ref b42), (.ref b39), (.ref b39)])) rfl rfl (hb hby d2_69)
    have W54 : Wr h48 h54 b42 (1 : Int32).toNatClampNeg (.int (nar .char ((XT.ushr xx (2 : Int32)).toUInt32.toUInt16.toUInt32.toInt32))) := W54
    have F55 := F49.wr W54 gb42
    have F56 := F50.wr W54
    have F57 := F51.other W54 (Or.inl ne42_b39)
    have F58 := F52.other W54 (Or.inl ne42_b39)
    have hA59 := CHr.wr W54 sf_b42 hC.1
    have sf_b39 := hA59.safe F50.lt sf_b39
    have sf_b42 := hA59.safe V48.lt sf_b42
    have hkk := Nat.le_trans hkk hA59.2.1
    have hC := hC.trans hA59
    have V54 : Arv Z h54 b42 c42 .char (2 : Int32) [(.int (nar .char ((XT.ushr xx (16 : Int32)).toUInt32.toUInt16.toUInt32.toInt32))), (.int (nar .char ((XT.ushr xx (2 : Int32)).toUInt32.toUInt16.toUInt32.toInt32)))] (.int (0 : Int32)) := Arv.set Aq54 Cq54 S54 M54 H54 G54 (fits_nar_char _) W54 1 (by decide) (by show 1 < 2; decide)
    have K54 := K48.wr W54 (Or.inr sz42)
    have N54 := Fr.snoc X54 N48 gb42
    have Zs54 : n0 ≤ h54.size := by rw [W54.size]; exact Zs48
    refine OGo.st st54 ?_
    show OG p e below Φ T54 m 70 #[iv xx, iv 2, iv ((XT.ushr xx (16 : Int32)).toUInt32.toUInt16.toUInt32.toInt32), iv ((XT.ushr xx (2 : Int32)).toUInt32.toUInt16.toUInt32.toInt32)] [(.ref b42), (.ref b39), (.ref b39)]
    by_cases hc60 : (255 : Int32) < (nar .char ((XT.ushr xx (16 : Int32)).toUInt32.toUInt16.toUInt32.toInt32))
    · show OG p e below Φ T54 m 70 #[iv xx, iv 2, iv ((XT.ushr xx (16 : Int32)).toUInt32.toUInt16.toUInt32.toInt32), iv ((XT.ushr xx (2 : Int32)).toUInt32.toUInt16.toUInt32.toInt32)] [(.ref b42), (.ref b39), (.ref b39)]
      obtain ⟨_, T61, L61, X61, hQ61, st61⟩ := own_callSp X54 hx hZ rfl hown (ow15 hw) (ow16 hw) (ow13 hw) (ow17 hw) (by decide) (rsb2_0i1 l Z a0 hw [] b39 b42 c42 qc (nar .char ((XT.ushr xx (16 : Int32)).toUInt32.toUInt16.toUInt32.toInt32)) (nar .char ((XT.ushr xx (2 : Int32)).toUInt32.toUInt16.toUInt32.toInt32)) h54 n0 Zs54 F56 gb39 F57 F58 V54 ne42_b39 S_cs hq F55 S_ad S_hb S_lb hc60 (own_narnar _)) e54 (W := 1) (by decide) (by decide) (by decide) (by decide) (pc := 70) (ls := #[iv xx, iv 2, iv ((XT.ushr xx (16 : Int32)).toUInt32.toUInt16.toUInt32.toInt32), iv ((XT.ushr xx (2 : Int32)).toUInt32.toUInt16.toUInt32.toInt32)]) (stk := [(.ref b42), (.ref b39), (.ref b39)]) (by rw [hml]; rfl) (a := b39) (argsL := [(.ref b42)]) (rest := [(.ref b39)]) (lenOf pd8 rfl) rfl rfl (Nat.le_of_eq rfl) (hb hby d2_70)
      obtain ⟨rfl, Nq61, Kq61, Eq61, b61, cb61, Fv61, Fc61, Vq61, hz61⟩ := hQ61
      have nq61_b39 : b39 ≠ b61 := Nat.ne_of_lt (Nat.lt_of_lt_of_le F56.lt hz61)
      have nq61_b42 : b42 ≠ b61 := Nat.ne_of_lt (Nat.lt_of_lt_of_le V54.lt hz61)
      have gq61 : n0 ≤ b61 := Nat.le_trans Zs54 hz61
      have sq61 : h0.size ≤ b61 := Nat.le_trans K54.1 hz61
      have N61 := Fr.app N54 Nq61
      have Zs61 : n0 ≤ T61.heap.size := Nat.le_trans Zs54 Kq61.1
      have F62 := F55.keep Kq61 (allS gb39 all0)
      have F63 := V54.keep Kq61 (ninS (Ne.symm ne42_b39) nin0)
      have hA64 := CHr.keep Kq61 (sfS sf_b39 sf0) hC.1
      have sf_b39 := hA64.safe F56.lt sf_b39
      have sf_b42 := hA64.safe V54.lt sf_b42
      have hkk := Nat.le_trans hkk hA64.2.1
      have hC := hC.trans hA64
      have K61 := K54.trans Kq61 (allS (Or.inr sz39) all0)
      refine OGo.st st61 ?_
      show OG p e below Φ T61 m 73 #[iv xx, iv 2, iv ((XT.ushr xx (16 : Int32)).toUInt32.toUInt16.toUInt32.toInt32), iv ((XT.ushr xx (2 : Int32)).toUInt32.toUInt16.toUInt32.toInt32)] [(.ref b39)]
      refine OGo.finW X61 hlk hS rfl hkk (v := (some (.ref b39))) (fun h => by rw [hret] at h; cases h) (by decide) (by decide) hZ (own_EW hw) hC (fun fs hr => X61.areturnOut hx rfl hret rfl (hb hby d2_73) hr) fun U eU hc hF => hΦ _ _ _ ?_ hc hF
      rw [eU]
      show Q_rstr Z xx qc h0 n0 _ _ _
      exact ⟨_, rfl, N61, K61, ⟨Eq61, _, _, _, _, _, Fv61, Fc61, Vq61, by decide, by rw [hk1]; decide⟩, sz39⟩
    · show OG p e below Φ T54 m 70 #[iv xx, iv 2, iv ((XT.ushr xx (16 : Int32)).toUInt32.toUInt16.toUInt32.toInt32), iv ((XT.ushr xx (2 : Int32)).toUInt32.toUInt16.toUInt32.toInt32)] [(.ref b42), (.ref b39), (.ref b39)]
      by_cases hc65 : (255 : Int32) < (nar .char ((XT.ushr xx (2 : Int32)).toUInt32.toUInt16.toUInt32.toInt32))
      · show OG p e below Φ T54 m 70 #[iv xx, iv 2, iv ((XT.ushr xx (16 : Int32)).toUInt32.toUInt16.toUInt32.toInt32), iv ((XT.ushr xx (2 : Int32)).toUInt32.toUInt16.toUInt32.toInt32)] [(.ref b42), (.ref b39), (.ref b39)]
        obtain ⟨_, T66, L66, X66, hQ66, st66⟩ := own_callSp X54 hx hZ rfl hown (ow15 hw) (ow16 hw) (ow13 hw) (ow17 hw) (by decide) (rsb2_1i1 l Z a0 hw [] b39 b42 c42 qc (nar .char ((XT.ushr xx (16 : Int32)).toUInt32.toUInt16.toUInt32.toInt32)) (nar .char ((XT.ushr xx (2 : Int32)).toUInt32.toUInt16.toUInt32.toInt32)) h54 n0 Zs54 F56 gb39 F57 F58 V54 ne42_b39 S_cs hq F55 S_ad S_hb S_lb hc60 hc65 (own_narnar _)) e54 (W := 1) (by decide) (by decide) (by decide) (by decide) (pc := 70) (ls := #[iv xx, iv 2, iv ((XT.ushr xx (16 : Int32)).toUInt32.toUInt16.toUInt32.toInt32), iv ((XT.ushr xx (2 : Int32)).toUInt32.toUInt16.toUInt32.toInt32)]) (stk := [(.ref b42), (.ref b39), (.ref b39)]) (by rw [hml]; rfl) (a := b39) (argsL := [(.ref b42)]) (rest := [(.ref b39)]) (lenOf pd8 rfl) rfl rfl (Nat.le_of_eq rfl) (hb hby d2_70)
        obtain ⟨rfl, Nq66, Kq66, Eq66, b66, cb66, Fv66, Fc66, Vq66, hz66⟩ := hQ66
        have nq66_b39 : b39 ≠ b66 := Nat.ne_of_lt (Nat.lt_of_lt_of_le F56.lt hz66)
        have nq66_b42 : b42 ≠ b66 := Nat.ne_of_lt (Nat.lt_of_lt_of_le V54.lt hz66)
        have gq66 : n0 ≤ b66 := Nat.le_trans Zs54 hz66
        have sq66 : h0.size ≤ b66 := Nat.le_trans K54.1 hz66
        have N66 := Fr.app N54 Nq66
        have Zs66 : n0 ≤ T66.heap.size := Nat.le_trans Zs54 Kq66.1
        have F67 := F55.keep Kq66 (allS gb39 all0)
        have F68 := V54.keep Kq66 (ninS (Ne.symm ne42_b39) nin0)
        have hA69 := CHr.keep Kq66 (sfS sf_b39 sf0) hC.1
        have sf_b39 := hA69.safe F56.lt sf_b39
        have sf_b42 := hA69.safe V54.lt sf_b42
        have hkk := Nat.le_trans hkk hA69.2.1
        have hC := hC.trans hA69
        have K66 := K54.trans Kq66 (allS (Or.inr sz39) all0)
        refine OGo.st st66 ?_
        show OG p e below Φ T66 m 73 #[iv xx, iv 2, iv ((XT.ushr xx (16 : Int32)).toUInt32.toUInt16.toUInt32.toInt32), iv ((XT.ushr xx (2 : Int32)).toUInt32.toUInt16.toUInt32.toInt32)] [(.ref b39)]
        refine OGo.finW X66 hlk hS rfl hkk (v := (some (.ref b39))) (fun h => by rw [hret] at h; cases h) (by decide) (by decide) hZ (own_EW hw) hC (fun fs hr => X66.areturnOut hx rfl hret rfl (hb hby d2_73) hr) fun U eU hc hF => hΦ _ _ _ ?_ hc hF
        rw [eU]
        show Q_rstr Z xx qc h0 n0 _ _ _
        exact ⟨_, rfl, N66, K66, ⟨Eq66, _, _, _, _, _, Fv66, Fc66, Vq66, by decide, by rw [hk1]; decide⟩, sz39⟩
      · show OG p e below Φ T54 m 70 #[iv xx, iv 2, iv ((XT.ushr xx (16 : Int32)).toUInt32.toUInt16.toUInt32.toInt32), iv ((XT.ushr xx (2 : Int32)).toUInt32.toUInt16.toUInt32.toInt32)] [(.ref b42), (.ref b39), (.ref b39)]
        obtain ⟨_, T70, L70, X70, hQ70, st70⟩ := own_callSp X54 hx hZ rfl hown (ow15 hw) (ow16 hw) (ow13 hw) (ow17 hw) (by decide) (rsl2i1 l Z a0 hw [] b39 b42 c42 qc (nar .char ((XT.ushr xx (16 : Int32)).toUInt32.toUInt16.toUInt32.toInt32)) (nar .char ((XT.ushr xx (2 : Int32)).toUInt32.toUInt16.toUInt32.toInt32)) h54 n0 Zs54 F56 gb39 F57 F58 V54 ne42_b39 (S_cs.ext F55.2) hq hc60 hc65) e54 (W := 1) (by decide) (by decide) (by decide) (by decide) (pc := 70) (ls := #[iv xx, iv 2, iv ((XT.ushr xx (16 : Int32)).toUInt32.toUInt16.toUInt32.toInt32), iv ((XT.ushr xx (2 : Int32)).toUInt32.toUInt16.toUInt32.toInt32)]) (stk := [(.ref b42), (.ref b39), (.ref b39)]) (by rw [hml]; rfl) (a := b39) (argsL := [(.ref b42)]) (rest := [(.ref b39)]) (lenOf pd8 rfl) rfl rfl (Nat.le_of_eq rfl) (hb hby d2_70)
        obtain ⟨rfl, Nq70, Kq70, Eq70, b70, cb70, Fv70, Fc70, Vq70, hz70⟩ := hQ70
        have nq70_b39 : b39 ≠ b70 := Nat.ne_of_lt (Nat.lt_of_lt_of_le F56.lt hz70)
        have nq70_b42 : b42 ≠ b70 := Nat.ne_of_lt (Nat.lt_of_lt_of_le V54.lt hz70)
        have gq70 : n0 ≤ b70 := Nat.le_trans Zs54 hz70
        have sq70 : h0.size ≤ b70 := Nat.le_trans K54.1 hz70
        have N70 := Fr.app N54 Nq70
        have Zs70 : n0 ≤ T70.heap.size := Nat.le_trans Zs54 Kq70.1
        have F71 := F55.keep Kq70 (allS gb39 all0)
        have F72 := V54.keep Kq70 (ninS (Ne.symm ne42_b39) nin0)
        have hA73 := CHr.keep Kq70 (sfS sf_b39 sf0) hC.1
        have sf_b39 := hA73.safe F56.lt sf_b39
        have sf_b42 := hA73.safe V54.lt sf_b42
        have hkk := Nat.le_trans hkk hA73.2.1
        have hC := hC.trans hA73
        have K70 := K54.trans Kq70 (allS (Or.inr sz39) all0)
        refine OGo.st st70 ?_
        show OG p e below Φ T70 m 73 #[iv xx, iv 2, iv ((XT.ushr xx (16 : Int32)).toUInt32.toUInt16.toUInt32.toInt32), iv ((XT.ushr xx (2 : Int32)).toUInt32.toUInt16.toUInt32.toInt32)] [(.ref b39)]
        refine OGo.finW X70 hlk hS rfl hkk (v := (some (.ref b39))) (fun h => by rw [hret] at h; cases h) (by decide) (by decide) hZ (own_EW hw) hC (fun fs hr => X70.areturnOut hx rfl hret rfl (hb hby d2_73) hr) fun U eU hc hF => hΦ _ _ _ ?_ hc hF
        rw [eU]
        show Q_rstr Z xx qc h0 n0 _ _ _
        exact ⟨_, rfl, N70, K70, ⟨Eq70, _, _, _, _, _, Fv70, Fc70, Vq70, by decide, by rw [hk1]; decide⟩, sz39⟩
  · rw [hk1]
    show OG p e below Φ s₁ m 4 #[iv xx, iv 3, .unset, .unset] []
    refine OGo.st (fun _ kz => XS.iloadN X0.here hx rfl (hb hby d2_4) rfl kz) ?_
    show OG p e below Φ s₁ m 5 #[iv xx, iv 3, .unset, .unset] [(.int xx)]
    refine OGo.st (fun _ kz => XS.bipush X0.here hx rfl (hb hby d2_5) kz) ?_
    show OG p e below Φ s₁ m 7 #[iv xx, iv 3, .unset, .unset] [(.int 16), (.int xx)]
    refine OGo.st (fun _ kz => XT.iushr X0.here hx rfl (hb hby d2_7) rfl kz) ?_
    show OG p e below Φ s₁ m 8 #[iv xx, iv 3, .unset, .unset] [(.int (XT.ushr xx (16 : Int32)))]
    refine OGo.st (fun _ kz => XT.i2c X0.here hx rfl (hb hby d2_8) rfl kz) ?_
    show OG p e below Φ s₁ m 9 #[iv xx, iv 3, .unset, .unset] [(.int ((XT.ushr xx (16 : Int32)).toUInt32.toUInt16.toUInt32.toInt32))]
    refine OGo.st (fun _ kz => XS.istoreN X0.here hx rfl (hb hby d2_9) rfl (l' := #[iv xx, iv 3, iv ((XT.ushr xx (16 : Int32)).toUInt32.toUInt16.toUInt32.toInt32), .unset]) rfl kz) ?_
    show OG p e below Φ s₁ m 10 #[iv xx, iv 3, iv ((XT.ushr xx (16 : Int32)).toUInt32.toUInt16.toUInt32.toInt32), .unset] []
    refine OGo.st (fun _ kz => XS.iloadN X0.here hx rfl (hb hby d2_10) rfl kz) ?_
    show OG p e below Φ s₁ m 11 #[iv xx, iv 3, iv ((XT.ushr xx (16 : Int32)).toUInt32.toUInt16.toUInt32.toInt32), .unset] [(.int xx)]
    refine OGo.st (fun _ kz => XS.iconst X0.here hx rfl (hb hby d2_11) kz) ?_
    show OG p e below Φ s₁ m 12 #[iv xx, iv 3, iv ((XT.ushr xx (16 : Int32)).toUInt32.toUInt16.toUInt32.toInt32), .unset] [(.int 2), (.int xx)]
    refine OGo.st (fun _ kz => XT.iushr X0.here hx rfl (hb hby d2_12) rfl kz) ?_
    show OG p e below Φ s₁ m 13 #[iv xx, iv 3, iv ((XT.ushr xx (16 : Int32)).toUInt32.toUInt16.toUInt32.toInt32), .unset] [(.int (XT.ushr xx (2 : Int32)))]
    refine OGo.st (fun _ kz => XT.i2c X0.here hx rfl (hb hby d2_13) rfl kz) ?_
    show OG p e below Φ s₁ m 14 #[iv xx, iv 3, iv ((XT.ushr xx (16 : Int32)).toUInt32.toUInt16.toUInt32.toInt32), .unset] [(.int ((XT.ushr xx (2 : Int32)).toUInt32.toUInt16.toUInt32.toInt32))]
    refine OGo.st (fun _ kz => XS.istoreN X0.here hx rfl (hb hby d2_14) rfl (l' := #[iv xx, iv 3, iv ((XT.ushr xx (16 : Int32)).toUInt32.toUInt16.toUInt32.toInt32), iv ((XT.ushr xx (2 : Int32)).toUInt32.toUInt16.toUInt32.toInt32)]) rfl kz) ?_
    show OG p e below Φ s₁ m 15 #[iv xx, iv 3, iv ((XT.ushr xx (16 : Int32)).toUInt32.toUInt16.toUInt32.toInt32), iv ((XT.ushr xx (2 : Int32)).toUInt32.toUInt16.toUInt32.toInt32)] []
    refine OGo.st (fun _ kz => XS.iloadN X0.here hx rfl (hb hby d2_15) rfl kz) ?_
    show OG p e below Φ s₁ m 16 #[iv xx, iv 3, iv ((XT.ushr xx (16 : Int32)).toUInt32.toUInt16.toUInt32.toInt32), iv ((XT.ushr xx (2 : Int32)).toUInt32.toUInt16.toUInt32.toInt32)] [(.int 3)]
    refine OGo.st (fun _ kz => XS.ifYes X0.here hx rfl (pc0 := 16) (pc' := 30) rfl (hb hby d2_16) rfl (XT.i0_ne_t (by decide)) (by decide) (by decide) kz) ?_
    show OG p e below Φ s₁ m 30 #[iv xx, iv 3, iv ((XT.ushr xx (16 : Int32)).toUInt32.toUInt16.toUInt32.toInt32), iv ((XT.ushr xx (2 : Int32)).toUInt32.toUInt16.toUInt32.toInt32)] []
    refine OGo.st (fun _ kz => XS.iloadN X0.here hx rfl (hb hby d2_30) rfl kz) ?_
    show OG p e below Φ s₁ m 31 #[iv xx, iv 3, iv ((XT.ushr xx (16 : Int32)).toUInt32.toUInt16.toUInt32.toInt32), iv ((XT.ushr xx (2 : Int32)).toUInt32.toUInt16.toUInt32.toInt32)] [(.int 3)]
    refine OGo.st (fun _ kz => XS.iconst X0.here hx rfl (hb hby d2_31) kz) ?_
    show OG p e below Φ s₁ m 32 #[iv xx, iv 3, iv ((XT.ushr xx (16 : Int32)).toUInt32.toUInt16.toUInt32.toInt32), iv ((XT.ushr xx (2 : Int32)).toUInt32.toUInt16.toUInt32.toInt32)] [(.int 1), (.int 3)]
    refine OGo.st (fun _ kz => XS.icmpYes X0.here hx rfl (pc0 := 32) (pc' := 50) rfl (hb hby d2_32) rfl (XT.ii_ne_t (by decide)) (by decide) (by decide) kz) ?_
    show OG p e below Φ s₁ m 50 #[iv xx, iv 3, iv ((XT.ushr xx (16 : Int32)).toUInt32.toUInt16.toUInt32.toInt32), iv ((XT.ushr xx (2 : Int32)).toUInt32.toUInt16.toUInt32.toInt32)] []
    refine OGo.st (fun _ kz => XS.iloadN X0.here hx rfl (hb hby d2_50) rfl kz) ?_
    show OG p e below Φ s₁ m 51 #[iv xx, iv 3, iv ((XT.ushr xx (16 : Int32)).toUInt32.toUInt16.toUInt32.toInt32), iv ((XT.ushr xx (2 : Int32)).toUInt32.toUInt16.toUInt32.toInt32)] [(.int 3)]
    refine OGo.st (fun _ kz => XS.iconst X0.here hx rfl (hb hby d2_51) kz) ?_
    show OG p e below Φ s₁ m 52 #[iv xx, iv 3, iv ((XT.ushr xx (16 : Int32)).toUInt32.toUInt16.toUInt32.toInt32), iv ((XT.ushr xx (2 : Int32)).toUInt32.toUInt16.toUInt32.toInt32)] [(.int 2), (.int 3)]
    refine OGo.st (fun _ kz => XS.icmpYes X0.here hx rfl (pc0 := 52) (pc' := 74) rfl (hb hby d2_52) rfl (XT.ii_ne_t (by decide)) (by decide) (by decide) kz) ?_
    show OG p e below Φ s₁ m 74 #[iv xx, iv 3, iv ((XT.ushr xx (16 : Int32)).toUInt32.toUInt16.toUInt32.toInt32), iv ((XT.ushr xx (2 : Int32)).toUInt32.toUInt16.toUInt32.toInt32)] []
    obtain ⟨T74, h74, X74, e74, E74, A74, D74, U74, st74⟩ := newO X0 hx hZ hown (ow11 hw) (ow12 hw) (ow13 hw) e0 (g := (mkF m 74 #[iv xx, iv 3, iv ((XT.ushr xx (16 : Int32)).toUInt32.toUInt16.toUInt32.toInt32), iv ((XT.ushr xx (2 : Int32)).toUInt32.toUInt16.toUInt32.toInt32)] [])) rfl (hb hby d2_74) (by decide) (by decide)
    obtain ⟨b74, g74⟩ : ∃ z, z = h0.size := ⟨_, rfl⟩
    rw [← g74] at A74 D74 st74 U74
    have F75 := O_0.ext E74
    have gb74 : n0 ≤ b74 := Nat.le_trans Z0 (Nat.le_of_eq g74.symm)
    have K74 := K0.ext E74
    have sz74 : h0.size ≤ b74 := Nat.le_trans K0.1 (Nat.le_of_eq g74.symm)
    have Zs74 : n0 ≤ h74.size := Nat.le_trans Z0 E74.1
    have F74_27 : Fld Z h74 b74 "java/lang/String" "value" "[B" .null := D74 (Or.inr (ow27 hw)) (ty := (.array .byte)) (by decide)
    have F74_28 : Fld Z h74 b74 "java/lang/String" "coder" "B" (.int (0 : Int32)) := D74 (Or.inr (ow28 hw)) (ty := .byte) (by decide)
    have hA76 := CHr.ext E74 hC.1
    have sf_b74 := Safe.ext E74 hC.1 (Safe.new (Nat.le_of_eq g74.symm))
    have hkk := Nat.le_trans hkk hA76.2.1
    have hC := hC.trans hA76
    refine OGo.st (st74) ?_
    show OG p e below Φ T74 m 77 #[iv xx, iv 3, iv ((XT.ushr xx (16 : Int32)).toUInt32.toUInt16.toUInt32.toInt32), iv ((XT.ushr xx (2 : Int32)).toUInt32.toUInt16.toUInt32.toInt32)] [(.ref b74)]
    refine OGo.st (fun _ kz => XS.dup X74.here hx rfl (hb hby d2_77) rfl rfl kz) ?_
    show OG p e below Φ T74 m 78 #[iv xx, iv 3, iv ((XT.ushr xx (16 : Int32)).toUInt32.toUInt16.toUInt32.toInt32), iv ((XT.ushr xx (2 : Int32)).toUInt32.toUInt16.toUInt32.toInt32)] [(.ref b74), (.ref b74)]
    refine OGo.st (fun _ kz => XS.iconst X74.here hx rfl (hb hby d2_78) kz) ?_
    show OG p e below Φ T74 m 79 #[iv xx, iv 3, iv ((XT.ushr xx (16 : Int32)).toUInt32.toUInt16.toUInt32.toInt32), iv ((XT.ushr xx (2 : Int32)).toUInt32.toUInt16.toUInt32.toInt32)] [(.int 3), (.ref b74), (.ref b74)]
    obtain ⟨T77, h77, c77, X77, e77, E77, Ar77, st77⟩ := newP (aty := .char) X74 hx hZ (ow14 hw) e74 (g := (mkF m 79 #[iv xx, iv 3, iv ((XT.ushr xx (16 : Int32)).toUInt32.toUInt16.toUInt32.toInt32), iv ((XT.ushr xx (2 : Int32)).toUInt32.toUInt16.toUInt32.toInt32)] [(.int 3), (.ref b74), (.ref b74)])) rfl (hb hby d2_79) rfl (by decide) (cap := 3) (by decide) (by decide) (by decide) (by decide)
    obtain ⟨b77, g77⟩ : ∃ z, z = h74.size := ⟨_, rfl⟩
    rw [← g77] at Ar77 st77
    have ne77_b74 : b74 ≠ b77 := by rw [g77]; exact Nat.ne_of_lt A74.lt
    have F78 := F75.ext E77
    have F79 := A74.ext E77
    have F80 := F74_27.ext E77
    have F81 := F74_28.ext E77
    have gb77 : n0 ≤ b77 := Nat.le_trans Zs74 (Nat.le_of_eq g77.symm)
    have sz77 : h0.size ≤ b77 := Nat.le_trans K74.1 (Nat.le_of_eq g77.symm)
    have K77 := K74.ext E77
    have Zs77 : n0 ≤ h77.size := Nat.le_trans Zs74 E77.1
    have hA82 := CHr.ext E77 hC.1
    have sf_b77 := Safe.ext E77 hC.1 (Safe.new (Nat.le_of_eq g77.symm))
    have sf_b74 := hA82.safe A74.lt sf_b74
    have hkk := Nat.le_trans hkk hA82.2.1
    have hC := hC.trans hA82
    have V77 : Arv Z h77 b77 c77 .char (3 : Int32) [(.int (0 : Int32)), (.int (0 : Int32)), (.int (0 : Int32))] (.int (0 : Int32)) := (Arv.new Ar77 (by decide)).pad (pad_rep [] _ 3)
    refine OGo.st st77 ?_
    show OG p e below Φ T77 m 81 #[iv xx, iv 3, iv ((XT.ushr xx (16 : Int32)).toUInt32.toUInt16.toUInt32.toInt32), iv ((XT.ushr xx (2 : Int32)).toUInt32.toUInt16.toUInt32.toInt32)] [(.ref b77), (.ref b74), (.ref b74)]
    refine OGo.st (fun _ kz => XS.dup X77.here hx rfl (hb hby d2_81) rfl rfl kz) ?_
    show OG p e below Φ T77 m 82 #[iv xx, iv 3, iv ((XT.ushr xx (16 : Int32)).toUInt32.toUInt16.toUInt32.toInt32), iv ((XT.ushr xx (2 : Int32)).toUInt32.toUInt16.toUInt32.toInt32)] [(.ref b77), (.ref b77), (.ref b74), (.ref b74)]
    refine OGo.st (fun _ kz => XS.iconst X77.here hx rfl (hb hby d2_82) kz) ?_
    show OG p e below Φ T77 m 83 #[iv xx, iv 3, iv ((XT.ushr xx (16 : Int32)).toUInt32.toUInt16.toUInt32.toInt32), iv ((XT.ushr xx (2 : Int32)).toUInt32.toUInt16.toUInt32.toInt32)] [(.int 0), (.ref b77), (.ref b77), (.ref b74), (.ref b74)]
    refine OGo.st (fun _ kz => XS.iloadN X77.here hx rfl (hb hby d2_83) rfl kz) ?_
    show OG p e below Φ T77 m 84 #[iv xx, iv 3, iv ((XT.ushr xx (16 : Int32)).toUInt32.toUInt16.toUInt32.toInt32), iv ((XT.ushr xx (2 : Int32)).toUInt32.toUInt16.toUInt32.toInt32)] [(.int ((XT.ushr xx (16 : Int32)).toUInt32.toUInt16.toUInt32.toInt32)), (.int 0), (.ref b77), (.ref b77), (.ref b74), (.ref b74)]
    obtain ⟨cl83, Aq83, Cq83, S83, M83, H83, G83⟩ := id V77
    have in83 : ¬ ((0 : Int32) < 0 ∨ cl83.slots.size ≤ (0 : Int32).toNatClampNeg) := inb_of S83 ⟨by decide, by decide⟩
    obtain ⟨T83, h83, X83, e83, W83, st83⟩ := stC X77 hx hZ e77 Aq83 in83 (g := (mkF m 84 #[iv xx, iv 3, iv ((XT.ushr xx (16 : Int32)).toUInt32.toUInt16.toUInt32.toInt32), iv ((XT.ushr xx (2 : Int32)).toUInt32.toUInt16.toUInt32.toInt32)] [(.int ((XT.ushr xx (16 : Int32)).toUInt32.toUInt16.toUInt32.toInt32)), (.int 0), (.ref b77), (.ref b77), (.ref b74), (.ref b74)])) rfl rfl (hb hby d2_84)
    have W83 : Wr h77 h83 b77 (0 : Int32).toNatClampNeg (.int (nar .char ((XT.ushr xx (16 : Int32)).toUInt32.toUInt16.toUInt32.toInt32))) := W83
    have F84 := F78.wr W83 gb77
    have F85 := F79.wr W83
    have F86 := F80.other W83 (Or.inl ne77_b74)
    have F87 := F81.other W83 (Or.inl ne77_b74)
    have hA88 := CHr.wr W83 sf_b77 hC.1
    have sf_b74 := hA88.safe F79.lt sf_b74
    have sf_b77 := hA88.safe V77.lt sf_b77
    have hkk := Nat.le_trans hkk hA88.2.1
    have hC := hC.trans hA88
    have V83 : Arv Z h83 b77 c77 .char (3 : Int32) [(.int (nar .char ((XT.ushr xx (16 : Int32)).toUInt32.toUInt16.toUInt32.toInt32))), (.int (0 : Int32)), (.int (0 : Int32))] (.int (0 : Int32)) := Arv.set Aq83 Cq83 S83 M83 H83 G83 (fits_nar_char _) W83 0 (by decide) (by show 0 < 3; decide)
    have K83 := K77.wr W83 (Or.inr sz77)
    have N83 := Fr.snoc X83 N0 gb77
    have Zs83 : n0 ≤ h83.size := by rw [W83.size]; exact Zs77
    refine OGo.st st83 ?_
    show OG p e below Φ T83 m 85 #[iv xx, iv 3, iv ((XT.ushr xx (16 : Int32)).toUInt32.toUInt16.toUInt32.toInt32), iv ((XT.ushr xx (2 : Int32)).toUInt32.toUInt16.toUInt32.toInt32)] [(.ref b77), (.ref b74), (.ref b74)]
    refine OGo.st (fun _ kz => XS.dup X83.here hx rfl (hb hby d2_85) rfl rfl kz) ?_
    show OG p e below Φ T83 m 86 #[iv xx, iv 3, iv ((XT.ushr xx (16 : Int32)).toUInt32.toUInt16.toUInt32.toInt32), iv ((XT.ushr xx (2 : Int32)).toUInt32.toUInt16.toUInt32.toInt32)] [(.ref b77), (.ref b77), (.ref b74), (.ref b74)]
    refine OGo.st (fun _ kz => XS.iconst X83.here hx rfl (hb hby d2_86) kz) ?_
    show OG p e below Φ T83 m 87 #[iv xx, iv 3, iv ((XT.ushr xx (16 : Int32)).toUInt32.toUInt16.toUInt32.toInt32), iv ((XT.ushr xx (2 : Int32)).toUInt32.toUInt16.toUInt32.toInt32)] [(.int 1), (.ref b77), (.ref b77), (.ref b74), (.ref b74)]
    refine OGo.st (fun _ kz => XS.iloadN X83.here hx rfl (hb hby d2_87) rfl kz) ?_
    show OG p e below Φ T83 m 88 #[iv xx, iv 3, iv ((XT.ushr xx (16 : Int32)).toUInt32.toUInt16.toUInt32.toInt32), iv ((XT.ushr xx (2 : Int32)).toUInt32.toUInt16.toUInt32.toInt32)] [(.int ((XT.ushr xx (2 : Int32)).toUInt32.toUInt16.toUInt32.toInt32)), (.int 1), (.ref b77), (.ref b77), (.ref b74), (.ref b74)]
    obtain ⟨cl89, Aq89, Cq89, S89, M89, H89, G89⟩ := id V83
    have in89 : ¬ ((1 : Int32) < 0 ∨ cl89.slots.size ≤ (1 : Int32).toNatClampNeg) := inb_of S89 ⟨by decide, by decide⟩
    obtain ⟨T89, h89, X89, e89, W89, st89⟩ := stC X83 hx hZ e83 Aq89 in89 (g := (mkF m 88 #[iv xx, iv 3, iv ((XT.ushr xx (16 : Int32)).toUInt32.toUInt16.toUInt32.toInt32), iv ((XT.ushr xx (2 : Int32)).toUInt32.toUInt16.toUInt32.toInt32)] [(.int ((XT.ushr xx (2 : Int32)).toUInt32.toUInt16.toUInt32.toInt32)), (.int 1), (.ref b77), (.ref b77), (.ref b74), (.ref b74)])) rfl rfl (hb hby d2_88)
    have W89 : Wr h83 h89 b77 (1 : Int32).toNatClampNeg (.int (nar .char ((XT.ushr xx (2 : Int32)).toUInt32.toUInt16.toUInt32.toInt32))) := W89
    have F90 := F84.wr W89 gb77
    have F91 := F85.wr W89
    have F92 := F86.other W89 (Or.inl ne77_b74)
    have F93 := F87.other W89 (Or.inl ne77_b74)
    have hA94 := CHr.wr W89 sf_b77 hC.1
    have sf_b74 := hA94.safe F85.lt sf_b74
    have sf_b77 := hA94.safe V83.lt sf_b77
    have hkk := Nat.le_trans hkk hA94.2.1
    have hC := hC.trans hA94
    have V89 : Arv Z h89 b77 c77 .char (3 : Int32) [(.int (nar .char ((XT.ushr xx (16 : Int32)).toUInt32.toUInt16.toUInt32.toInt32))), (.int (nar .char ((XT.ushr xx (2 : Int32)).toUInt32.toUInt16.toUInt32.toInt32))), (.int (0 : Int32))] (.int (0 : Int32)) := Arv.set Aq89 Cq89 S89 M89 H89 G89 (fits_nar_char _) W89 1 (by decide) (by show 1 < 3; decide)
    have K89 := K83.wr W89 (Or.inr sz77)
    have N89 := Fr.snoc X89 N83 gb77
    have Zs89 : n0 ≤ h89.size := by rw [W89.size]; exact Zs83
    refine OGo.st st89 ?_
    show OG p e below Φ T89 m 89 #[iv xx, iv 3, iv ((XT.ushr xx (16 : Int32)).toUInt32.toUInt16.toUInt32.toInt32), iv ((XT.ushr xx (2 : Int32)).toUInt32.toUInt16.toUInt32.toInt32)] [(.ref b77), (.ref b74), (.ref b74)]
    refine OGo.st (fun _ kz => XS.dup X89.here hx rfl (hb hby d2_89) rfl rfl kz) ?_
    show OG p e below Φ T89 m 90 #[iv xx, iv 3, iv ((XT.ushr xx (16 : Int32)).toUInt32.toUInt16.toUInt32.toInt32), iv ((XT.ushr xx (2 : Int32)).toUInt32.toUInt16.toUInt32.toInt32)] [(.ref b77), (.ref b77), (.ref b74), (.ref b74)]
    refine OGo.st (fun _ kz => XS.iconst X89.here hx rfl (hb hby d2_90) kz) ?_
    show OG p e below Φ T89 m 91 #[iv xx, iv 3, iv ((XT.ushr xx (16 : Int32)).toUInt32.toUInt16.toUInt32.toInt32), iv ((XT.ushr xx (2 : Int32)).toUInt32.toUInt16.toUInt32.toInt32)] [(.int 2), (.ref b77), (.ref b77), (.ref b74), (.ref b74)]
    refine OGo.st (fun _ kz => XS.iloadN X89.here hx rfl (hb hby d2_91) rfl kz) ?_
    show OG p e below Φ T89 m 92 #[iv xx, iv 3, iv ((XT.ushr xx (16 : Int32)).toUInt32.toUInt16.toUInt32.toInt32), iv ((XT.ushr xx (2 : Int32)).toUInt32.toUInt16.toUInt32.toInt32)] [(.int ((XT.ushr xx (16 : Int32)).toUInt32.toUInt16.toUInt32.toInt32)), (.int 2), (.ref b77), (.ref b77), (.ref b74), (.ref b74)]
    obtain ⟨cl95, Aq95, Cq95, S95, M95, H95, G95⟩ := id V89
    have in95 : ¬ ((2 : Int32) < 0 ∨ cl95.slots.size ≤ (2 : Int32).toNatClampNeg) := inb_of S95 ⟨by decide, by decide⟩
    obtain ⟨T95, h95, X95, e95, W95, st95⟩ := stC X89 hx hZ e89 Aq95 in95 (g := (mkF m 92 #[iv xx, iv 3, iv ((XT.ushr xx (16 : Int32)).toUInt32.toUInt16.toUInt32.toInt32), iv ((XT.ushr xx (2 : Int32)).toUInt32.toUInt16.toUInt32.toInt32)] [(.int ((XT.ushr xx (16 : Int32)).toUInt32.toUInt16.toUInt32.toInt32)), (.int 2), (.ref b77), (.ref b77), (.ref b74), (.ref b74)])) rfl rfl (hb hby d2_92)
    have W95 : Wr h89 h95 b77 (2 : Int32).toNatClampNeg (.int (nar .char ((XT.ushr xx (16 : Int32)).toUInt32.toUInt16.toUInt32.toInt32))) := W95
    have F96 := F90.wr W95 gb77
    have F97 := F91.wr W95
    have F98 := F92.other W95 (Or.inl ne77_b74)
    have F99 := F93.other W95 (Or.inl ne77_b74)
    have hA100 := CHr.wr W95 sf_b77 hC.1
    have sf_b74 := hA100.safe F91.lt sf_b74
    have sf_b77 := hA100.safe V89.lt sf_b77
    have hkk := Nat.le_trans hkk hA100.2.1
    have hC := hC.trans hA100
    have V95 : Arv Z h95 b77 c77 .char (3 : Int32) [(.int (nar .char ((XT.ushr xx (16 : Int32)).toUInt32.toUInt16.toUInt32.toInt32))), (.int (nar .char ((XT.ushr xx (2 : Int32)).toUInt32.toUInt16.toUInt32.toInt32))), (.int (nar .char ((XT.ushr xx (16 : Int32)).toUInt32.toUInt16.toUInt32.toInt32)))] (.int (0 : Int32)) := Arv.set Aq95 Cq95 S95 M95 H95 G95 (fits_nar_char _) W95 2 (by decide) (by show 2 < 3; decide)
    have K95 := K89.wr W95 (Or.inr sz77)
    have N95 := Fr.snoc X95 N89 gb77
    have Zs95 : n0 ≤ h95.size := by rw [W95.size]; exact Zs89
    refine OGo.st st95 ?_
    show OG p e below Φ T95 m 93 #[iv xx, iv 3, iv ((XT.ushr xx (16 : Int32)).toUInt32.toUInt16.toUInt32.toInt32), iv ((XT.ushr xx (2 : Int32)).toUInt32.toUInt16.toUInt32.toInt32)] [(.ref b77), (.ref b74), (.ref b74)]
    by_cases hc101 : (255 : Int32) < (nar .char ((XT.ushr xx (16 : Int32)).toUInt32.toUInt16.toUInt32.toInt32))
    · show OG p e below Φ T95 m 93 #[iv xx, iv 3, iv ((XT.ushr xx (16 : Int32)).toUInt32.toUInt16.toUInt32.toInt32), iv ((XT.ushr xx (2 : Int32)).toUInt32.toUInt16.toUInt32.toInt32)] [(.ref b77), (.ref b74), (.ref b74)]
      obtain ⟨_, T102, L102, X102, hQ102, st102⟩ := own_callSp X95 hx hZ rfl hown (ow15 hw) (ow16 hw) (ow13 hw) (ow17 hw) (by decide) (rsb3_0i1 l Z a0 hw [] b74 b77 c77 qc (nar .char ((XT.ushr xx (16 : Int32)).toUInt32.toUInt16.toUInt32.toInt32)) (nar .char ((XT.ushr xx (2 : Int32)).toUInt32.toUInt16.toUInt32.toInt32)) (nar .char ((XT.ushr xx (16 : Int32)).toUInt32.toUInt16.toUInt32.toInt32)) h95 n0 Zs95 F97 gb74 F98 F99 V95 ne77_b74 S_cs hq F96 S_ad S_hb S_lb hc101 (own_narnar _)) e95 (W := 1) (by decide) (by decide) (by decide) (by decide) (pc := 93) (ls := #[iv xx, iv 3, iv ((XT.ushr xx (16 : Int32)).toUInt32.toUInt16.toUInt32.toInt32), iv ((XT.ushr xx (2 : Int32)).toUInt32.toUInt16.toUInt32.toInt32)]) (stk := [(.ref b77), (.ref b74), (.ref b74)]) (by rw [hml]; rfl) (a := b74) (argsL := [(.ref b77)]) (rest := [(.ref b74)]) (lenOf pd8 rfl) rfl rfl (Nat.le_of_eq rfl) (hb hby d2_93)
      obtain ⟨rfl, Nq102, Kq102, Eq102, b102, cb102, Fv102, Fc102, Vq102, hz102⟩ := hQ102
      have nq102_b74 : b74 ≠ b102 := Nat.ne_of_lt (Nat.lt_of_lt_of_le F97.lt hz102)
      have nq102_b77 : b77 ≠ b102 := Nat.ne_of_lt (Nat.lt_of_lt_of_le V95.lt hz102)
      have gq102 : n0 ≤ b102 := Nat.le_trans Zs95 hz102
      have sq102 : h0.size ≤ b102 := Nat.le_trans K95.1 hz102
      have N102 := Fr.app N95 Nq102
      have Zs102 : n0 ≤ T102.heap.size := Nat.le_trans Zs95 Kq102.1
      have F103 := F96.keep Kq102 (allS gb74 all0)
      have F104 := V95.keep Kq102 (ninS (Ne.symm ne77_b74) nin0)
      have hA105 := CHr.keep Kq102 (sfS sf_b74 sf0) hC.1
      have sf_b74 := hA105.safe F97.lt sf_b74
      have sf_b77 := hA105.safe V95.lt sf_b77
      have hkk := Nat.le_trans hkk hA105.2.1
      have hC := hC.trans hA105
      have K102 := K95.trans Kq102 (allS (Or.inr sz74) all0)
      refine OGo.st st102 ?_
      show OG p e below Φ T102 m 96 #[iv xx, iv 3, iv ((XT.ushr xx (16 : Int32)).toUInt32.toUInt16.toUInt32.toInt32), iv ((XT.ushr xx (2 : Int32)).toUInt32.toUInt16.toUInt32.toInt32)] [(.ref b74)]
      refine OGo.finW X102 hlk hS rfl hkk (v := (some (.ref b74))) (fun h => by rw [hret] at h; cases h) (by decide) (by decide) hZ (own_EW hw) hC (fun fs hr => X102.areturnOut hx rfl hret rfl (hb hby d2_96) hr) fun U eU hc hF => hΦ _ _ _ ?_ hc hF
      rw [eU]
      show Q_rstr Z xx qc h0 n0 _ _ _
      exact ⟨_, rfl, N102, K102, ⟨Eq102, _, _, _, _, _, Fv102, Fc102, Vq102, by decide, by rw [hk1]; decide⟩, sz74⟩
    · show OG p e below Φ T95 m 93 #[iv xx, iv 3, iv ((XT.ushr xx (16 : Int32)).toUInt32.toUInt16.toUInt32.toInt32), iv ((XT.ushr xx (2 : Int32)).toUInt32.toUInt16.toUInt32.toInt32)] [(.ref b77), (.ref b74), (.ref b74)]
      by_cases hc106 : (255 : Int32) < (nar .char ((XT.ushr xx (2 : Int32)).toUInt32.toUInt16.toUInt32.toInt32))
      · show OG p e below Φ T95 m 93 #[iv xx, iv 3, iv ((XT.ushr xx (16 : Int32)).toUInt32.toUInt16.toUInt32.toInt32), iv ((XT.ushr xx (2 : Int32)).toUInt32.toUInt16.toUInt32.toInt32)] [(.ref b77), (.ref b74), (.ref b74)]
        obtain ⟨_, T107, L107, X107, hQ107, st107⟩ := own_callSp X95 hx hZ rfl hown (ow15 hw) (ow16 hw) (ow13 hw) (ow17 hw) (by decide) (rsb3_1i1 l Z a0 hw [] b74 b77 c77 qc (nar .char ((XT.ushr xx (16 : Int32)).toUInt32.toUInt16.toUInt32.toInt32)) (nar .char ((XT.ushr xx (2 : Int32)).toUInt32.toUInt16.toUInt32.toInt32)) (nar .char ((XT.ushr xx (16 : Int32)).toUInt32.toUInt16.toUInt32.toInt32)) h95 n0 Zs95 F97 gb74 F98 F99 V95 ne77_b74 S_cs hq F96 S_ad S_hb S_lb hc101 hc106 (own_narnar _)) e95 (W := 1) (by decide) (by decide) (by decide) (by decide) (pc := 93) (ls := #[iv xx, iv 3, iv ((XT.ushr xx (16 : Int32)).toUInt32.toUInt16.toUInt32.toInt32), iv ((XT.ushr xx (2 : Int32)).toUInt32.toUInt16.toUInt32.toInt32)]) (stk := [(.ref b77), (.ref b74), (.ref b74)]) (by rw [hml]; rfl) (a := b74) (argsL := [(.ref b77)]) (rest := [(.ref b74)]) (lenOf pd8 rfl) rfl rfl (Nat.le_of_eq rfl) (hb hby d2_93)
        obtain ⟨rfl, Nq107, Kq107, Eq107, b107, cb107, Fv107, Fc107, Vq107, hz107⟩ := hQ107
        have nq107_b74 : b74 ≠ b107 := Nat.ne_of_lt (Nat.lt_of_lt_of_le F97.lt hz107)
        have nq107_b77 : b77 ≠ b107 := Nat.ne_of_lt (Nat.lt_of_lt_of_le V95.lt hz107)
        have gq107 : n0 ≤ b107 := Nat.le_trans Zs95 hz107
        have sq107 : h0.size ≤ b107 := Nat.le_trans K95.1 hz107
        have N107 := Fr.app N95 Nq107
        have Zs107 : n0 ≤ T107.heap.size := Nat.le_trans Zs95 Kq107.1
        have F108 := F96.keep Kq107 (allS gb74 all0)
        have F109 := V95.keep Kq107 (ninS (Ne.symm ne77_b74) nin0)
        have hA110 := CHr.keep Kq107 (sfS sf_b74 sf0) hC.1
        have sf_b74 := hA110.safe F97.lt sf_b74
        have sf_b77 := hA110.safe V95.lt sf_b77
        have hkk := Nat.le_trans hkk hA110.2.1
        have hC := hC.trans hA110
        have K107 := K95.trans Kq107 (allS (Or.inr sz74) all0)
        refine OGo.st st107 ?_
        show OG p e below Φ T107 m 96 #[iv xx, iv 3, iv ((XT.ushr xx (16 : Int32)).toUInt32.toUInt16.toUInt32.toInt32), iv ((XT.ushr xx (2 : Int32)).toUInt32.toUInt16.toUInt32.toInt32)] [(.ref b74)]
        refine OGo.finW X107 hlk hS rfl hkk (v := (some (.ref b74))) (fun h => by rw [hret] at h; cases h) (by decide) (by decide) hZ (own_EW hw) hC (fun fs hr => X107.areturnOut hx rfl hret rfl (hb hby d2_96) hr) fun U eU hc hF => hΦ _ _ _ ?_ hc hF
        rw [eU]
        show Q_rstr Z xx qc h0 n0 _ _ _
        exact ⟨_, rfl, N107, K107, ⟨Eq107, _, _, _, _, _, Fv107, Fc107, Vq107, by decide, by rw [hk1]; decide⟩, sz74⟩
      · show OG p e below Φ T95 m 93 #[iv xx, iv 3, iv ((XT.ushr xx (16 : Int32)).toUInt32.toUInt16.toUInt32.toInt32), iv ((XT.ushr xx (2 : Int32)).toUInt32.toUInt16.toUInt32.toInt32)] [(.ref b77), (.ref b74), (.ref b74)]
        obtain ⟨_, T111, L111, X111, hQ111, st111⟩ := own_callSp X95 hx hZ rfl hown (ow15 hw) (ow16 hw) (ow13 hw) (ow17 hw) (by decide) (rsl3i1 l Z a0 hw [] b74 b77 c77 qc (nar .char ((XT.ushr xx (16 : Int32)).toUInt32.toUInt16.toUInt32.toInt32)) (nar .char ((XT.ushr xx (2 : Int32)).toUInt32.toUInt16.toUInt32.toInt32)) (nar .char ((XT.ushr xx (16 : Int32)).toUInt32.toUInt16.toUInt32.toInt32)) h95 n0 Zs95 F97 gb74 F98 F99 V95 ne77_b74 (S_cs.ext F96.2) hq hc101 hc106 hc101) e95 (W := 1) (by decide) (by decide) (by decide) (by decide) (pc := 93) (ls := #[iv xx, iv 3, iv ((XT.ushr xx (16 : Int32)).toUInt32.toUInt16.toUInt32.toInt32), iv ((XT.ushr xx (2 : Int32)).toUInt32.toUInt16.toUInt32.toInt32)]) (stk := [(.ref b77), (.ref b74), (.ref b74)]) (by rw [hml]; rfl) (a := b74) (argsL := [(.ref b77)]) (rest := [(.ref b74)]) (lenOf pd8 rfl) rfl rfl (Nat.le_of_eq rfl) (hb hby d2_93)
        obtain ⟨rfl, Nq111, Kq111, Eq111, b111, cb111, Fv111, Fc111, Vq111, hz111⟩ := hQ111
        have nq111_b74 : b74 ≠ b111 := Nat.ne_of_lt (Nat.lt_of_lt_of_le F97.lt hz111)
        have nq111_b77 : b77 ≠ b111 := Nat.ne_of_lt (Nat.lt_of_lt_of_le V95.lt hz111)
        have gq111 : n0 ≤ b111 := Nat.le_trans Zs95 hz111
        have sq111 : h0.size ≤ b111 := Nat.le_trans K95.1 hz111
        have N111 := Fr.app N95 Nq111
        have Zs111 : n0 ≤ T111.heap.size := Nat.le_trans Zs95 Kq111.1
        have F112 := F96.keep Kq111 (allS gb74 all0)
        have F113 := V95.keep Kq111 (ninS (Ne.symm ne77_b74) nin0)
        have hA114 := CHr.keep Kq111 (sfS sf_b74 sf0) hC.1
        have sf_b74 := hA114.safe F97.lt sf_b74
        have sf_b77 := hA114.safe V95.lt sf_b77
        have hkk := Nat.le_trans hkk hA114.2.1
        have hC := hC.trans hA114
        have K111 := K95.trans Kq111 (allS (Or.inr sz74) all0)
        refine OGo.st st111 ?_
        show OG p e below Φ T111 m 96 #[iv xx, iv 3, iv ((XT.ushr xx (16 : Int32)).toUInt32.toUInt16.toUInt32.toInt32), iv ((XT.ushr xx (2 : Int32)).toUInt32.toUInt16.toUInt32.toInt32)] [(.ref b74)]
        refine OGo.finW X111 hlk hS rfl hkk (v := (some (.ref b74))) (fun h => by rw [hret] at h; cases h) (by decide) (by decide) hZ (own_EW hw) hC (fun fs hr => X111.areturnOut hx rfl hret rfl (hb hby d2_96) hr) fun U eU hc hF => hΦ _ _ _ ?_ hc hF
        rw [eU]
        show Q_rstr Z xx qc h0 n0 _ _ _
        exact ⟨_, rfl, N111, K111, ⟨Eq111, _, _, _, _, _, Fv111, Fc111, Vq111, by decide, by rw [hk1]; decide⟩, sz74⟩

theorem d10_0 : decode method_2_code 0 = .ok (.iload_n 0, 1) := by decide +kernel
theorem d10_1 : decode method_2_code 1 = .ok (.iconst 3, 1) := by decide +kernel
theorem d10_2 : decode method_2_code 2 = .ok (.iand, 1) := by decide +kernel
theorem d10_3 : decode method_2_code 3 = .ok (.ireturn, 1) := by decide +kernel
theorem ef_rln (m : MethodId) (x0 : Int32) : entryFrame m #[(.int x0)] 1 = mkF m 0 #[.val (.int x0)] [] := by first | (simp [entryFrame, mkF, argsToLocals, Value.category]; done) | rfl
def Q_rln (Z : State) (x0 : Int32) (h0 : Heap) (n0 : Nat) (v : Option Value) (h : Heap) (L : List Loc) : Prop := v = some (.int (own_len x0)) ∧ Fr n0 L ∧ h = h0
set_option maxRecDepth 65536 in
set_option maxHeartbeats 40000000 in
theorem rln (l : Launch) (Z : State) (a0 : Array Value) (hw : ∀ d ∈ tables_1, d.before a0 Z = true) (ws : List Jvm.Cond) (x0 : Int32) (h0 : Heap) (n0 : Nat) (Z0 : n0 ≤ h0.size)  :
    OCon l Z (⟨"com/example/zonewright/zonewright/storage/PlanIndexBytesOfPinLaw", "len", "(I)I"⟩ : MethodName) method_2_code 1 (some .int) ws ({ frames := 0, cells := 0, slots := 0, locals := 0 } : Room) #[(.int x0)] h0 (Q_rln Z x0 h0 n0) := by
  refine OCon.of (plainFor_of_name pn2) ?_
  intro p e s m below meth c s₁ Φ X0 hx hby hml hown hnm hret hlk hZ e0 hΦ
  have N0 := Fr.nil n0
  refine OGo.st (fun _ kz => castTop (ef_rln m x0) kz) ?_
  show OG p e below Φ s₁ m 0 #[iv x0] []
  refine OGo.st (fun _ kz => XS.iloadN X0.here hx rfl (hb hby d10_0) rfl kz) ?_
  show OG p e below Φ s₁ m 1 #[iv x0] [(.int x0)]
  refine OGo.st (fun _ kz => XS.iconst X0.here hx rfl (hb hby d10_1) kz) ?_
  show OG p e below Φ s₁ m 2 #[iv x0] [(.int 3), (.int x0)]
  refine OGo.st (fun _ kz => XS.iand X0.here hx rfl (hb hby d10_2) rfl kz) ?_
  show OG p e below Φ s₁ m 3 #[iv x0] [(.int (x0 &&& (3 : Int32)))]
  refine OGo.fin X0 hlk (v := (some (.int (x0 &&& (3 : Int32))))) (fun h => by rw [hret] at h; cases h) (by decide) (by decide) (fun fs hr => X0.ireturnOut hx hret rfl (by simp) (hb hby d10_3) hr) fun U eU hF => hΦ _ _ _ ?_ hF
  rw [eU, e0]
  show Q_rln Z x0 h0 n0 _ _ _
  exact ⟨by simp [own_len], N0, rfl⟩

theorem d14_0 : decode jdk_42_method_152_code 0 = .ok (.getstatic 38, 3) := by decide +kernel
theorem d14_3 : decode jdk_42_method_152_code 3 = .ok (.ifCond .eq 10, 3) := by decide +kernel
theorem d14_6 : decode jdk_42_method_152_code 6 = .ok (.aload_n 0, 1) := by decide +kernel
theorem d14_7 : decode jdk_42_method_152_code 7 = .ok (.getfield 15, 3) := by decide +kernel
theorem d14_10 : decode jdk_42_method_152_code 10 = .ok (.goto 4, 3) := by decide +kernel
theorem d14_14 : decode jdk_42_method_152_code 14 = .ok (.ireturn, 1) := by decide +kernel
theorem ef_rgoco (m : MethodId) (x0 : Addr) : entryFrame m #[(.ref x0)] 1 = mkF m 0 #[.val (.ref x0)] [] := by first | (simp [entryFrame, mkF, argsToLocals, Value.category]; done) | rfl
def Q_rgoco (Z : State) (s_ : Addr) (cd : Int32) (qc : Int32) (h0 : Heap) (n0 : Nat) (v : Option Value) (h : Heap) (L : List Loc) : Prop := v = some (.int cd) ∧ Fr n0 L ∧ h = h0
set_option maxRecDepth 65536 in
set_option maxHeartbeats 40000000 in
theorem rgoco (l : Launch) (Z : State) (a0 : Array Value) (hw : ∀ d ∈ tables_1, d.before a0 Z = true) (ws : List Jvm.Cond) (s_ : Addr) (cd : Int32) (qc : Int32) (h0 : Heap) (n0 : Nat) (Z0 : n0 ≤ h0.size) (F_c : Fld Z h0 s_ "java/lang/String" "coder" "B" (.int cd)) (hcd : cd = 0 ∨ cd = 1) (S_q : Sta Z h0 "java/lang/String" "COMPACT_STRINGS" "Z" (.int qc)) (hq : ¬ qc = 0) :
    OCon l Z (⟨"java/lang/String", "coder", "()B"⟩ : MethodName) jdk_42_method_152_code 1 (some .byte) ws ({ frames := 0, cells := 0, slots := 0, locals := 0 } : Room) #[(.ref s_)] h0 (Q_rgoco Z s_ cd qc h0 n0) := by
  refine OCon.of (plainFor_of_name pn0) ?_
  intro p e s m below meth c s₁ Φ X0 hx hby hml hown hnm hret hlk hZ e0 hΦ
  have N0 := Fr.nil n0
  refine OGo.st (fun _ kz => castTop (ef_rgoco m s_) kz) ?_
  show OG p e below Φ s₁ m 0 #[rv s_] []
  obtain ⟨T1, X1, e1, st1⟩ := getS2 X0 hx hZ hown (host := "") (Or.inl (ow33 hw)) Via.refl e0 S_q (g := (mkF m 0 #[rv s_] [])) rfl (hb hby d14_0)
  refine OGo.st st1 ?_
  show OG p e below Φ T1 m 3 #[rv s_] [(.int qc)]
  refine OGo.st (fun _ kz => XS.ifNo X1.here hx rfl (hb hby d14_3) rfl (XT.i0_eq_f hq) kz) ?_
  show OG p e below Φ T1 m 6 #[rv s_] []
  refine OGo.st (fun _ kz => XS.aloadN X1.here hx rfl (hb hby d14_6) rfl rfl kz) ?_
  show OG p e below Φ T1 m 7 #[rv s_] [(.ref s_)]
  obtain ⟨T2, X2, e2, st2⟩ := getF X1 hx hZ hown (host := "") (Or.inl (ow32 hw)) Via.refl e1 F_c (g := (mkF m 7 #[rv s_] [(.ref s_)])) rfl rfl (hb hby d14_7)
  refine OGo.st st2 ?_
  show OG p e below Φ T2 m 10 #[rv s_] [(.int cd)]
  refine OGo.st (fun _ kz => XS.goto X2.here hx rfl (pc0 := 10) (pc' := 14) rfl (hb hby d14_10) (by decide) (by decide) kz) ?_
  show OG p e below Φ T2 m 14 #[rv s_] [(.int cd)]
  refine OGo.fin X2 hlk (v := (some (.int cd))) (fun h => by rw [hret] at h; cases h) (by decide) (by decide) (fun fs hr => X2.ireturnOut hx hret (own_nb hcd) (by simp) (hb hby d14_14) hr) fun U eU hF => hΦ _ _ _ ?_ hF
  rw [eU, e2]
  show Q_rgoco Z s_ cd qc h0 n0 _ _ _
  exact ⟨rfl, N0, rfl⟩

theorem d13_0 : decode jdk_42_method_54_code 0 = .ok (.aload_n 0, 1) := by decide +kernel
theorem d13_1 : decode jdk_42_method_54_code 1 = .ok (.getfield 9, 3) := by decide +kernel
theorem d13_4 : decode jdk_42_method_54_code 4 = .ok (.arraylength, 1) := by decide +kernel
theorem d13_5 : decode jdk_42_method_54_code 5 = .ok (.aload_n 0, 1) := by decide +kernel
theorem d13_6 : decode jdk_42_method_54_code 6 = .ok (.invokevirtual 335, 3) := by decide +kernel
theorem pd9 : parseMethodDescriptor "()B" = some ⟨[], some .byte⟩ := by decide +kernel
theorem d13_9 : decode jdk_42_method_54_code 9 = .ok (.ishr, 1) := by decide +kernel
theorem d13_10 : decode jdk_42_method_54_code 10 = .ok (.ireturn, 1) := by decide +kernel
theorem ef_rgole (m : MethodId) (x0 : Addr) : entryFrame m #[(.ref x0)] 1 = mkF m 0 #[.val (.ref x0)] [] := by first | (simp [entryFrame, mkF, argsToLocals, Value.category]; done) | rfl
def Q_rgole (Z : State) (s_ : Addr) (b : Addr) (cb : ClassId) (z_ : Int32) (cd : Int32) (vs : List Value) (n_ : Int32) (qc : Int32) (h0 : Heap) (n0 : Nat) (v : Option Value) (h : Heap) (L : List Loc) : Prop := v = some (.int n_) ∧ Fr n0 L ∧ h = h0
set_option maxRecDepth 65536 in
set_option maxHeartbeats 40000000 in
theorem rgole (l : Launch) (Z : State) (a0 : Array Value) (hw : ∀ d ∈ tables_1, d.before a0 Z = true) (ws : List Jvm.Cond) (s_ : Addr) (b : Addr) (cb : ClassId) (z_ : Int32) (cd : Int32) (vs : List Value) (n_ : Int32) (qc : Int32) (h0 : Heap) (n0 : Nat) (Z0 : n0 ≤ h0.size) (E_s : Exa Z h0 s_ "java/lang/String") (F_v : Fld Z h0 s_ "java/lang/String" "value" "[B" (.ref b)) (F_c : Fld Z h0 s_ "java/lang/String" "coder" "B" (.int cd)) (V_b : Arv Z h0 b cb .byte z_ vs (.int 0)) (hcd : cd = 0 ∨ cd = 1) (hn : (z_ >>> (cd &&& 31)) = n_) (S_q : Sta Z h0 "java/lang/String" "COMPACT_STRINGS" "Z" (.int qc)) (hq : ¬ qc = 0) :
    OCon l Z (⟨"java/lang/String", "length", "()I"⟩ : MethodName) jdk_42_method_54_code 1 (some .int) ws ({ frames := 1, cells := 0, slots := 0, locals := 13 } : Room) #[(.ref s_)] h0 (Q_rgole Z s_ b cb z_ cd vs n_ qc h0 n0) := by
  refine OCon.of (plainFor_of_name pn0) ?_
  intro p e s m below meth c s₁ Φ X0 hx hby hml hown hnm hret hlk hZ e0 hΦ
  have N0 := Fr.nil n0
  refine OGo.st (fun _ kz => castTop (ef_rgole m s_) kz) ?_
  show OG p e below Φ s₁ m 0 #[rv s_] []
  refine OGo.st (fun _ kz => XS.aloadN X0.here hx rfl (hb hby d13_0) rfl rfl kz) ?_
  show OG p e below Φ s₁ m 1 #[rv s_] [(.ref s_)]
  obtain ⟨T1, X1, e1, st1⟩ := getF X0 hx hZ hown (host := "") (Or.inl (ow31 hw)) Via.refl e0 F_v (g := (mkF m 1 #[rv s_] [(.ref s_)])) rfl rfl (hb hby d13_1)
  refine OGo.st st1 ?_
  show OG p e below Φ T1 m 4 #[rv s_] [(.ref b)]
  obtain ⟨cl2, Aq2, -, S2, M2, -, -⟩ := id V_b
  refine OGo.st (fun _ kz => X1.arraylength hx (by rw [e1]; exact Aq2.1) (State.isArrayOf_alike hZ.alike Aq2.2.1) (g := (mkF m 4 #[rv s_] [(.ref b)])) rfl rfl (hb hby d13_4) _ kz) ?_
  rw [len_of S2 M2]
  show OG p e below Φ T1 m 5 #[rv s_] [(.int z_)]
  refine OGo.st (fun _ kz => XS.aloadN X1.here hx rfl (hb hby d13_5) rfl rfl kz) ?_
  show OG p e below Φ T1 m 6 #[rv s_] [(.ref s_), (.int z_)]
  obtain ⟨_, T3, L3, X3, hQ3, st3⟩ := own_callVi X1 hx hZ hown (ow79 hw) (ow80 hw) (notFace_of_selects (args := #[]) (mvT hZ (ow82 hw))) (ow82 hw) (ow81 hw) (ow13 hw) (ow83 hw) (by decide) (rgoco l Z a0 hw [] s_ cd qc h0 n0 Z0 F_c hcd S_q hq) e1 (W := 1) (by decide) (by decide) (by decide) (by decide) E_s (pc := 6) (ls := #[rv s_]) (stk := [(.ref s_), (.int z_)]) (by rw [hml]; rfl) (argsL := []) (rest := [(.int z_)]) (lenOf pd9 rfl) rfl rfl (Nat.le_of_eq rfl) (hb hby d13_6)
  obtain ⟨rfl, Nq3, e3⟩ := hQ3
  have N3 := Fr.app N0 Nq3
  refine OGo.st st3 ?_
  show OG p e below Φ T3 m 9 #[rv s_] [(.int cd), (.int z_)]
  refine OGo.st (fun _ kz => XT.ishr X3.here hx rfl (hb hby d13_9) rfl kz) ?_
  show OG p e below Φ T3 m 10 #[rv s_] [(.int (z_ >>> (cd &&& 31)))]
  refine OGo.fin X3 hlk (v := (some (.int (z_ >>> (cd &&& 31))))) (fun h => by rw [hret] at h; cases h) (by decide) (by decide) (fun fs hr => X3.ireturnOut hx hret rfl (by simp) (hb hby d13_10) hr) fun U eU hF => hΦ _ _ _ ?_ hF
  rw [eU, e3]
  show Q_rgole Z s_ b cb z_ cd vs n_ qc h0 n0 _ _ _
  exact ⟨by rw [hn], N3, rfl⟩

theorem pn3 : plainName "com/example/zonewright/zonewright/plan/Plan" = true := by first | (simp [plainName, overriddenIn]; done) | decide +kernel
theorem d9_0 : decode prog_20_method_1_code 0 = .ok (.aload_n 0, 1) := by decide +kernel
theorem d9_1 : decode prog_20_method_1_code 1 = .ok (.invokespecial 1, 3) := by decide +kernel
theorem d9_4 : decode prog_20_method_1_code 4 = .ok (.aload_n 0, 1) := by decide +kernel
theorem d9_5 : decode prog_20_method_1_code 5 = .ok (.aload_n 1, 1) := by decide +kernel
theorem d9_6 : decode prog_20_method_1_code 6 = .ok (.putfield 7, 3) := by decide +kernel
theorem d9_9 : decode prog_20_method_1_code 9 = .ok (.aload_n 0, 1) := by decide +kernel
theorem d9_10 : decode prog_20_method_1_code 10 = .ok (.aload_n 2, 1) := by decide +kernel
theorem d9_11 : decode prog_20_method_1_code 11 = .ok (.putfield 13, 3) := by decide +kernel
theorem d9_14 : decode prog_20_method_1_code 14 = .ok (.aload_n 0, 1) := by decide +kernel
theorem d9_15 : decode prog_20_method_1_code 15 = .ok (.aload_n 3, 1) := by decide +kernel
theorem d9_16 : decode prog_20_method_1_code 16 = .ok (.putfield 16, 3) := by decide +kernel
theorem d9_19 : decode prog_20_method_1_code 19 = .ok (.aload_n 0, 1) := by decide +kernel
theorem d9_20 : decode prog_20_method_1_code 20 = .ok (.aload 4, 2) := by decide +kernel
theorem d9_22 : decode prog_20_method_1_code 22 = .ok (.putfield 19, 3) := by decide +kernel
theorem d9_25 : decode prog_20_method_1_code 25 = .ok (.aload_n 0, 1) := by decide +kernel
theorem d9_26 : decode prog_20_method_1_code 26 = .ok (.aload 5, 2) := by decide +kernel
theorem d9_28 : decode prog_20_method_1_code 28 = .ok (.putfield 22, 3) := by decide +kernel
theorem d9_31 : decode prog_20_method_1_code 31 = .ok (.return_, 1) := by decide +kernel
theorem ef_rpl (m : MethodId) (x0 : Addr) (x1 : Addr) (x2 : Addr) (x3 : Addr) (x4 : Addr) (x5 : Addr) : entryFrame m #[(.ref x0), (.ref x1), (.ref x2), (.ref x3), (.ref x4), (.ref x5)] 6 = mkF m 0 #[.val (.ref x0), .val (.ref x1), .val (.ref x2), .val (.ref x3), .val (.ref x4), .val (.ref x5)] [] := by first | (simp [entryFrame, mkF, argsToLocals, Value.category]; done) | rfl
def Q_rpl (Z : State) (a : Addr) (x1 : Addr) (x2 : Addr) (x3 : Addr) (x4 : Addr) (x5 : Addr) (u0 : Value) (u1 : Value) (u2 : Value) (u3 : Value) (u4 : Value) (h0 : Heap) (n0 : Nat) (v : Option Value) (h : Heap) (L : List Loc) : Prop := v = none ∧ Fr n0 L ∧ Keep h0 h [a] ∧ Exa Z h a "com/example/zonewright/zonewright/plan/Plan" ∧ Fld Z h a "com/example/zonewright/zonewright/plan/Plan" "id" "Ljava/lang/String;" (.ref x1) ∧ Fld Z h a "com/example/zonewright/zonewright/plan/Plan" "name" "Ljava/lang/String;" (.ref x2) ∧ Fld Z h a "com/example/zonewright/zonewright/plan/Plan" "description" "Ljava/lang/String;" (.ref x3) ∧ Fld Z h a "com/example/zonewright/zonewright/plan/Plan" "authDomain" "Ljava/lang/String;" (.ref x4) ∧ Fld Z h a "com/example/zonewright/zonewright/plan/Plan" "instanceName" "Ljava/lang/String;" (.ref x5)
set_option maxRecDepth 65536 in
set_option maxHeartbeats 40000000 in
theorem rpl (l : Launch) (Z : State) (a0 : Array Value) (hw : ∀ d ∈ tables_1, d.before a0 Z = true) (ws : List Jvm.Cond) (a : Addr) (x1 : Addr) (x2 : Addr) (x3 : Addr) (x4 : Addr) (x5 : Addr) (u0 : Value) (u1 : Value) (u2 : Value) (u3 : Value) (u4 : Value) (h0 : Heap) (n0 : Nat) (Z0 : n0 ≤ h0.size) (E_a : Exa Z h0 a "com/example/zonewright/zonewright/plan/Plan") (g_a : n0 ≤ a) (F_0 : Fld Z h0 a "com/example/zonewright/zonewright/plan/Plan" "id" "Ljava/lang/String;" u0) (F_1 : Fld Z h0 a "com/example/zonewright/zonewright/plan/Plan" "name" "Ljava/lang/String;" u1) (F_2 : Fld Z h0 a "com/example/zonewright/zonewright/plan/Plan" "description" "Ljava/lang/String;" u2) (F_3 : Fld Z h0 a "com/example/zonewright/zonewright/plan/Plan" "authDomain" "Ljava/lang/String;" u3) (F_4 : Fld Z h0 a "com/example/zonewright/zonewright/plan/Plan" "instanceName" "Ljava/lang/String;" u4) :
    OCon l Z (⟨"com/example/zonewright/zonewright/plan/Plan", "<init>", "(Ljava/lang/String;Ljava/lang/String;Ljava/lang/String;Ljava/lang/String;Ljava/lang/String;)V"⟩ : MethodName) prog_20_method_1_code 6 none ws ({ frames := 1, cells := 0, slots := 0, locals := 12 } : Room) #[(.ref a), (.ref x1), (.ref x2), (.ref x3), (.ref x4), (.ref x5)] h0 (Q_rpl Z a x1 x2 x3 x4 x5 u0 u1 u2 u3 u4 h0 n0) := by
  refine OCon.of (plainFor_of_name pn3) ?_
  intro p e s m below meth c s₁ Φ X0 hx hby hml hown hnm hret hlk hZ e0 hΦ
  have N0 := Fr.nil n0
  refine OGo.st (fun _ kz => castTop (ef_rpl m a x1 x2 x3 x4 x5) kz) ?_
  have K0 := Keep.refl h0 [a]
  show OG p e below Φ s₁ m 0 #[rv a, rv x1, rv x2, rv x3, rv x4, rv x5] []
  refine OGo.st (fun _ kz => XS.aloadN X0.here hx rfl (hb hby d9_0) rfl rfl kz) ?_
  show OG p e below Φ s₁ m 1 #[rv a, rv x1, rv x2, rv x3, rv x4, rv x5] [(.ref a)]
  obtain ⟨T1, X1, e1, st1⟩ := initO X0 hx hZ hown (ow47 hw) (ow23 hw) (ow24 hw) e0 (g := (mkF m 1 #[rv a, rv x1, rv x2, rv x3, rv x4, rv x5] [(.ref a)])) rfl (by rw [hml]; rfl) rfl (hb hby d9_1) (by decide) (W := 0) (Nat.le_of_eq rfl) (by decide)
  refine OGo.st st1 ?_
  show OG p e below Φ T1 m 4 #[rv a, rv x1, rv x2, rv x3, rv x4, rv x5] []
  refine OGo.st (fun _ kz => XS.aloadN X1.here hx rfl (hb hby d9_4) rfl rfl kz) ?_
  show OG p e below Φ T1 m 5 #[rv a, rv x1, rv x2, rv x3, rv x4, rv x5] [(.ref a)]
  refine OGo.st (fun _ kz => XS.aloadN X1.here hx rfl (hb hby d9_5) rfl rfl kz) ?_
  show OG p e below Φ T1 m 6 #[rv a, rv x1, rv x2, rv x3, rv x4, rv x5] [(.ref x1), (.ref a)]
  obtain ⟨T2, h2, X2, e2, W2, st2⟩ := putF X1 hx hZ hown (host := "") (Or.inl (ow48 hw)) Via.refl e1 F_0 E_a (Or.inr ⟨(ow49 hw), rfl, hnm⟩) (ow5 hw) (ty := (.object "java/lang/String")) (by decide) rfl rfl (g := (mkF m 6 #[rv a, rv x1, rv x2, rv x3, rv x4, rv x5] [(.ref x1), (.ref a)])) rfl rfl (hb hby d9_6)
  have F3 := E_a.wr W2
  have F4 := F_0.same W2
  have F5 := F_1.other W2 (Or.inr (slot_ne (Or.inr (ow51 hw)) (Or.inr (ow49 hw)) (by decide) (t := (.object "java/lang/String")) (t' := (.object "java/lang/String")) (by decide) (by decide)))
  have F6 := F_2.other W2 (Or.inr (slot_ne (Or.inr (ow53 hw)) (Or.inr (ow49 hw)) (by decide) (t := (.object "java/lang/String")) (t' := (.object "java/lang/String")) (by decide) (by decide)))
  have F7 := F_3.other W2 (Or.inr (slot_ne (Or.inr (ow55 hw)) (Or.inr (ow49 hw)) (by decide) (t := (.object "java/lang/String")) (t' := (.object "java/lang/String")) (by decide) (by decide)))
  have F8 := F_4.other W2 (Or.inr (slot_ne (Or.inr (ow57 hw)) (Or.inr (ow49 hw)) (by decide) (t := (.object "java/lang/String")) (t' := (.object "java/lang/String")) (by decide) (by decide)))
  have K2 := K0.wr W2 (Or.inl (List.mem_of_getElem? (i := 0) rfl))
  have N2 := Fr.snoc X2 N0 g_a
  have Zs2 : n0 ≤ h2.size := by rw [W2.size]; exact Z0
  refine OGo.st st2 ?_
  show OG p e below Φ T2 m 9 #[rv a, rv x1, rv x2, rv x3, rv x4, rv x5] []
  refine OGo.st (fun _ kz => XS.aloadN X2.here hx rfl (hb hby d9_9) rfl rfl kz) ?_
  show OG p e below Φ T2 m 10 #[rv a, rv x1, rv x2, rv x3, rv x4, rv x5] [(.ref a)]
  refine OGo.st (fun _ kz => XS.aloadN X2.here hx rfl (hb hby d9_10) rfl rfl kz) ?_
  show OG p e below Φ T2 m 11 #[rv a, rv x1, rv x2, rv x3, rv x4, rv x5] [(.ref x2), (.ref a)]
  obtain ⟨T9, h9, X9, e9, W9, st9⟩ := putF X2 hx hZ hown (host := "") (Or.inl (ow50 hw)) Via.refl e2 F5 F3 (Or.inr ⟨(ow51 hw), rfl, hnm⟩) (ow5 hw) (ty := (.object "java/lang/String")) (by decide) rfl rfl (g := (mkF m 11 #[rv a, rv x1, rv x2, rv x3, rv x4, rv x5] [(.ref x2), (.ref a)])) rfl rfl (hb hby d9_11)
  have F10 := F3.wr W9
  have F11 := F4.other W9 (Or.inr (slot_ne (Or.inr (ow49 hw)) (Or.inr (ow51 hw)) (by decide) (t := (.object "java/lang/String")) (t' := (.object "java/lang/String")) (by decide) (by decide)))
  have F12 := F5.same W9
  have F13 := F6.other W9 (Or.inr (slot_ne (Or.inr (ow53 hw)) (Or.inr (ow51 hw)) (by decide) (t := (.object "java/lang/String")) (t' := (.object "java/lang/String")) (by decide) (by decide)))
  have F14 := F7.other W9 (Or.inr (slot_ne (Or.inr (ow55 hw)) (Or.inr (ow51 hw)) (by decide) (t := (.object "java/lang/String")) (t' := (.object "java/lang/String")) (by decide) (by decide)))
  have F15 := F8.other W9 (Or.inr (slot_ne (Or.inr (ow57 hw)) (Or.inr (ow51 hw)) (by decide) (t := (.object "java/lang/String")) (t' := (.object "java/lang/String")) (by decide) (by decide)))
  have K9 := K2.wr W9 (Or.inl (List.mem_of_getElem? (i := 0) rfl))
  have N9 := Fr.snoc X9 N2 g_a
  have Zs9 : n0 ≤ h9.size := by rw [W9.size]; exact Zs2
  refine OGo.st st9 ?_
  show OG p e below Φ T9 m 14 #[rv a, rv x1, rv x2, rv x3, rv x4, rv x5] []
  refine OGo.st (fun _ kz => XS.aloadN X9.here hx rfl (hb hby d9_14) rfl rfl kz) ?_
  show OG p e below Φ T9 m 15 #[rv a, rv x1, rv x2, rv x3, rv x4, rv x5] [(.ref a)]
  refine OGo.st (fun _ kz => XS.aloadN X9.here hx rfl (hb hby d9_15) rfl rfl kz) ?_
  show OG p e below Φ T9 m 16 #[rv a, rv x1, rv x2, rv x3, rv x4, rv x5] [(.ref x3), (.ref a)]
  obtain ⟨T16, h16, X16, e16, W16, st16⟩ := putF X9 hx hZ hown (host := "") (Or.inl (ow52 hw)) Via.refl e9 F13 F10 (Or.inr ⟨(ow53 hw), rfl, hnm⟩) (ow5 hw) (ty := (.object "java/lang/String")) (by decide) rfl rfl (g := (mkF m 16 #[rv a, rv x1, rv x2, rv x3, rv x4, rv x5] [(.ref x3), (.ref a)])) rfl rfl (hb hby d9_16)
  have F17 := F10.wr W16
  have F18 := F11.other W16 (Or.inr (slot_ne (Or.inr (ow49 hw)) (Or.inr (ow53 hw)) (by decide) (t := (.object "java/lang/String")) (t' := (.object "java/lang/String")) (by decide) (by decide)))
  have F19 := F12.other W16 (Or.inr (slot_ne (Or.inr (ow51 hw)) (Or.inr (ow53 hw)) (by decide) (t := (.object "java/lang/String")) (t' := (.object "java/lang/String")) (by decide) (by decide)))
  have F20 := F13.same W16
  have F21 := F14.other W16 (Or.inr (slot_ne (Or.inr (ow55 hw)) (Or.inr (ow53 hw)) (by decide) (t := (.object "java/lang/String")) (t' := (.object "java/lang/String")) (by decide) (by decide)))
  have F22 := F15.other W16 (Or.inr (slot_ne (Or.inr (ow57 hw)) (Or.inr (ow53 hw)) (by decide) (t := (.object "java/lang/String")) (t' := (.object "java/lang/String")) (by decide) (by decide)))
  have K16 := K9.wr W16 (Or.inl (List.mem_of_getElem? (i := 0) rfl))
  have N16 := Fr.snoc X16 N9 g_a
  have Zs16 : n0 ≤ h16.size := by rw [W16.size]; exact Zs9
  refine OGo.st st16 ?_
  show OG p e below Φ T16 m 19 #[rv a, rv x1, rv x2, rv x3, rv x4, rv x5] []
  refine OGo.st (fun _ kz => XS.aloadN X16.here hx rfl (hb hby d9_19) rfl rfl kz) ?_
  show OG p e below Φ T16 m 20 #[rv a, rv x1, rv x2, rv x3, rv x4, rv x5] [(.ref a)]
  refine OGo.st (fun _ kz => XS.aload X16.here hx rfl (hb hby d9_20) rfl rfl kz) ?_
  show OG p e below Φ T16 m 22 #[rv a, rv x1, rv x2, rv x3, rv x4, rv x5] [(.ref x4), (.ref a)]
  obtain ⟨T23, h23, X23, e23, W23, st23⟩ := putF X16 hx hZ hown (host := "") (Or.inl (ow54 hw)) Via.refl e16 F21 F17 (Or.inr ⟨(ow55 hw), rfl, hnm⟩) (ow5 hw) (ty := (.object "java/lang/String")) (by decide) rfl rfl (g := (mkF m 22 #[rv a, rv x1, rv x2, rv x3, rv x4, rv x5] [(.ref x4), (.ref a)])) rfl rfl (hb hby d9_22)
  have F24 := F17.wr W23
  have F25 := F18.other W23 (Or.inr (slot_ne (Or.inr (ow49 hw)) (Or.inr (ow55 hw)) (by decide) (t := (.object "java/lang/String")) (t' := (.object "java/lang/String")) (by decide) (by decide)))
  have F26 := F19.other W23 (Or.inr (slot_ne (Or.inr (ow51 hw)) (Or.inr (ow55 hw)) (by decide) (t := (.object "java/lang/String")) (t' := (.object "java/lang/String")) (by decide) (by decide)))
  have F27 := F20.other W23 (Or.inr (slot_ne (Or.inr (ow53 hw)) (Or.inr (ow55 hw)) (by decide) (t := (.object "java/lang/String")) (t' := (.object "java/lang/String")) (by decide) (by decide)))
  have F28 := F21.same W23
  have F29 := F22.other W23 (Or.inr (slot_ne (Or.inr (ow57 hw)) (Or.inr (ow55 hw)) (by decide) (t := (.object "java/lang/String")) (t' := (.object "java/lang/String")) (by decide) (by decide)))
  have K23 := K16.wr W23 (Or.inl (List.mem_of_getElem? (i := 0) rfl))
  have N23 := Fr.snoc X23 N16 g_a
  have Zs23 : n0 ≤ h23.size := by rw [W23.size]; exact Zs16
  refine OGo.st st23 ?_
  show OG p e below Φ T23 m 25 #[rv a, rv x1, rv x2, rv x3, rv x4, rv x5] []
  refine OGo.st (fun _ kz => XS.aloadN X23.here hx rfl (hb hby d9_25) rfl rfl kz) ?_
  show OG p e below Φ T23 m 26 #[rv a, rv x1, rv x2, rv x3, rv x4, rv x5] [(.ref a)]
  refine OGo.st (fun _ kz => XS.aload X23.here hx rfl (hb hby d9_26) rfl rfl kz) ?_
  show OG p e below Φ T23 m 28 #[rv a, rv x1, rv x2, rv x3, rv x4, rv x5] [(.ref x5), (.ref a)]
  obtain ⟨T30, h30, X30, e30, W30, st30⟩ := putF X23 hx hZ hown (host := "") (Or.inl (ow56 hw)) Via.refl e23 F29 F24 (Or.inr ⟨(ow57 hw), rfl, hnm⟩) (ow5 hw) (ty := (.object "java/lang/String")) (by decide) rfl rfl (g := (mkF m 28 #[rv a, rv x1, rv x2, rv x3, rv x4, rv x5] [(.ref x5), (.ref a)])) rfl rfl (hb hby d9_28)
  have F31 := F24.wr W30
  have F32 := F25.other W30 (Or.inr (slot_ne (Or.inr (ow49 hw)) (Or.inr (ow57 hw)) (by decide) (t := (.object "java/lang/String")) (t' := (.object "java/lang/String")) (by decide) (by decide)))
  have F33 := F26.other W30 (Or.inr (slot_ne (Or.inr (ow51 hw)) (Or.inr (ow57 hw)) (by decide) (t := (.object "java/lang/String")) (t' := (.object "java/lang/String")) (by decide) (by decide)))
  have F34 := F27.other W30 (Or.inr (slot_ne (Or.inr (ow53 hw)) (Or.inr (ow57 hw)) (by decide) (t := (.object "java/lang/String")) (t' := (.object "java/lang/String")) (by decide) (by decide)))
  have F35 := F28.other W30 (Or.inr (slot_ne (Or.inr (ow55 hw)) (Or.inr (ow57 hw)) (by decide) (t := (.object "java/lang/String")) (t' := (.object "java/lang/String")) (by decide) (by decide)))
  have F36 := F29.same W30
  have K30 := K23.wr W30 (Or.inl (List.mem_of_getElem? (i := 0) rfl))
  have N30 := Fr.snoc X30 N23 g_a
  have Zs30 : n0 ≤ h30.size := by rw [W30.size]; exact Zs23
  refine OGo.st st30 ?_
  show OG p e below Φ T30 m 31 #[rv a, rv x1, rv x2, rv x3, rv x4, rv x5] []
  refine OGo.fin X30 hlk (v := none) (fun _ => rfl) (by decide) (by decide) (fun fs hr => X30.returnOut hx hret (hb hby d9_31) hr) fun U eU hF => hΦ _ _ _ ?_ hF
  rw [eU, e30]
  show Q_rpl Z a x1 x2 x3 x4 x5 u0 u1 u2 u3 u4 h0 n0 _ _ _
  exact ⟨rfl, N30, K30, F31, F32, F33, F34, F35, F36⟩

theorem pn4 : plainName "com/example/zonewright/zonewright/storage/PlanIndex" = true := by first | (simp [plainName, overriddenIn]; done) | decide +kernel
theorem d12_0 : decode prog_25_method_10_code 0 = .ok (.ldc2_w 124, 3) := by decide +kernel
theorem d12_3 : decode prog_25_method_10_code 3 = .ok (.ldc2_w 126, 3) := by decide +kernel
theorem d12_6 : decode prog_25_method_10_code 6 = .ok (.aload_n 0, 1) := by decide +kernel
theorem d12_7 : decode prog_25_method_10_code 7 = .ok (.invokevirtual 128, 3) := by decide +kernel
theorem pd10 : parseMethodDescriptor "()I" = some ⟨[], some .int⟩ := by decide +kernel
theorem d12_10 : decode prog_25_method_10_code 10 = .ok (.i2l, 1) := by decide +kernel
theorem d12_11 : decode prog_25_method_10_code 11 = .ok (.lmul, 1) := by decide +kernel
theorem d12_12 : decode prog_25_method_10_code 12 = .ok (.ladd, 1) := by decide +kernel
theorem d12_13 : decode prog_25_method_10_code 13 = .ok (.lreturn, 1) := by decide +kernel
theorem ef_rfb (m : MethodId) (x0 : Addr) : entryFrame m #[(.ref x0)] 1 = mkF m 0 #[.val (.ref x0)] [] := by first | (simp [entryFrame, mkF, argsToLocals, Value.category]; done) | rfl
def Q_rfb (Z : State) (s_ : Addr) (n_ : Int32) (qc : Int32) (h0 : Heap) (n0 : Nat) (v : Option Value) (h : Heap) (L : List Loc) : Prop := v = some (.long (own_fb n_)) ∧ Fr n0 L ∧ h = h0
set_option maxRecDepth 65536 in
set_option maxHeartbeats 40000000 in
theorem rfb (l : Launch) (Z : State) (a0 : Array Value) (hw : ∀ d ∈ tables_1, d.before a0 Z = true) (ws : List Jvm.Cond) (s_ : Addr) (n_ : Int32) (qc : Int32) (h0 : Heap) (n0 : Nat) (Z0 : n0 ≤ h0.size) (O_s : OStr Z h0 s_ n_) (S_q : Sta Z h0 "java/lang/String" "COMPACT_STRINGS" "Z" (.int qc)) (hq : ¬ qc = 0) :
    OCon l Z (⟨"com/example/zonewright/zonewright/storage/PlanIndex", "fieldBytes", "(Ljava/lang/String;)J"⟩ : MethodName) prog_25_method_10_code 1 (some .long) ws ({ frames := 2, cells := 0, slots := 0, locals := 29 } : Room) #[(.ref s_)] h0 (Q_rfb Z s_ n_ qc h0 n0) := by
  refine OCon.of (plainFor_of_name pn4) ?_
  intro p e s m below meth c s₁ Φ X0 hx hby hml hown hnm hret hlk hZ e0 hΦ
  have N0 := Fr.nil n0
  refine OGo.st (fun _ kz => castTop (ef_rfb m s_) kz) ?_
  show OG p e below Φ s₁ m 0 #[rv s_] []
  refine OGo.st (fun _ kz => X0.ldc2J hx hown (mvT hZ (ow72 hw)) rfl (hb hby d12_0) kz) ?_
  show OG p e below Φ s₁ m 3 #[rv s_] [(.long 64)]
  refine OGo.st (fun _ kz => X0.ldc2J hx hown (mvT hZ (ow73 hw)) rfl (hb hby d12_3) kz) ?_
  show OG p e below Φ s₁ m 6 #[rv s_] [(.long 2), (.long 64)]
  refine OGo.st (fun _ kz => XS.aloadN X0.here hx rfl (hb hby d12_6) rfl rfl kz) ?_
  show OG p e below Φ s₁ m 7 #[rv s_] [(.ref s_), (.long 2), (.long 64)]
  obtain ⟨oE1, ob1, oc1, oz1, od1, ov1, oF1, oG1, oV1, oh1, on1⟩ := id O_s
  obtain ⟨_, T1, L1, X1, hQ1, st1⟩ := own_callVi X0 hx hZ hown (ow74 hw) (ow75 hw) (notFace_of_selects (args := #[]) (mvT hZ (ow77 hw))) (ow77 hw) (ow76 hw) (ow13 hw) (ow78 hw) (by decide) (rgole l Z a0 hw [] s_ ob1 oc1 oz1 od1 ov1 n_ qc h0 n0 Z0 oE1 oF1 oG1 oV1 oh1 on1 S_q hq) e0 (W := 4) (by decide) (by decide) (by decide) (by decide) O_s.1 (pc := 7) (ls := #[rv s_]) (stk := [(.ref s_), (.long 2), (.long 64)]) (by rw [hml]; rfl) (argsL := []) (rest := [(.long 2), (.long 64)]) (lenOf pd10 rfl) rfl rfl (Nat.le_of_eq rfl) (hb hby d12_7)
  obtain ⟨rfl, Nq1, e1⟩ := hQ1
  have N1 := Fr.app N0 Nq1
  refine OGo.st st1 ?_
  show OG p e below Φ T1 m 10 #[rv s_] [(.int n_), (.long 2), (.long 64)]
  refine OGo.st (fun _ kz => XT.i2l X1.here hx rfl (hb hby d12_10) rfl kz) ?_
  show OG p e below Φ T1 m 11 #[rv s_] [(.long (n_.toInt64)), (.long 2), (.long 64)]
  refine OGo.st (fun _ kz => XT.lmul X1.here hx rfl (hb hby d12_11) rfl kz) ?_
  show OG p e below Φ T1 m 12 #[rv s_] [(.long ((2 : Int64) * (n_.toInt64))), (.long 64)]
  refine OGo.st (fun _ kz => XT.ladd X1.here hx rfl (hb hby d12_12) rfl kz) ?_
  show OG p e below Φ T1 m 13 #[rv s_] [(.long ((64 : Int64) + ((2 : Int64) * (n_.toInt64))))]
  refine OGo.fin X1 hlk (v := (some (.long ((64 : Int64) + ((2 : Int64) * (n_.toInt64)))))) (fun h => by rw [hret] at h; cases h) (by decide) (by decide) (fun fs hr => X1.lreturnOut hx hret (hb hby d12_13) hr) fun U eU hF => hΦ _ _ _ ?_ hF
  rw [eU, e1]
  show Q_rfb Z s_ n_ qc h0 n0 _ _ _
  exact ⟨rfl, N1, rfl⟩

theorem d11_0 : decode prog_20_method_2_code 0 = .ok (.aload_n 0, 1) := by decide +kernel
theorem d11_1 : decode prog_20_method_2_code 1 = .ok (.getfield 7, 3) := by decide +kernel
theorem d11_4 : decode prog_20_method_2_code 4 = .ok (.areturn, 1) := by decide +kernel
theorem ef_rg_id (m : MethodId) (x0 : Addr) : entryFrame m #[(.ref x0)] 1 = mkF m 0 #[.val (.ref x0)] [] := by first | (simp [entryFrame, mkF, argsToLocals, Value.category]; done) | rfl
def Q_rg_id (Z : State) (a : Addr) (q : Addr) (h0 : Heap) (n0 : Nat) (v : Option Value) (h : Heap) (L : List Loc) : Prop := v = some (.ref q) ∧ Fr n0 L ∧ h = h0
set_option maxRecDepth 65536 in
set_option maxHeartbeats 40000000 in
theorem rg_id (l : Launch) (Z : State) (a0 : Array Value) (hw : ∀ d ∈ tables_1, d.before a0 Z = true) (ws : List Jvm.Cond) (a : Addr) (q : Addr) (h0 : Heap) (n0 : Nat) (Z0 : n0 ≤ h0.size) (F_a : Fld Z h0 a "com/example/zonewright/zonewright/plan/Plan" "id" "Ljava/lang/String;" (.ref q)) :
    OCon l Z (⟨"com/example/zonewright/zonewright/plan/Plan", "getId", "()Ljava/lang/String;"⟩ : MethodName) prog_20_method_2_code 1 (some (.object "java/lang/String")) ws ({ frames := 0, cells := 0, slots := 0, locals := 0 } : Room) #[(.ref a)] h0 (Q_rg_id Z a q h0 n0) := by
  refine OCon.of (plainFor_of_name pn3) ?_
  intro p e s m below meth c s₁ Φ X0 hx hby hml hown hnm hret hlk hZ e0 hΦ
  have N0 := Fr.nil n0
  refine OGo.st (fun _ kz => castTop (ef_rg_id m a) kz) ?_
  show OG p e below Φ s₁ m 0 #[rv a] []
  refine OGo.st (fun _ kz => XS.aloadN X0.here hx rfl (hb hby d11_0) rfl rfl kz) ?_
  show OG p e below Φ s₁ m 1 #[rv a] [(.ref a)]
  obtain ⟨T1, X1, e1, st1⟩ := getF X0 hx hZ hown (host := "") (Or.inl (ow48 hw)) Via.refl e0 F_a (g := (mkF m 1 #[rv a] [(.ref a)])) rfl rfl (hb hby d11_1)
  refine OGo.st st1 ?_
  show OG p e below Φ T1 m 4 #[rv a] [(.ref q)]
  refine OGo.fin X1 hlk (v := (some (.ref q))) (fun h => by rw [hret] at h; cases h) (by decide) (by decide) (fun fs hr => X1.areturnOut hx rfl hret rfl (hb hby d11_4) hr) fun U eU hF => hΦ _ _ _ ?_ hF
  rw [eU, e1]
  show Q_rg_id Z a q h0 n0 _ _ _
  exact ⟨rfl, N0, rfl⟩

theorem d15_0 : decode prog_20_method_3_code 0 = .ok (.aload_n 0, 1) := by decide +kernel
theorem d15_1 : decode prog_20_method_3_code 1 = .ok (.getfield 13, 3) := by decide +kernel
theorem d15_4 : decode prog_20_method_3_code 4 = .ok (.areturn, 1) := by decide +kernel
theorem ef_rg_name (m : MethodId) (x0 : Addr) : entryFrame m #[(.ref x0)] 1 = mkF m 0 #[.val (.ref x0)] [] := by first | (simp [entryFrame, mkF, argsToLocals, Value.category]; done) | rfl
def Q_rg_name (Z : State) (a : Addr) (q : Addr) (h0 : Heap) (n0 : Nat) (v : Option Value) (h : Heap) (L : List Loc) : Prop := v = some (.ref q) ∧ Fr n0 L ∧ h = h0
set_option maxRecDepth 65536 in
set_option maxHeartbeats 40000000 in
theorem rg_name (l : Launch) (Z : State) (a0 : Array Value) (hw : ∀ d ∈ tables_1, d.before a0 Z = true) (ws : List Jvm.Cond) (a : Addr) (q : Addr) (h0 : Heap) (n0 : Nat) (Z0 : n0 ≤ h0.size) (F_a : Fld Z h0 a "com/example/zonewright/zonewright/plan/Plan" "name" "Ljava/lang/String;" (.ref q)) :
    OCon l Z (⟨"com/example/zonewright/zonewright/plan/Plan", "getName", "()Ljava/lang/String;"⟩ : MethodName) prog_20_method_3_code 1 (some (.object "java/lang/String")) ws ({ frames := 0, cells := 0, slots := 0, locals := 0 } : Room) #[(.ref a)] h0 (Q_rg_name Z a q h0 n0) := by
  refine OCon.of (plainFor_of_name pn3) ?_
  intro p e s m below meth c s₁ Φ X0 hx hby hml hown hnm hret hlk hZ e0 hΦ
  have N0 := Fr.nil n0
  refine OGo.st (fun _ kz => castTop (ef_rg_name m a) kz) ?_
  show OG p e below Φ s₁ m 0 #[rv a] []
  refine OGo.st (fun _ kz => XS.aloadN X0.here hx rfl (hb hby d15_0) rfl rfl kz) ?_
  show OG p e below Φ s₁ m 1 #[rv a] [(.ref a)]
  obtain ⟨T1, X1, e1, st1⟩ := getF X0 hx hZ hown (host := "") (Or.inl (ow50 hw)) Via.refl e0 F_a (g := (mkF m 1 #[rv a] [(.ref a)])) rfl rfl (hb hby d15_1)
  refine OGo.st st1 ?_
  show OG p e below Φ T1 m 4 #[rv a] [(.ref q)]
  refine OGo.fin X1 hlk (v := (some (.ref q))) (fun h => by rw [hret] at h; cases h) (by decide) (by decide) (fun fs hr => X1.areturnOut hx rfl hret rfl (hb hby d15_4) hr) fun U eU hF => hΦ _ _ _ ?_ hF
  rw [eU, e1]
  show Q_rg_name Z a q h0 n0 _ _ _
  exact ⟨rfl, N0, rfl⟩

theorem d16_0 : decode prog_20_method_4_code 0 = .ok (.aload_n 0, 1) := by decide +kernel
theorem d16_1 : decode prog_20_method_4_code 1 = .ok (.getfield 16, 3) := by decide +kernel
theorem d16_4 : decode prog_20_method_4_code 4 = .ok (.areturn, 1) := by decide +kernel
theorem ef_rg_description (m : MethodId) (x0 : Addr) : entryFrame m #[(.ref x0)] 1 = mkF m 0 #[.val (.ref x0)] [] := by first | (simp [entryFrame, mkF, argsToLocals, Value.category]; done) | rfl
def Q_rg_description (Z : State) (a : Addr) (q : Addr) (h0 : Heap) (n0 : Nat) (v : Option Value) (h : Heap) (L : List Loc) : Prop := v = some (.ref q) ∧ Fr n0 L ∧ h = h0
set_option maxRecDepth 65536 in
set_option maxHeartbeats 40000000 in
theorem rg_description (l : Launch) (Z : State) (a0 : Array Value) (hw : ∀ d ∈ tables_1, d.before a0 Z = true) (ws : List Jvm.Cond) (a : Addr) (q : Addr) (h0 : Heap) (n0 : Nat) (Z0 : n0 ≤ h0.size) (F_a : Fld Z h0 a "com/example/zonewright/zonewright/plan/Plan" "description" "Ljava/lang/String;" (.ref q)) :
    OCon l Z (⟨"com/example/zonewright/zonewright/plan/Plan", "getDescription", "()Ljava/lang/String;"⟩ : MethodName) prog_20_method_4_code 1 (some (.object "java/lang/String")) ws ({ frames := 0, cells := 0, slots := 0, locals := 0 } : Room) #[(.ref a)] h0 (Q_rg_description Z a q h0 n0) := by
  refine OCon.of (plainFor_of_name pn3) ?_
  intro p e s m below meth c s₁ Φ X0 hx hby hml hown hnm hret hlk hZ e0 hΦ
  have N0 := Fr.nil n0
  refine OGo.st (fun _ kz => castTop (ef_rg_description m a) kz) ?_
  show OG p e below Φ s₁ m 0 #[rv a] []
  refine OGo.st (fun _ kz => XS.aloadN X0.here hx rfl (hb hby d16_0) rfl rfl kz) ?_
  show OG p e below Φ s₁ m 1 #[rv a] [(.ref a)]
  obtain ⟨T1, X1, e1, st1⟩ := getF X0 hx hZ hown (host := "") (Or.inl (ow52 hw)) Via.refl e0 F_a (g := (mkF m 1 #[rv a] [(.ref a)])) rfl rfl (hb hby d16_1)
  refine OGo.st st1 ?_
  show OG p e below Φ T1 m 4 #[rv a] [(.ref q)]
  refine OGo.fin X1 hlk (v := (some (.ref q))) (fun h => by rw [hret] at h; cases h) (by decide) (by decide) (fun fs hr => X1.areturnOut hx rfl hret rfl (hb hby d16_4) hr) fun U eU hF => hΦ _ _ _ ?_ hF
  rw [eU, e1]
  show Q_rg_description Z a q h0 n0 _ _ _
  exact ⟨rfl, N0, rfl⟩

theorem d17_0 : decode prog_20_method_5_code 0 = .ok (.aload_n 0, 1) := by decide +kernel
theorem d17_1 : decode prog_20_method_5_code 1 = .ok (.getfield 19, 3) := by decide +kernel
theorem d17_4 : decode prog_20_method_5_code 4 = .ok (.areturn, 1) := by decide +kernel
theorem ef_rg_authDomain (m : MethodId) (x0 : Addr) : entryFrame m #[(.ref x0)] 1 = mkF m 0 #[.val (.ref x0)] [] := by first | (simp [entryFrame, mkF, argsToLocals, Value.category]; done) | rfl
def Q_rg_authDomain (Z : State) (a : Addr) (q : Addr) (h0 : Heap) (n0 : Nat) (v : Option Value) (h : Heap) (L : List Loc) : Prop := v = some (.ref q) ∧ Fr n0 L ∧ h = h0
set_option maxRecDepth 65536 in
set_option maxHeartbeats 40000000 in
theorem rg_authDomain (l : Launch) (Z : State) (a0 : Array Value) (hw : ∀ d ∈ tables_1, d.before a0 Z = true) (ws : List Jvm.Cond) (a : Addr) (q : Addr) (h0 : Heap) (n0 : Nat) (Z0 : n0 ≤ h0.size) (F_a : Fld Z h0 a "com/example/zonewright/zonewright/plan/Plan" "authDomain" "Ljava/lang/String;" (.ref q)) :
    OCon l Z (⟨"com/example/zonewright/zonewright/plan/Plan", "getAuthDomain", "()Ljava/lang/String;"⟩ : MethodName) prog_20_method_5_code 1 (some (.object "java/lang/String")) ws ({ frames := 0, cells := 0, slots := 0, locals := 0 } : Room) #[(.ref a)] h0 (Q_rg_authDomain Z a q h0 n0) := by
  refine OCon.of (plainFor_of_name pn3) ?_
  intro p e s m below meth c s₁ Φ X0 hx hby hml hown hnm hret hlk hZ e0 hΦ
  have N0 := Fr.nil n0
  refine OGo.st (fun _ kz => castTop (ef_rg_authDomain m a) kz) ?_
  show OG p e below Φ s₁ m 0 #[rv a] []
  refine OGo.st (fun _ kz => XS.aloadN X0.here hx rfl (hb hby d17_0) rfl rfl kz) ?_
  show OG p e below Φ s₁ m 1 #[rv a] [(.ref a)]
  obtain ⟨T1, X1, e1, st1⟩ := getF X0 hx hZ hown (host := "") (Or.inl (ow54 hw)) Via.refl e0 F_a (g := (mkF m 1 #[rv a] [(.ref a)])) rfl rfl (hb hby d17_1)
  refine OGo.st st1 ?_
  show OG p e below Φ T1 m 4 #[rv a] [(.ref q)]
  refine OGo.fin X1 hlk (v := (some (.ref q))) (fun h => by rw [hret] at h; cases h) (by decide) (by decide) (fun fs hr => X1.areturnOut hx rfl hret rfl (hb hby d17_4) hr) fun U eU hF => hΦ _ _ _ ?_ hF
  rw [eU, e1]
  show Q_rg_authDomain Z a q h0 n0 _ _ _
  exact ⟨rfl, N0, rfl⟩

theorem d18_0 : decode prog_20_method_6_code 0 = .ok (.aload_n 0, 1) := by decide +kernel
theorem d18_1 : decode prog_20_method_6_code 1 = .ok (.getfield 22, 3) := by decide +kernel
theorem d18_4 : decode prog_20_method_6_code 4 = .ok (.areturn, 1) := by decide +kernel
theorem ef_rg_instanceName (m : MethodId) (x0 : Addr) : entryFrame m #[(.ref x0)] 1 = mkF m 0 #[.val (.ref x0)] [] := by first | (simp [entryFrame, mkF, argsToLocals, Value.category]; done) | rfl
def Q_rg_instanceName (Z : State) (a : Addr) (q : Addr) (h0 : Heap) (n0 : Nat) (v : Option Value) (h : Heap) (L : List Loc) : Prop := v = some (.ref q) ∧ Fr n0 L ∧ h = h0
set_option maxRecDepth 65536 in
set_option maxHeartbeats 40000000 in
theorem rg_instanceName (l : Launch) (Z : State) (a0 : Array Value) (hw : ∀ d ∈ tables_1, d.before a0 Z = true) (ws : List Jvm.Cond) (a : Addr) (q : Addr) (h0 : Heap) (n0 : Nat) (Z0 : n0 ≤ h0.size) (F_a : Fld Z h0 a "com/example/zonewright/zonewright/plan/Plan" "instanceName" "Ljava/lang/String;" (.ref q)) :
    OCon l Z (⟨"com/example/zonewright/zonewright/plan/Plan", "getInstanceName", "()Ljava/lang/String;"⟩ : MethodName) prog_20_method_6_code 1 (some (.object "java/lang/String")) ws ({ frames := 0, cells := 0, slots := 0, locals := 0 } : Room) #[(.ref a)] h0 (Q_rg_instanceName Z a q h0 n0) := by
  refine OCon.of (plainFor_of_name pn3) ?_
  intro p e s m below meth c s₁ Φ X0 hx hby hml hown hnm hret hlk hZ e0 hΦ
  have N0 := Fr.nil n0
  refine OGo.st (fun _ kz => castTop (ef_rg_instanceName m a) kz) ?_
  show OG p e below Φ s₁ m 0 #[rv a] []
  refine OGo.st (fun _ kz => XS.aloadN X0.here hx rfl (hb hby d18_0) rfl rfl kz) ?_
  show OG p e below Φ s₁ m 1 #[rv a] [(.ref a)]
  obtain ⟨T1, X1, e1, st1⟩ := getF X0 hx hZ hown (host := "") (Or.inl (ow56 hw)) Via.refl e0 F_a (g := (mkF m 1 #[rv a] [(.ref a)])) rfl rfl (hb hby d18_1)
  refine OGo.st st1 ?_
  show OG p e below Φ T1 m 4 #[rv a] [(.ref q)]
  refine OGo.fin X1 hlk (v := (some (.ref q))) (fun h => by rw [hret] at h; cases h) (by decide) (by decide) (fun fs hr => X1.areturnOut hx rfl hret rfl (hb hby d18_4) hr) fun U eU hF => hΦ _ _ _ ?_ hF
  rw [eU, e1]
  show Q_rg_instanceName Z a q h0 n0 _ _ _
  exact ⟨rfl, N0, rfl⟩

theorem d1_0 : decode prog_25_method_9_code 0 = .ok (.aload_n 0, 1) := by decide +kernel
theorem d1_1 : decode prog_25_method_9_code 1 = .ok (.ifnonnull 5, 3) := by decide +kernel
theorem d1_4 : decode prog_25_method_9_code 4 = .ok (.lconst 0, 1) := by decide +kernel
theorem d1_5 : decode prog_25_method_9_code 5 = .ok (.lreturn, 1) := by decide +kernel
theorem ef_rbn (m : MethodId)  : entryFrame m #[.null] 1 = mkF m 0 #[.val .null] [] := by first | (simp [entryFrame, mkF, argsToLocals, Value.category]; done) | rfl
def Q_rbn (Z : State)  (h0 : Heap) (n0 : Nat) (v : Option Value) (h : Heap) (L : List Loc) : Prop := v = some (.long (0 : Int64)) ∧ Fr n0 L ∧ h = h0
set_option maxRecDepth 65536 in
set_option maxHeartbeats 40000000 in
theorem rbn (l : Launch) (Z : State) (a0 : Array Value) (hw : ∀ d ∈ tables_1, d.before a0 Z = true) (ws : List Jvm.Cond)  (h0 : Heap) (n0 : Nat) (Z0 : n0 ≤ h0.size)  :
    OCon l Z (⟨"com/example/zonewright/zonewright/storage/PlanIndex", "bytesOf", "(Lcom/example/zonewright/zonewright/plan/Plan;)J"⟩ : MethodName) prog_25_method_9_code 1 (some .long) ws ({ frames := 0, cells := 0, slots := 0, locals := 0 } : Room) #[.null] h0 (Q_rbn Z  h0 n0) := by
  refine OCon.of (plainFor_of_name pn4) ?_
  intro p e s m below meth c s₁ Φ X0 hx hby hml hown hnm hret hlk hZ e0 hΦ
  have N0 := Fr.nil n0
  refine OGo.st (fun _ kz => castTop (ef_rbn m ) kz) ?_
  show OG p e below Φ s₁ m 0 #[.val .null] []
  refine OGo.st (fun _ kz => XS.aloadN X0.here hx rfl (hb hby d1_0) rfl rfl kz) ?_
  show OG p e below Φ s₁ m 1 #[.val .null] [.null]
  refine OGo.st (fun _ kz => XT.ifnonnullNo X0.here hx rfl (hb hby d1_1) rfl kz) ?_
  show OG p e below Φ s₁ m 4 #[.val .null] []
  refine OGo.st (fun _ kz => XT.lconst X0.here hx rfl (hb hby d1_4) kz) ?_
  show OG p e below Φ s₁ m 5 #[.val .null] [(.long 0)]
  refine OGo.fin X0 hlk (v := (some (.long 0))) (fun h => by rw [hret] at h; cases h) (by decide) (by decide) (fun fs hr => X0.lreturnOut hx hret (hb hby d1_5) hr) fun U eU hF => hΦ _ _ _ ?_ hF
  rw [eU, e0]
  show Q_rbn Z  h0 n0 _ _ _
  exact ⟨rfl, N0, rfl⟩

theorem d1_6 : decode prog_25_method_9_code 6 = .ok (.ldc2_w 106, 3) := by decide +kernel
theorem d1_9 : decode prog_25_method_9_code 9 = .ok (.aload_n 0, 1) := by decide +kernel
theorem d1_10 : decode prog_25_method_9_code 10 = .ok (.invokevirtual 62, 3) := by decide +kernel
theorem pd11 : parseMethodDescriptor "()Ljava/lang/String;" = some ⟨[], some (.object "java/lang/String")⟩ := by decide +kernel
theorem d1_13 : decode prog_25_method_9_code 13 = .ok (.invokestatic 108, 3) := by decide +kernel
theorem pd12 : parseMethodDescriptor "(Ljava/lang/String;)J" = some ⟨[(.object "java/lang/String")], some .long⟩ := by decide +kernel
theorem d1_16 : decode prog_25_method_9_code 16 = .ok (.ladd, 1) := by decide +kernel
theorem d1_17 : decode prog_25_method_9_code 17 = .ok (.aload_n 0, 1) := by decide +kernel
theorem d1_18 : decode prog_25_method_9_code 18 = .ok (.invokevirtual 112, 3) := by decide +kernel
theorem d1_21 : decode prog_25_method_9_code 21 = .ok (.invokestatic 108, 3) := by decide +kernel
theorem d1_24 : decode prog_25_method_9_code 24 = .ok (.ladd, 1) := by decide +kernel
theorem d1_25 : decode prog_25_method_9_code 25 = .ok (.aload_n 0, 1) := by decide +kernel
theorem d1_26 : decode prog_25_method_9_code 26 = .ok (.invokevirtual 115, 3) := by decide +kernel
theorem d1_29 : decode prog_25_method_9_code 29 = .ok (.invokestatic 108, 3) := by decide +kernel
theorem d1_32 : decode prog_25_method_9_code 32 = .ok (.ladd, 1) := by decide +kernel
theorem d1_33 : decode prog_25_method_9_code 33 = .ok (.aload_n 0, 1) := by decide +kernel
theorem d1_34 : decode prog_25_method_9_code 34 = .ok (.invokevirtual 118, 3) := by decide +kernel
theorem d1_37 : decode prog_25_method_9_code 37 = .ok (.invokestatic 108, 3) := by decide +kernel
theorem d1_40 : decode prog_25_method_9_code 40 = .ok (.ladd, 1) := by decide +kernel
theorem d1_41 : decode prog_25_method_9_code 41 = .ok (.aload_n 0, 1) := by decide +kernel
theorem d1_42 : decode prog_25_method_9_code 42 = .ok (.invokevirtual 121, 3) := by decide +kernel
theorem d1_45 : decode prog_25_method_9_code 45 = .ok (.invokestatic 108, 3) := by decide +kernel
theorem d1_48 : decode prog_25_method_9_code 48 = .ok (.ladd, 1) := by decide +kernel
theorem d1_49 : decode prog_25_method_9_code 49 = .ok (.lreturn, 1) := by decide +kernel
theorem ef_rbo (m : MethodId) (x0 : Addr) : entryFrame m #[(.ref x0)] 1 = mkF m 0 #[.val (.ref x0)] [] := by first | (simp [entryFrame, mkF, argsToLocals, Value.category]; done) | rfl
def Q_rbo (Z : State) (a : Addr) (q0 : Addr) (q1 : Addr) (q2 : Addr) (q3 : Addr) (q4 : Addr) (m0 : Int32) (m1 : Int32) (m2 : Int32) (m3 : Int32) (m4 : Int32) (qc : Int32) (h0 : Heap) (n0 : Nat) (v : Option Value) (h : Heap) (L : List Loc) : Prop := v = some (.long ((((((224 : Int64) + (own_fb m0)) + (own_fb m1)) + (own_fb m2)) + (own_fb m3)) + (own_fb m4))) ∧ Fr n0 L ∧ h = h0
set_option maxRecDepth 65536 in
set_option maxHeartbeats 40000000 in
theorem rbo (l : Launch) (Z : State) (a0 : Array Value) (hw : ∀ d ∈ tables_1, d.before a0 Z = true) (ws : List Jvm.Cond) (a : Addr) (q0 : Addr) (q1 : Addr) (q2 : Addr) (q3 : Addr) (q4 : Addr) (m0 : Int32) (m1 : Int32) (m2 : Int32) (m3 : Int32) (m4 : Int32) (qc : Int32) (h0 : Heap) (n0 : Nat) (Z0 : n0 ≤ h0.size) (E_a : Exa Z h0 a "com/example/zonewright/zonewright/plan/Plan") (S_q : Sta Z h0 "java/lang/String" "COMPACT_STRINGS" "Z" (.int qc)) (hq : ¬ qc = 0) (F_0 : Fld Z h0 a "com/example/zonewright/zonewright/plan/Plan" "id" "Ljava/lang/String;" (.ref q0)) (O_0 : OStr Z h0 q0 m0) (F_1 : Fld Z h0 a "com/example/zonewright/zonewright/plan/Plan" "name" "Ljava/lang/String;" (.ref q1)) (O_1 : OStr Z h0 q1 m1) (F_2 : Fld Z h0 a "com/example/zonewright/zonewright/plan/Plan" "description" "Ljava/lang/String;" (.ref q2)) (O_2 : OStr Z h0 q2 m2) (F_3 : Fld Z h0 a "com/example/zonewright/zonewright/plan/Plan" "authDomain" "Ljava/lang/String;" (.ref q3)) (O_3 : OStr Z h0 q3 m3) (F_4 : Fld Z h0 a "com/example/zonewright/zonewright/plan/Plan" "instanceName" "Ljava/lang/String;" (.ref q4)) (O_4 : OStr Z h0 q4 m4) :
    OCon l Z (⟨"com/example/zonewright/zonewright/storage/PlanIndex", "bytesOf", "(Lcom/example/zonewright/zonewright/plan/Plan;)J"⟩ : MethodName) prog_25_method_9_code 1 (some .long) ws ({ frames := 3, cells := 0, slots := 0, locals := 43 } : Room) #[(.ref a)] h0 (Q_rbo Z a q0 q1 q2 q3 q4 m0 m1 m2 m3 m4 qc h0 n0) := by
  refine OCon.of (plainFor_of_name pn4) ?_
  intro p e s m below meth c s₁ Φ X0 hx hby hml hown hnm hret hlk hZ e0 hΦ
  have N0 := Fr.nil n0
  refine OGo.st (fun _ kz => castTop (ef_rbo m a) kz) ?_
  show OG p e below Φ s₁ m 0 #[rv a] []
  refine OGo.st (fun _ kz => XS.aloadN X0.here hx rfl (hb hby d1_0) rfl rfl kz) ?_
  show OG p e below Φ s₁ m 1 #[rv a] [(.ref a)]
  refine OGo.st (fun _ kz => XT.ifnonnullYes X0.here hx rfl (pc0 := 1) (pc' := 6) rfl (hb hby d1_1) rfl (by decide) (by decide) kz) ?_
  show OG p e below Φ s₁ m 6 #[rv a] []
  refine OGo.st (fun _ kz => X0.ldc2J hx hown (mvT hZ (ow63 hw)) rfl (hb hby d1_6) kz) ?_
  show OG p e below Φ s₁ m 9 #[rv a] [(.long 224)]
  refine OGo.st (fun _ kz => XS.aloadN X0.here hx rfl (hb hby d1_9) rfl rfl kz) ?_
  show OG p e below Φ s₁ m 10 #[rv a] [(.ref a), (.long 224)]
  obtain ⟨_, T1, L1, X1, hQ1, st1⟩ := own_callVi X0 hx hZ hown (ow64 hw) (ow65 hw) (notFace_of_selects (args := #[]) (mvT hZ (ow67 hw))) (ow67 hw) (ow66 hw) (ow6 hw) (ow68 hw) (by decide) (rg_id l Z a0 hw [] a q0 h0 n0 Z0 F_0) e0 (W := 2) (by decide) (by decide) (by decide) (by decide) E_a (pc := 10) (ls := #[rv a]) (stk := [(.ref a), (.long 224)]) (by rw [hml]; rfl) (argsL := []) (rest := [(.long 224)]) (lenOf pd11 rfl) rfl rfl (Nat.le_of_eq rfl) (hb hby d1_10)
  obtain ⟨rfl, Nq1, e1⟩ := hQ1
  have N1 := Fr.app N0 Nq1
  refine OGo.st st1 ?_
  show OG p e below Φ T1 m 13 #[rv a] [(.ref q0), (.long 224)]
  obtain ⟨_, T2, L2, X2, hQ2, st2⟩ := own_callSt X1 hx hZ hown (ow69 hw) (ow70 hw) (ow2 hw) (ow71 hw) (by decide) (rfb l Z a0 hw [] q0 m0 qc h0 n0 Z0 O_0 S_q hq) e1 (W := 2) (by decide) (by decide) (by decide) (by decide) (pc := 13) (ls := #[rv a]) (stk := [(.ref q0), (.long 224)]) (by rw [hml]; rfl) (argsL := [(.ref q0)]) (rest := [(.long 224)]) (lenOf pd12 rfl) rfl rfl (Nat.le_of_eq rfl) (hb hby d1_13)
  obtain ⟨rfl, Nq2, e2⟩ := hQ2
  have N2 := Fr.app N1 Nq2
  refine OGo.st st2 ?_
  show OG p e below Φ T2 m 16 #[rv a] [(.long (own_fb m0)), (.long 224)]
  refine OGo.st (fun _ kz => XT.ladd X2.here hx rfl (hb hby d1_16) rfl kz) ?_
  show OG p e below Φ T2 m 17 #[rv a] [(.long ((224 : Int64) + (own_fb m0)))]
  refine OGo.st (fun _ kz => XS.aloadN X2.here hx rfl (hb hby d1_17) rfl rfl kz) ?_
  show OG p e below Φ T2 m 18 #[rv a] [(.ref a), (.long ((224 : Int64) + (own_fb m0)))]
  obtain ⟨_, T3, L3, X3, hQ3, st3⟩ := own_callVi X2 hx hZ hown (ow84 hw) (ow85 hw) (notFace_of_selects (args := #[]) (mvT hZ (ow87 hw))) (ow87 hw) (ow86 hw) (ow6 hw) (ow88 hw) (by decide) (rg_name l Z a0 hw [] a q1 h0 n0 Z0 F_1) e2 (W := 2) (by decide) (by decide) (by decide) (by decide) E_a (pc := 18) (ls := #[rv a]) (stk := [(.ref a), (.long ((224 : Int64) + (own_fb m0)))]) (by rw [hml]; rfl) (argsL := []) (rest := [(.long ((224 : Int64) + (own_fb m0)))]) (lenOf pd11 rfl) rfl rfl (Nat.le_of_eq rfl) (hb hby d1_18)
  obtain ⟨rfl, Nq3, e3⟩ := hQ3
  have N3 := Fr.app N2 Nq3
  refine OGo.st st3 ?_
  show OG p e below Φ T3 m 21 #[rv a] [(.ref q1), (.long ((224 : Int64) + (own_fb m0)))]
  obtain ⟨_, T4, L4, X4, hQ4, st4⟩ := own_callSt X3 hx hZ hown (ow69 hw) (ow70 hw) (ow2 hw) (ow71 hw) (by decide) (rfb l Z a0 hw [] q1 m1 qc h0 n0 Z0 O_1 S_q hq) e3 (W := 2) (by decide) (by decide) (by decide) (by decide) (pc := 21) (ls := #[rv a]) (stk := [(.ref q1), (.long ((224 : Int64) + (own_fb m0)))]) (by rw [hml]; rfl) (argsL := [(.ref q1)]) (rest := [(.long ((224 : Int64) + (own_fb m0)))]) (lenOf pd12 rfl) rfl rfl (Nat.le_of_eq rfl) (hb hby d1_21)
  obtain ⟨rfl, Nq4, e4⟩ := hQ4
  have N4 := Fr.app N3 Nq4
  refine OGo.st st4 ?_
  show OG p e below Φ T4 m 24 #[rv a] [(.long (own_fb m1)), (.long ((224 : Int64) + (own_fb m0)))]
  refine OGo.st (fun _ kz => XT.ladd X4.here hx rfl (hb hby d1_24) rfl kz) ?_
  show OG p e below Φ T4 m 25 #[rv a] [(.long (((224 : Int64) + (own_fb m0)) + (own_fb m1)))]
  refine OGo.st (fun _ kz => XS.aloadN X4.here hx rfl (hb hby d1_25) rfl rfl kz) ?_
  show OG p e below Φ T4 m 26 #[rv a] [(.ref a), (.long (((224 : Int64) + (own_fb m0)) + (own_fb m1)))]
  obtain ⟨_, T5, L5, X5, hQ5, st5⟩ := own_callVi X4 hx hZ hown (ow89 hw) (ow90 hw) (notFace_of_selects (args := #[]) (mvT hZ (ow92 hw))) (ow92 hw) (ow91 hw) (ow6 hw) (ow93 hw) (by decide) (rg_description l Z a0 hw [] a q2 h0 n0 Z0 F_2) e4 (W := 2) (by decide) (by decide) (by decide) (by decide) E_a (pc := 26) (ls := #[rv a]) (stk := [(.ref a), (.long (((224 : Int64) + (own_fb m0)) + (own_fb m1)))]) (by rw [hml]; rfl) (argsL := []) (rest := [(.long (((224 : Int64) + (own_fb m0)) + (own_fb m1)))]) (lenOf pd11 rfl) rfl rfl (Nat.le_of_eq rfl) (hb hby d1_26)
  obtain ⟨rfl, Nq5, e5⟩ := hQ5
  have N5 := Fr.app N4 Nq5
  refine OGo.st st5 ?_
  show OG p e below Φ T5 m 29 #[rv a] [(.ref q2), (.long (((224 : Int64) + (own_fb m0)) + (own_fb m1)))]
  obtain ⟨_, T6, L6, X6, hQ6, st6⟩ := own_callSt X5 hx hZ hown (ow69 hw) (ow70 hw) (ow2 hw) (ow71 hw) (by decide) (rfb l Z a0 hw [] q2 m2 qc h0 n0 Z0 O_2 S_q hq) e5 (W := 2) (by decide) (by decide) (by decide) (by decide) (pc := 29) (ls := #[rv a]) (stk := [(.ref q2), (.long (((224 : Int64) + (own_fb m0)) + (own_fb m1)))]) (by rw [hml]; rfl) (argsL := [(.ref q2)]) (rest := [(.long (((224 : Int64) + (own_fb m0)) + (own_fb m1)))]) (lenOf pd12 rfl) rfl rfl (Nat.le_of_eq rfl) (hb hby d1_29)
  obtain ⟨rfl, Nq6, e6⟩ := hQ6
  have N6 := Fr.app N5 Nq6
  refine OGo.st st6 ?_
  show OG p e below Φ T6 m 32 #[rv a] [(.long (own_fb m2)), (.long (((224 : Int64) + (own_fb m0)) + (own_fb m1)))]
  refine OGo.st (fun _ kz => XT.ladd X6.here hx rfl (hb hby d1_32) rfl kz) ?_
  show OG p e below Φ T6 m 33 #[rv a] [(.long ((((224 : Int64) + (own_fb m0)) + (own_fb m1)) + (own_fb m2)))]
  refine OGo.st (fun _ kz => XS.aloadN X6.here hx rfl (hb hby d1_33) rfl rfl kz) ?_
  show OG p e below Φ T6 m 34 #[rv a] [(.ref a), (.long ((((224 : Int64) + (own_fb m0)) + (own_fb m1)) + (own_fb m2)))]
  obtain ⟨_, T7, L7, X7, hQ7, st7⟩ := own_callVi X6 hx hZ hown (ow94 hw) (ow95 hw) (notFace_of_selects (args := #[]) (mvT hZ (ow97 hw))) (ow97 hw) (ow96 hw) (ow6 hw) (ow98 hw) (by decide) (rg_authDomain l Z a0 hw [] a q3 h0 n0 Z0 F_3) e6 (W := 2) (by decide) (by decide) (by decide) (by decide) E_a (pc := 34) (ls := #[rv a]) (stk := [(.ref a), (.long ((((224 : Int64) + (own_fb m0)) + (own_fb m1)) + (own_fb m2)))]) (by rw [hml]; rfl) (argsL := []) (rest := [(.long ((((224 : Int64) + (own_fb m0)) + (own_fb m1)) + (own_fb m2)))]) (lenOf pd11 rfl) rfl rfl (Nat.le_of_eq rfl) (hb hby d1_34)
  obtain ⟨rfl, Nq7, e7⟩ := hQ7
  have N7 := Fr.app N6 Nq7
  refine OGo.st st7 ?_
  show OG p e below Φ T7 m 37 #[rv a] [(.ref q3), (.long ((((224 : Int64) + (own_fb m0)) + (own_fb m1)) + (own_fb m2)))]
  obtain ⟨_, T8, L8, X8, hQ8, st8⟩ := own_callSt X7 hx hZ hown (ow69 hw) (ow70 hw) (ow2 hw) (ow71 hw) (by decide) (rfb l Z a0 hw [] q3 m3 qc h0 n0 Z0 O_3 S_q hq) e7 (W := 2) (by decide) (by decide) (by decide) (by decide) (pc := 37) (ls := #[rv a]) (stk := [(.ref q3), (.long ((((224 : Int64) + (own_fb m0)) + (own_fb m1)) + (own_fb m2)))]) (by rw [hml]; rfl) (argsL := [(.ref q3)]) (rest := [(.long ((((224 : Int64) + (own_fb m0)) + (own_fb m1)) + (own_fb m2)))]) (lenOf pd12 rfl) rfl rfl (Nat.le_of_eq rfl) (hb hby d1_37)
  obtain ⟨rfl, Nq8, e8⟩ := hQ8
  have N8 := Fr.app N7 Nq8
  refine OGo.st st8 ?_
  show OG p e below Φ T8 m 40 #[rv a] [(.long (own_fb m3)), (.long ((((224 : Int64) + (own_fb m0)) + (own_fb m1)) + (own_fb m2)))]
  refine OGo.st (fun _ kz => XT.ladd X8.here hx rfl (hb hby d1_40) rfl kz) ?_
  show OG p e below Φ T8 m 41 #[rv a] [(.long (((((224 : Int64) + (own_fb m0)) + (own_fb m1)) + (own_fb m2)) + (own_fb m3)))]
  refine OGo.st (fun _ kz => XS.aloadN X8.here hx rfl (hb hby d1_41) rfl rfl kz) ?_
  show OG p e below Φ T8 m 42 #[rv a] [(.ref a), (.long (((((224 : Int64) + (own_fb m0)) + (own_fb m1)) + (own_fb m2)) + (own_fb m3)))]
  obtain ⟨_, T9, L9, X9, hQ9, st9⟩ := own_callVi X8 hx hZ hown (ow99 hw) (ow100 hw) (notFace_of_selects (args := #[]) (mvT hZ (ow102 hw))) (ow102 hw) (ow101 hw) (ow6 hw) (ow103 hw) (by decide) (rg_instanceName l Z a0 hw [] a q4 h0 n0 Z0 F_4) e8 (W := 2) (by decide) (by decide) (by decide) (by decide) E_a (pc := 42) (ls := #[rv a]) (stk := [(.ref a), (.long (((((224 : Int64) + (own_fb m0)) + (own_fb m1)) + (own_fb m2)) + (own_fb m3)))]) (by rw [hml]; rfl) (argsL := []) (rest := [(.long (((((224 : Int64) + (own_fb m0)) + (own_fb m1)) + (own_fb m2)) + (own_fb m3)))]) (lenOf pd11 rfl) rfl rfl (Nat.le_of_eq rfl) (hb hby d1_42)
  obtain ⟨rfl, Nq9, e9⟩ := hQ9
  have N9 := Fr.app N8 Nq9
  refine OGo.st st9 ?_
  show OG p e below Φ T9 m 45 #[rv a] [(.ref q4), (.long (((((224 : Int64) + (own_fb m0)) + (own_fb m1)) + (own_fb m2)) + (own_fb m3)))]
  obtain ⟨_, T10, L10, X10, hQ10, st10⟩ := own_callSt X9 hx hZ hown (ow69 hw) (ow70 hw) (ow2 hw) (ow71 hw) (by decide) (rfb l Z a0 hw [] q4 m4 qc h0 n0 Z0 O_4 S_q hq) e9 (W := 2) (by decide) (by decide) (by decide) (by decide) (pc := 45) (ls := #[rv a]) (stk := [(.ref q4), (.long (((((224 : Int64) + (own_fb m0)) + (own_fb m1)) + (own_fb m2)) + (own_fb m3)))]) (by rw [hml]; rfl) (argsL := [(.ref q4)]) (rest := [(.long (((((224 : Int64) + (own_fb m0)) + (own_fb m1)) + (own_fb m2)) + (own_fb m3)))]) (lenOf pd12 rfl) rfl rfl (Nat.le_of_eq rfl) (hb hby d1_45)
  obtain ⟨rfl, Nq10, e10⟩ := hQ10
  have N10 := Fr.app N9 Nq10
  refine OGo.st st10 ?_
  show OG p e below Φ T10 m 48 #[rv a] [(.long (own_fb m4)), (.long (((((224 : Int64) + (own_fb m0)) + (own_fb m1)) + (own_fb m2)) + (own_fb m3)))]
  refine OGo.st (fun _ kz => XT.ladd X10.here hx rfl (hb hby d1_48) rfl kz) ?_
  show OG p e below Φ T10 m 49 #[rv a] [(.long ((((((224 : Int64) + (own_fb m0)) + (own_fb m1)) + (own_fb m2)) + (own_fb m3)) + (own_fb m4)))]
  refine OGo.fin X10 hlk (v := (some (.long ((((((224 : Int64) + (own_fb m0)) + (own_fb m1)) + (own_fb m2)) + (own_fb m3)) + (own_fb m4))))) (fun h => by rw [hret] at h; cases h) (by decide) (by decide) (fun fs hr => X10.lreturnOut hx hret (hb hby d1_49) hr) fun U eU hF => hΦ _ _ _ ?_ hF
  rw [eU, e10]
  show Q_rbo Z a q0 q1 q2 q3 q4 m0 m1 m2 m3 m4 qc h0 n0 _ _ _
  exact ⟨rfl, N10, rfl⟩

theorem pd13 : parseMethodDescriptor "(I)Ljava/lang/String;" = some ⟨[.int], some (.object "java/lang/String")⟩ := by decide +kernel
theorem pd14 : parseMethodDescriptor "(Ljava/lang/String;Ljava/lang/String;Ljava/lang/String;Ljava/lang/String;Ljava/lang/String;)V" = some ⟨[(.object "java/lang/String"), (.object "java/lang/String"), (.object "java/lang/String"), (.object "java/lang/String"), (.object "java/lang/String")], none⟩ := by decide +kernel
theorem pd15 : parseMethodDescriptor "(Lcom/example/zonewright/zonewright/plan/Plan;)J" = some ⟨[(.object "com/example/zonewright/zonewright/plan/Plan")], some .long⟩ := by decide +kernel
theorem ef_rm0 (m : MethodId) (x0 : Int32) (x1 : Int32) (x2 : Int32) (x3 : Int32) (x4 : Int32) (x5 : Int32) : entryFrame m #[(.int x0), (.int x1), (.int x2), (.int x3), (.int x4), (.int x5)] maxLocals = mkF m 0 #[.val (.int x0), .val (.int x1), .val (.int x2), .val (.int x3), .val (.int x4), .val (.int x5), .unset, .unset, .unset, .unset, .unset, .unset] [] := by first | (simp [entryFrame, mkF, argsToLocals, Value.category, maxLocals]; done) | rfl
def Q_rm0 (Z : State) (x0_ : Int32) (x1_ : Int32) (x2_ : Int32) (x3_ : Int32) (x4_ : Int32) (x5_ : Int32) (qc : Int32) (h0 : Heap) (n0 : Nat) (v : Option Value) (h : Heap) (L : List Loc) : Prop := v = some (.int (1 : Int32)) ∧ Fr n0 L
set_option maxRecDepth 65536 in
set_option maxHeartbeats 40000000 in
theorem rm0 (l : Launch) (Z : State) (a0 : Array Value) (hw : ∀ d ∈ tables_1, d.before a0 Z = true) (ws : List Jvm.Cond) (x0_ : Int32) (x1_ : Int32) (x2_ : Int32) (x3_ : Int32) (x4_ : Int32) (x5_ : Int32) (qc : Int32) (h0 : Heap) (n0 : Nat) (Z0 : n0 ≤ h0.size) (O_0 : Old Z n0 h0) (S_cs : Sta Z Z.heap "java/lang/String" "COMPACT_STRINGS" "Z" (.int qc)) (hq : ¬ qc = 0) (S_ad : Sta Z Z.heap "java/lang/StringUTF16" "$assertionsDisabled" "Z" (.int (1 : Int32))) (S_hb : Sta Z Z.heap "java/lang/StringUTF16" "HI_BYTE_SHIFT" "I" (.int (0 : Int32))) (S_lb : Sta Z Z.heap "java/lang/StringUTF16" "LO_BYTE_SHIFT" "I" (.int (8 : Int32))) :
    OConW l Z own_EL x code maxLocals ret ws room_1 #[(.int x0_), (.int x1_), (.int x2_), (.int x3_), (.int x4_), (.int x5_)] h0 [] (Q_rm0 Z x0_ x1_ x2_ x3_ x4_ x5_ qc h0 n0) := by
  refine OConW.of (plainFor_of_name pn2) ?_
  intro p e s m below meth c s₁ Φ X0 hx hby hml hown hnm hret hlk hZ e0 hS hkk hC hsf hΦ
  have N0 := Fr.nil n0
  refine OGo.st (fun _ kz => castTop (ef_rm0 m x0_ x1_ x2_ x3_ x4_ x5_) kz) ?_
  show OG p e below Φ s₁ m 0 #[iv x0_, iv x1_, iv x2_, iv x3_, iv x4_, iv x5_, .unset, .unset, .unset, .unset, .unset, .unset] []
  refine OGo.st (fun _ kz => XS.iload X0.here hx rfl (hb hby at_0) rfl kz) ?_
  show OG p e below Φ s₁ m 2 #[iv x0_, iv x1_, iv x2_, iv x3_, iv x4_, iv x5_, .unset, .unset, .unset, .unset, .unset, .unset] [(.int x5_)]
  refine OGo.st (fun _ kz => XS.iconst X0.here hx rfl (hb hby at_2) kz) ?_
  show OG p e below Φ s₁ m 3 #[iv x0_, iv x1_, iv x2_, iv x3_, iv x4_, iv x5_, .unset, .unset, .unset, .unset, .unset, .unset] [(.int 1), (.int x5_)]
  refine OGo.st (fun _ kz => XS.iand X0.here hx rfl (hb hby at_3) rfl kz) ?_
  show OG p e below Φ s₁ m 4 #[iv x0_, iv x1_, iv x2_, iv x3_, iv x4_, iv x5_, .unset, .unset, .unset, .unset, .unset, .unset] [(.int (x5_ &&& (1 : Int32)))]
  by_cases hc1 : (x5_ &&& (1 : Int32)) = 0
  · refine OGo.st (fun _ kz => XS.ifYes X0.here hx rfl (pc0 := 4) (pc' := 22) rfl (hb hby at_4) rfl (XT.i0_eq_t hc1) (by decide) (by decide) kz) ?_
    show OG p e below Φ s₁ m 22 #[iv x0_, iv x1_, iv x2_, iv x3_, iv x4_, iv x5_, .unset, .unset, .unset, .unset, .unset, .unset] []
    refine OGo.st (fun _ kz => XS.iload X0.here hx rfl (hb hby at_22) rfl kz) ?_
    show OG p e below Φ s₁ m 24 #[iv x0_, iv x1_, iv x2_, iv x3_, iv x4_, iv x5_, .unset, .unset, .unset, .unset, .unset, .unset] [(.int x5_)]
    refine OGo.st (fun _ kz => XS.iconst X0.here hx rfl (hb hby at_24) kz) ?_
    show OG p e below Φ s₁ m 25 #[iv x0_, iv x1_, iv x2_, iv x3_, iv x4_, iv x5_, .unset, .unset, .unset, .unset, .unset, .unset] [(.int 1), (.int x5_)]
    refine OGo.st (fun _ kz => XT.iushr X0.here hx rfl (hb hby at_25) rfl kz) ?_
    show OG p e below Φ s₁ m 26 #[iv x0_, iv x1_, iv x2_, iv x3_, iv x4_, iv x5_, .unset, .unset, .unset, .unset, .unset, .unset] [(.int (XT.ushr x5_ (1 : Int32)))]
    refine OGo.st (fun _ kz => XS.istore X0.here hx rfl (hb hby at_26) rfl (l' := #[iv x0_, iv x1_, iv x2_, iv x3_, iv x4_, iv x5_, iv (XT.ushr x5_ (1 : Int32)), .unset, .unset, .unset, .unset, .unset]) rfl kz) ?_
    show OG p e below Φ s₁ m 28 #[iv x0_, iv x1_, iv x2_, iv x3_, iv x4_, iv x5_, iv (XT.ushr x5_ (1 : Int32)), .unset, .unset, .unset, .unset, .unset] []
    obtain ⟨T2, h2, X2, e2, E2, A2, D2, U2, st2⟩ := newO X0 hx hZ hown (ow4 hw) (ow5 hw) (ow6 hw) e0 (g := (mkF m 28 #[iv x0_, iv x1_, iv x2_, iv x3_, iv x4_, iv x5_, iv (XT.ushr x5_ (1 : Int32)), .unset, .unset, .unset, .unset, .unset] [])) rfl (hb hby at_28) (by decide) (by decide)
    obtain ⟨b2, g2⟩ : ∃ z, z = h0.size := ⟨_, rfl⟩
    rw [← g2] at A2 D2 st2 U2
    have F3 := O_0.ext E2
    have gb2 : n0 ≤ b2 := Nat.le_trans Z0 (Nat.le_of_eq g2.symm)
    have Zs2 : n0 ≤ h2.size := Nat.le_trans Z0 E2.1
    have F2_49 : Fld Z h2 b2 "com/example/zonewright/zonewright/plan/Plan" "id" "Ljava/lang/String;" .null := D2 (Or.inr (ow49 hw)) (ty := (.object "java/lang/String")) (by decide)
    have F2_51 : Fld Z h2 b2 "com/example/zonewright/zonewright/plan/Plan" "name" "Ljava/lang/String;" .null := D2 (Or.inr (ow51 hw)) (ty := (.object "java/lang/String")) (by decide)
    have F2_53 : Fld Z h2 b2 "com/example/zonewright/zonewright/plan/Plan" "description" "Ljava/lang/String;" .null := D2 (Or.inr (ow53 hw)) (ty := (.object "java/lang/String")) (by decide)
    have F2_55 : Fld Z h2 b2 "com/example/zonewright/zonewright/plan/Plan" "authDomain" "Ljava/lang/String;" .null := D2 (Or.inr (ow55 hw)) (ty := (.object "java/lang/String")) (by decide)
    have F2_57 : Fld Z h2 b2 "com/example/zonewright/zonewright/plan/Plan" "instanceName" "Ljava/lang/String;" .null := D2 (Or.inr (ow57 hw)) (ty := (.object "java/lang/String")) (by decide)
    have hA4 := CHr.ext E2 hC.1
    have sf_b2 := Safe.ext E2 hC.1 (Safe.new (Nat.le_of_eq g2.symm))
    have hkk := Nat.le_trans hkk hA4.2.1
    have hC := hC.trans hA4
    refine OGo.st (st2) ?_
    show OG p e below Φ T2 m 31 #[iv x0_, iv x1_, iv x2_, iv x3_, iv x4_, iv x5_, iv (XT.ushr x5_ (1 : Int32)), .unset, .unset, .unset, .unset, .unset] [(.ref b2)]
    refine OGo.st (fun _ kz => XS.dup X2.here hx rfl (hb hby at_31) rfl rfl kz) ?_
    show OG p e below Φ T2 m 32 #[iv x0_, iv x1_, iv x2_, iv x3_, iv x4_, iv x5_, iv (XT.ushr x5_ (1 : Int32)), .unset, .unset, .unset, .unset, .unset] [(.ref b2), (.ref b2)]
    refine OGo.st (fun _ kz => XS.iloadN X2.here hx rfl (hb hby at_32) rfl kz) ?_
    show OG p e below Φ T2 m 33 #[iv x0_, iv x1_, iv x2_, iv x3_, iv x4_, iv x5_, iv (XT.ushr x5_ (1 : Int32)), .unset, .unset, .unset, .unset, .unset] [(.int x0_), (.ref b2), (.ref b2)]
    obtain ⟨_, T5, L5, X5, hQ5, st5, hS, hZ, hown, hB5⟩ := own_callStW X2 hx hZ hown (ow7 hw) (ow8 hw) (ow9 hw) (ow10 hw) (by decide) (rstr l Z a0 hw [] x0_ qc h2 n0 Zs2 F3 S_cs hq S_ad S_hb S_lb) e2 (W := 2) (by decide) (by decide) (by decide) (by decide) (pc := 33) (ls := #[iv x0_, iv x1_, iv x2_, iv x3_, iv x4_, iv x5_, iv (XT.ushr x5_ (1 : Int32)), .unset, .unset, .unset, .unset, .unset]) (stk := [(.int x0_), (.ref b2), (.ref b2)]) (by rw [hml]; rfl) (argsL := [(.int x0_)]) (rest := [(.ref b2), (.ref b2)]) (lenOf pd13 rfl) rfl rfl (Nat.le_of_eq rfl) (hb hby at_33) hS hkk (own_EW hw) hC all0
    obtain ⟨sx5, rfl, Nq5, Kq5, Oq5, hz5⟩ := hQ5
    have nq5_b2 : b2 ≠ sx5 := Nat.ne_of_lt (Nat.lt_of_lt_of_le A2.lt hz5)
    have gq5 : n0 ≤ sx5 := Nat.le_trans Zs2 hz5
    have N5 := Fr.app N0 Nq5
    have Zs5 : n0 ≤ T5.heap.size := Nat.le_trans Zs2 Kq5.1
    have F6 := F3.keep Kq5 all0
    have F7 := A2.keep Kq5
    have F8 := F2_49.keep Kq5 nin0
    have F9 := F2_51.keep Kq5 nin0
    have F10 := F2_53.keep Kq5 nin0
    have F11 := F2_55.keep Kq5 nin0
    have F12 := F2_57.keep Kq5 nin0
    have hA13 := hB5
    have sf_b2 := hA13.safe A2.lt sf_b2
    have hkk := Nat.le_refl T5.heap.size
    have hC := hC.trans hA13
    refine OGo.st st5 ?_
    show OG p e below Φ T5 m 36 #[iv x0_, iv x1_, iv x2_, iv x3_, iv x4_, iv x5_, iv (XT.ushr x5_ (1 : Int32)), .unset, .unset, .unset, .unset, .unset] [(.ref sx5), (.ref b2), (.ref b2)]
    refine OGo.st (fun _ kz => XS.iloadN X5.here hx rfl (hb hby at_36) rfl kz) ?_
    show OG p e below Φ T5 m 37 #[iv x0_, iv x1_, iv x2_, iv x3_, iv x4_, iv x5_, iv (XT.ushr x5_ (1 : Int32)), .unset, .unset, .unset, .unset, .unset] [(.int x1_), (.ref sx5), (.ref b2), (.ref b2)]
    obtain ⟨_, T14, L14, X14, hQ14, st14, hS, hZ, hown, hB14⟩ := own_callStW X5 hx hZ hown (ow7 hw) (ow8 hw) (ow9 hw) (ow10 hw) (by decide) (rstr l Z a0 hw [] x1_ qc T5.heap n0 Zs5 F6 S_cs hq S_ad S_hb S_lb) rfl (W := 3) (by decide) (by decide) (by decide) (by decide) (pc := 37) (ls := #[iv x0_, iv x1_, iv x2_, iv x3_, iv x4_, iv x5_, iv (XT.ushr x5_ (1 : Int32)), .unset, .unset, .unset, .unset, .unset]) (stk := [(.int x1_), (.ref sx5), (.ref b2), (.ref b2)]) (by rw [hml]; rfl) (argsL := [(.int x1_)]) (rest := [(.ref sx5), (.ref b2), (.ref b2)]) (lenOf pd13 rfl) rfl rfl (Nat.le_of_eq rfl) (hb hby at_37) hS hkk (own_EW hw) hC all0
    obtain ⟨sx14, rfl, Nq14, Kq14, Oq14, hz14⟩ := hQ14
    have nq14_b2 : b2 ≠ sx14 := Nat.ne_of_lt (Nat.lt_of_lt_of_le F7.lt hz14)
    have nq14_sx5 : sx5 ≠ sx14 := Nat.ne_of_lt (Nat.lt_of_lt_of_le Oq5.lt hz14)
    have gq14 : n0 ≤ sx14 := Nat.le_trans Zs5 hz14
    have N14 := Fr.app N5 Nq14
    have Zs14 : n0 ≤ T14.heap.size := Nat.le_trans Zs5 Kq14.1
    have F15 := F6.keep Kq14 all0
    have F16 := F7.keep Kq14
    have F17 := F8.keep Kq14 nin0
    have F18 := F9.keep Kq14 nin0
    have F19 := F10.keep Kq14 nin0
    have F20 := F11.keep Kq14 nin0
    have F21 := F12.keep Kq14 nin0
    have F22 := Oq5.keep0 Kq14
    have hA23 := hB14
    have sf_b2 := hA23.safe F7.lt sf_b2
    have hkk := Nat.le_refl T14.heap.size
    have hC := hC.trans hA23
    refine OGo.st st14 ?_
    show OG p e below Φ T14 m 40 #[iv x0_, iv x1_, iv x2_, iv x3_, iv x4_, iv x5_, iv (XT.ushr x5_ (1 : Int32)), .unset, .unset, .unset, .unset, .unset] [(.ref sx14), (.ref sx5), (.ref b2), (.ref b2)]
    refine OGo.st (fun _ kz => XS.iloadN X14.here hx rfl (hb hby at_40) rfl kz) ?_
    show OG p e below Φ T14 m 41 #[iv x0_, iv x1_, iv x2_, iv x3_, iv x4_, iv x5_, iv (XT.ushr x5_ (1 : Int32)), .unset, .unset, .unset, .unset, .unset] [(.int x2_), (.ref sx14), (.ref sx5), (.ref b2), (.ref b2)]
    obtain ⟨_, T24, L24, X24, hQ24, st24, hS, hZ, hown, hB24⟩ := own_callStW X14 hx hZ hown (ow7 hw) (ow8 hw) (ow9 hw) (ow10 hw) (by decide) (rstr l Z a0 hw [] x2_ qc T14.heap n0 Zs14 F15 S_cs hq S_ad S_hb S_lb) rfl (W := 4) (by decide) (by decide) (by decide) (by decide) (pc := 41) (ls := #[iv x0_, iv x1_, iv x2_, iv x3_, iv x4_, iv x5_, iv (XT.ushr x5_ (1 : Int32)), .unset, .unset, .unset, .unset, .unset]) (stk := [(.int x2_), (.ref sx14), (.ref sx5), (.ref b2), (.ref b2)]) (by rw [hml]; rfl) (argsL := [(.int x2_)]) (rest := [(.ref sx14), (.ref sx5), (.ref b2), (.ref b2)]) (lenOf pd13 rfl) rfl rfl (Nat.le_of_eq rfl) (hb hby at_41) hS hkk (own_EW hw) hC all0
    obtain ⟨sx24, rfl, Nq24, Kq24, Oq24, hz24⟩ := hQ24
    have nq24_b2 : b2 ≠ sx24 := Nat.ne_of_lt (Nat.lt_of_lt_of_le F16.lt hz24)
    have nq24_sx14 : sx14 ≠ sx24 := Nat.ne_of_lt (Nat.lt_of_lt_of_le Oq14.lt hz24)
    have nq24_sx5 : sx5 ≠ sx24 := Nat.ne_of_lt (Nat.lt_of_lt_of_le F22.lt hz24)
    have gq24 : n0 ≤ sx24 := Nat.le_trans Zs14 hz24
    have N24 := Fr.app N14 Nq24
    have Zs24 : n0 ≤ T24.heap.size := Nat.le_trans Zs14 Kq24.1
    have F25 := F15.keep Kq24 all0
    have F26 := F16.keep Kq24
    have F27 := F17.keep Kq24 nin0
    have F28 := F18.keep Kq24 nin0
    have F29 := F19.keep Kq24 nin0
    have F30 := F20.keep Kq24 nin0
    have F31 := F21.keep Kq24 nin0
    have F32 := F22.keep0 Kq24
    have F33 := Oq14.keep0 Kq24
    have hA34 := hB24
    have sf_b2 := hA34.safe F16.lt sf_b2
    have hkk := Nat.le_refl T24.heap.size
    have hC := hC.trans hA34
    refine OGo.st st24 ?_
    show OG p e below Φ T24 m 44 #[iv x0_, iv x1_, iv x2_, iv x3_, iv x4_, iv x5_, iv (XT.ushr x5_ (1 : Int32)), .unset, .unset, .unset, .unset, .unset] [(.ref sx24), (.ref sx14), (.ref sx5), (.ref b2), (.ref b2)]
    refine OGo.st (fun _ kz => XS.iloadN X24.here hx rfl (hb hby at_44) rfl kz) ?_
    show OG p e below Φ T24 m 45 #[iv x0_, iv x1_, iv x2_, iv x3_, iv x4_, iv x5_, iv (XT.ushr x5_ (1 : Int32)), .unset, .unset, .unset, .unset, .unset] [(.int x3_), (.ref sx24), (.ref sx14), (.ref sx5), (.ref b2), (.ref b2)]
    obtain ⟨_, T35, L35, X35, hQ35, st35, hS, hZ, hown, hB35⟩ := own_callStW X24 hx hZ hown (ow7 hw) (ow8 hw) (ow9 hw) (ow10 hw) (by decide) (rstr l Z a0 hw [] x3_ qc T24.heap n0 Zs24 F25 S_cs hq S_ad S_hb S_lb) rfl (W := 5) (by decide) (by decide) (by decide) (by decide) (pc := 45) (ls := #[iv x0_, iv x1_, iv x2_, iv x3_, iv x4_, iv x5_, iv (XT.ushr x5_ (1 : Int32)), .unset, .unset, .unset, .unset, .unset]) (stk := [(.int x3_), (.ref sx24), (.ref sx14), (.ref sx5), (.ref b2), (.ref b2)]) (by rw [hml]; rfl) (argsL := [(.int x3_)]) (rest := [(.ref sx24), (.ref sx14), (.ref sx5), (.ref b2), (.ref b2)]) (lenOf pd13 rfl) rfl rfl (Nat.le_of_eq rfl) (hb hby at_45) hS hkk (own_EW hw) hC all0
    obtain ⟨sx35, rfl, Nq35, Kq35, Oq35, hz35⟩ := hQ35
    have nq35_b2 : b2 ≠ sx35 := Nat.ne_of_lt (Nat.lt_of_lt_of_le F26.lt hz35)
    have nq35_sx14 : sx14 ≠ sx35 := Nat.ne_of_lt (Nat.lt_of_lt_of_le F33.lt hz35)
    have nq35_sx24 : sx24 ≠ sx35 := Nat.ne_of_lt (Nat.lt_of_lt_of_le Oq24.lt hz35)
    have nq35_sx5 : sx5 ≠ sx35 := Nat.ne_of_lt (Nat.lt_of_lt_of_le F32.lt hz35)
    have gq35 : n0 ≤ sx35 := Nat.le_trans Zs24 hz35
    have N35 := Fr.app N24 Nq35
    have Zs35 : n0 ≤ T35.heap.size := Nat.le_trans Zs24 Kq35.1
    have F36 := F25.keep Kq35 all0
    have F37 := F26.keep Kq35
    have F38 := F27.keep Kq35 nin0
    have F39 := F28.keep Kq35 nin0
    have F40 := F29.keep Kq35 nin0
    have F41 := F30.keep Kq35 nin0
    have F42 := F31.keep Kq35 nin0
    have F43 := F32.keep0 Kq35
    have F44 := F33.keep0 Kq35
    have F45 := Oq24.keep0 Kq35
    have hA46 := hB35
    have sf_b2 := hA46.safe F26.lt sf_b2
    have hkk := Nat.le_refl T35.heap.size
    have hC := hC.trans hA46
    refine OGo.st st35 ?_
    show OG p e below Φ T35 m 48 #[iv x0_, iv x1_, iv x2_, iv x3_, iv x4_, iv x5_, iv (XT.ushr x5_ (1 : Int32)), .unset, .unset, .unset, .unset, .unset] [(.ref sx35), (.ref sx24), (.ref sx14), (.ref sx5), (.ref b2), (.ref b2)]
    refine OGo.st (fun _ kz => XS.iload X35.here hx rfl (hb hby at_48) rfl kz) ?_
    show OG p e below Φ T35 m 50 #[iv x0_, iv x1_, iv x2_, iv x3_, iv x4_, iv x5_, iv (XT.ushr x5_ (1 : Int32)), .unset, .unset, .unset, .unset, .unset] [(.int (XT.ushr x5_ (1 : Int32))), (.ref sx35), (.ref sx24), (.ref sx14), (.ref sx5), (.ref b2), (.ref b2)]
    obtain ⟨_, T47, L47, X47, hQ47, st47, hS, hZ, hown, hB47⟩ := own_callStW X35 hx hZ hown (ow7 hw) (ow8 hw) (ow9 hw) (ow10 hw) (by decide) (rstr l Z a0 hw [] (XT.ushr x5_ (1 : Int32)) qc T35.heap n0 Zs35 F36 S_cs hq S_ad S_hb S_lb) rfl (W := 6) (by decide) (by decide) (by decide) (by decide) (pc := 50) (ls := #[iv x0_, iv x1_, iv x2_, iv x3_, iv x4_, iv x5_, iv (XT.ushr x5_ (1 : Int32)), .unset, .unset, .unset, .unset, .unset]) (stk := [(.int (XT.ushr x5_ (1 : Int32))), (.ref sx35), (.ref sx24), (.ref sx14), (.ref sx5), (.ref b2), (.ref b2)]) (by rw [hml]; rfl) (argsL := [(.int (XT.ushr x5_ (1 : Int32)))]) (rest := [(.ref sx35), (.ref sx24), (.ref sx14), (.ref sx5), (.ref b2), (.ref b2)]) (lenOf pd13 rfl) rfl rfl (Nat.le_of_eq rfl) (hb hby at_50) hS hkk (own_EW hw) hC all0
    obtain ⟨sx47, rfl, Nq47, Kq47, Oq47, hz47⟩ := hQ47
    have nq47_b2 : b2 ≠ sx47 := Nat.ne_of_lt (Nat.lt_of_lt_of_le F37.lt hz47)
    have nq47_sx14 : sx14 ≠ sx47 := Nat.ne_of_lt (Nat.lt_of_lt_of_le F44.lt hz47)
    have nq47_sx24 : sx24 ≠ sx47 := Nat.ne_of_lt (Nat.lt_of_lt_of_le F45.lt hz47)
    have nq47_sx35 : sx35 ≠ sx47 := Nat.ne_of_lt (Nat.lt_of_lt_of_le Oq35.lt hz47)
    have nq47_sx5 : sx5 ≠ sx47 := Nat.ne_of_lt (Nat.lt_of_lt_of_le F43.lt hz47)
    have gq47 : n0 ≤ sx47 := Nat.le_trans Zs35 hz47
    have N47 := Fr.app N35 Nq47
    have Zs47 : n0 ≤ T47.heap.size := Nat.le_trans Zs35 Kq47.1
    have F48 := F36.keep Kq47 all0
    have F49 := F37.keep Kq47
    have F50 := F38.keep Kq47 nin0
    have F51 := F39.keep Kq47 nin0
    have F52 := F40.keep Kq47 nin0
    have F53 := F41.keep Kq47 nin0
    have F54 := F42.keep Kq47 nin0
    have F55 := F43.keep0 Kq47
    have F56 := F44.keep0 Kq47
    have F57 := F45.keep0 Kq47
    have F58 := Oq35.keep0 Kq47
    have hA59 := hB47
    have sf_b2 := hA59.safe F37.lt sf_b2
    have hkk := Nat.le_refl T47.heap.size
    have hC := hC.trans hA59
    refine OGo.st st47 ?_
    show OG p e below Φ T47 m 53 #[iv x0_, iv x1_, iv x2_, iv x3_, iv x4_, iv x5_, iv (XT.ushr x5_ (1 : Int32)), .unset, .unset, .unset, .unset, .unset] [(.ref sx47), (.ref sx35), (.ref sx24), (.ref sx14), (.ref sx5), (.ref b2), (.ref b2)]
    obtain ⟨_, T60, L60, X60, hQ60, st60⟩ := own_callSp X47 hx hZ rfl hown (ow44 hw) (ow45 hw) (ow6 hw) (ow46 hw) (by decide) (rpl l Z a0 hw [] b2 sx5 sx14 sx24 sx35 sx47 .null .null .null .null .null T47.heap n0 Zs47 F49 gb2 F50 F51 F52 F53 F54) rfl (W := 1) (by decide) (by decide) (by decide) (by decide) (pc := 53) (ls := #[iv x0_, iv x1_, iv x2_, iv x3_, iv x4_, iv x5_, iv (XT.ushr x5_ (1 : Int32)), .unset, .unset, .unset, .unset, .unset]) (stk := [(.ref sx47), (.ref sx35), (.ref sx24), (.ref sx14), (.ref sx5), (.ref b2), (.ref b2)]) (by rw [hml]; rfl) (a := b2) (argsL := [(.ref sx5), (.ref sx14), (.ref sx24), (.ref sx35), (.ref sx47)]) (rest := [(.ref b2)]) (lenOf pd14 rfl) rfl rfl (Nat.le_of_eq rfl) (hb hby at_53)
    obtain ⟨rfl, Nq60, Kq60, Eq60, Fq60_0, Fq60_1, Fq60_2, Fq60_3, Fq60_4⟩ := hQ60
    have N60 := Fr.app N47 Nq60
    have Zs60 : n0 ≤ T60.heap.size := Nat.le_trans Zs47 Kq60.1
    have F61 := F48.keep Kq60 (allS gb2 all0)
    have F62 := F55.keep1 Kq60 F49 (ow5 hw) (by decide)
    have F63 := F56.keep1 Kq60 F49 (ow5 hw) (by decide)
    have F64 := F57.keep1 Kq60 F49 (ow5 hw) (by decide)
    have F65 := F58.keep1 Kq60 F49 (ow5 hw) (by decide)
    have F66 := Oq47.keep1 Kq60 F49 (ow5 hw) (by decide)
    have hA67 := CHr.keep Kq60 (sfS sf_b2 sf0) hC.1
    have sf_b2 := hA67.safe F49.lt sf_b2
    have hkk := Nat.le_trans hkk hA67.2.1
    have hC := hC.trans hA67
    refine OGo.st st60 ?_
    show OG p e below Φ T60 m 56 #[iv x0_, iv x1_, iv x2_, iv x3_, iv x4_, iv x5_, iv (XT.ushr x5_ (1 : Int32)), .unset, .unset, .unset, .unset, .unset] [(.ref b2)]
    refine OGo.st (fun _ kz => XS.astore X60.here hx rfl (hb hby at_56) rfl rfl (l' := #[iv x0_, iv x1_, iv x2_, iv x3_, iv x4_, iv x5_, iv (XT.ushr x5_ (1 : Int32)), rv b2, .unset, .unset, .unset, .unset]) rfl kz) ?_
    show OG p e below Φ T60 m 58 #[iv x0_, iv x1_, iv x2_, iv x3_, iv x4_, iv x5_, iv (XT.ushr x5_ (1 : Int32)), rv b2, .unset, .unset, .unset, .unset] []
    refine OGo.st (fun _ kz => XS.iloadN X60.here hx rfl (hb hby at_58) rfl kz) ?_
    show OG p e below Φ T60 m 59 #[iv x0_, iv x1_, iv x2_, iv x3_, iv x4_, iv x5_, iv (XT.ushr x5_ (1 : Int32)), rv b2, .unset, .unset, .unset, .unset] [(.int x0_)]
    obtain ⟨_, T68, L68, X68, hQ68, st68⟩ := own_callSt X60 hx hZ hown (ow58 hw) (ow59 hw) (ow9 hw) (ow60 hw) (by decide) (rln l Z a0 hw [] x0_ T60.heap n0 Zs60 ) rfl (W := 0) (by decide) (by decide) (by decide) (by decide) (pc := 59) (ls := #[iv x0_, iv x1_, iv x2_, iv x3_, iv x4_, iv x5_, iv (XT.ushr x5_ (1 : Int32)), rv b2, .unset, .unset, .unset, .unset]) (stk := [(.int x0_)]) (by rw [hml]; rfl) (argsL := [(.int x0_)]) (rest := []) (lenOf pd4 rfl) rfl rfl (Nat.le_of_eq rfl) (hb hby at_59)
    obtain ⟨rfl, Nq68, e68⟩ := hQ68
    have N68 := Fr.app N60 Nq68
    refine OGo.st st68 ?_
    show OG p e below Φ T68 m 62 #[iv x0_, iv x1_, iv x2_, iv x3_, iv x4_, iv x5_, iv (XT.ushr x5_ (1 : Int32)), rv b2, .unset, .unset, .unset, .unset] [(.int (own_len x0_))]
    refine OGo.st (fun _ kz => XT.i2l X68.here hx rfl (hb hby at_62) rfl kz) ?_
    show OG p e below Φ T68 m 63 #[iv x0_, iv x1_, iv x2_, iv x3_, iv x4_, iv x5_, iv (XT.ushr x5_ (1 : Int32)), rv b2, .unset, .unset, .unset, .unset] [(.long ((own_len x0_).toInt64))]
    refine OGo.st (fun _ kz => XS.iloadN X68.here hx rfl (hb hby at_63) rfl kz) ?_
    show OG p e below Φ T68 m 64 #[iv x0_, iv x1_, iv x2_, iv x3_, iv x4_, iv x5_, iv (XT.ushr x5_ (1 : Int32)), rv b2, .unset, .unset, .unset, .unset] [(.int x1_), (.long ((own_len x0_).toInt64))]
    obtain ⟨_, T69, L69, X69, hQ69, st69⟩ := own_callSt X68 hx hZ hown (ow58 hw) (ow59 hw) (ow9 hw) (ow60 hw) (by decide) (rln l Z a0 hw [] x1_ T60.heap n0 Zs60 ) e68 (W := 2) (by decide) (by decide) (by decide) (by decide) (pc := 64) (ls := #[iv x0_, iv x1_, iv x2_, iv x3_, iv x4_, iv x5_, iv (XT.ushr x5_ (1 : Int32)), rv b2, .unset, .unset, .unset, .unset]) (stk := [(.int x1_), (.long ((own_len x0_).toInt64))]) (by rw [hml]; rfl) (argsL := [(.int x1_)]) (rest := [(.long ((own_len x0_).toInt64))]) (lenOf pd4 rfl) rfl rfl (Nat.le_of_eq rfl) (hb hby at_64)
    obtain ⟨rfl, Nq69, e69⟩ := hQ69
    have N69 := Fr.app N68 Nq69
    refine OGo.st st69 ?_
    show OG p e below Φ T69 m 67 #[iv x0_, iv x1_, iv x2_, iv x3_, iv x4_, iv x5_, iv (XT.ushr x5_ (1 : Int32)), rv b2, .unset, .unset, .unset, .unset] [(.int (own_len x1_)), (.long ((own_len x0_).toInt64))]
    refine OGo.st (fun _ kz => XT.i2l X69.here hx rfl (hb hby at_67) rfl kz) ?_
    show OG p e below Φ T69 m 68 #[iv x0_, iv x1_, iv x2_, iv x3_, iv x4_, iv x5_, iv (XT.ushr x5_ (1 : Int32)), rv b2, .unset, .unset, .unset, .unset] [(.long ((own_len x1_).toInt64)), (.long ((own_len x0_).toInt64))]
    refine OGo.st (fun _ kz => XT.ladd X69.here hx rfl (hb hby at_68) rfl kz) ?_
    show OG p e below Φ T69 m 69 #[iv x0_, iv x1_, iv x2_, iv x3_, iv x4_, iv x5_, iv (XT.ushr x5_ (1 : Int32)), rv b2, .unset, .unset, .unset, .unset] [(.long (((own_len x0_).toInt64) + ((own_len x1_).toInt64)))]
    refine OGo.st (fun _ kz => XS.iloadN X69.here hx rfl (hb hby at_69) rfl kz) ?_
    show OG p e below Φ T69 m 70 #[iv x0_, iv x1_, iv x2_, iv x3_, iv x4_, iv x5_, iv (XT.ushr x5_ (1 : Int32)), rv b2, .unset, .unset, .unset, .unset] [(.int x2_), (.long (((own_len x0_).toInt64) + ((own_len x1_).toInt64)))]
    obtain ⟨_, T70, L70, X70, hQ70, st70⟩ := own_callSt X69 hx hZ hown (ow58 hw) (ow59 hw) (ow9 hw) (ow60 hw) (by decide) (rln l Z a0 hw [] x2_ T60.heap n0 Zs60 ) e69 (W := 2) (by decide) (by decide) (by decide) (by decide) (pc := 70) (ls := #[iv x0_, iv x1_, iv x2_, iv x3_, iv x4_, iv x5_, iv (XT.ushr x5_ (1 : Int32)), rv b2, .unset, .unset, .unset, .unset]) (stk := [(.int x2_), (.long (((own_len x0_).toInt64) + ((own_len x1_).toInt64)))]) (by rw [hml]; rfl) (argsL := [(.int x2_)]) (rest := [(.long (((own_len x0_).toInt64) + ((own_len x1_).toInt64)))]) (lenOf pd4 rfl) rfl rfl (Nat.le_of_eq rfl) (hb hby at_70)
    obtain ⟨rfl, Nq70, e70⟩ := hQ70
    have N70 := Fr.app N69 Nq70
    refine OGo.st st70 ?_
    show OG p e below Φ T70 m 73 #[iv x0_, iv x1_, iv x2_, iv x3_, iv x4_, iv x5_, iv (XT.ushr x5_ (1 : Int32)), rv b2, .unset, .unset, .unset, .unset] [(.int (own_len x2_)), (.long (((own_len x0_).toInt64) + ((own_len x1_).toInt64)))]
    refine OGo.st (fun _ kz => XT.i2l X70.here hx rfl (hb hby at_73) rfl kz) ?_
    show OG p e below Φ T70 m 74 #[iv x0_, iv x1_, iv x2_, iv x3_, iv x4_, iv x5_, iv (XT.ushr x5_ (1 : Int32)), rv b2, .unset, .unset, .unset, .unset] [(.long ((own_len x2_).toInt64)), (.long (((own_len x0_).toInt64) + ((own_len x1_).toInt64)))]
    refine OGo.st (fun _ kz => XT.ladd X70.here hx rfl (hb hby at_74) rfl kz) ?_
    show OG p e below Φ T70 m 75 #[iv x0_, iv x1_, iv x2_, iv x3_, iv x4_, iv x5_, iv (XT.ushr x5_ (1 : Int32)), rv b2, .unset, .unset, .unset, .unset] [(.long ((((own_len x0_).toInt64) + ((own_len x1_).toInt64)) + ((own_len x2_).toInt64)))]
    refine OGo.st (fun _ kz => XS.iloadN X70.here hx rfl (hb hby at_75) rfl kz) ?_
    show OG p e below Φ T70 m 76 #[iv x0_, iv x1_, iv x2_, iv x3_, iv x4_, iv x5_, iv (XT.ushr x5_ (1 : Int32)), rv b2, .unset, .unset, .unset, .unset] [(.int x3_), (.long ((((own_len x0_).toInt64) + ((own_len x1_).toInt64)) + ((own_len x2_).toInt64)))]
    obtain ⟨_, T71, L71, X71, hQ71, st71⟩ := own_callSt X70 hx hZ hown (ow58 hw) (ow59 hw) (ow9 hw) (ow60 hw) (by decide) (rln l Z a0 hw [] x3_ T60.heap n0 Zs60 ) e70 (W := 2) (by decide) (by decide) (by decide) (by decide) (pc := 76) (ls := #[iv x0_, iv x1_, iv x2_, iv x3_, iv x4_, iv x5_, iv (XT.ushr x5_ (1 : Int32)), rv b2, .unset, .unset, .unset, .unset]) (stk := [(.int x3_), (.long ((((own_len x0_).toInt64) + ((own_len x1_).toInt64)) + ((own_len x2_).toInt64)))]) (by rw [hml]; rfl) (argsL := [(.int x3_)]) (rest := [(.long ((((own_len x0_).toInt64) + ((own_len x1_).toInt64)) + ((own_len x2_).toInt64)))]) (lenOf pd4 rfl) rfl rfl (Nat.le_of_eq rfl) (hb hby at_76)
    obtain ⟨rfl, Nq71, e71⟩ := hQ71
    have N71 := Fr.app N70 Nq71
    refine OGo.st st71 ?_
    show OG p e below Φ T71 m 79 #[iv x0_, iv x1_, iv x2_, iv x3_, iv x4_, iv x5_, iv (XT.ushr x5_ (1 : Int32)), rv b2, .unset, .unset, .unset, .unset] [(.int (own_len x3_)), (.long ((((own_len x0_).toInt64) + ((own_len x1_).toInt64)) + ((own_len x2_).toInt64)))]
    refine OGo.st (fun _ kz => XT.i2l X71.here hx rfl (hb hby at_79) rfl kz) ?_
    show OG p e below Φ T71 m 80 #[iv x0_, iv x1_, iv x2_, iv x3_, iv x4_, iv x5_, iv (XT.ushr x5_ (1 : Int32)), rv b2, .unset, .unset, .unset, .unset] [(.long ((own_len x3_).toInt64)), (.long ((((own_len x0_).toInt64) + ((own_len x1_).toInt64)) + ((own_len x2_).toInt64)))]
    refine OGo.st (fun _ kz => XT.ladd X71.here hx rfl (hb hby at_80) rfl kz) ?_
    show OG p e below Φ T71 m 81 #[iv x0_, iv x1_, iv x2_, iv x3_, iv x4_, iv x5_, iv (XT.ushr x5_ (1 : Int32)), rv b2, .unset, .unset, .unset, .unset] [(.long (((((own_len x0_).toInt64) + ((own_len x1_).toInt64)) + ((own_len x2_).toInt64)) + ((own_len x3_).toInt64)))]
    refine OGo.st (fun _ kz => XS.iload X71.here hx rfl (hb hby at_81) rfl kz) ?_
    show OG p e below Φ T71 m 83 #[iv x0_, iv x1_, iv x2_, iv x3_, iv x4_, iv x5_, iv (XT.ushr x5_ (1 : Int32)), rv b2, .unset, .unset, .unset, .unset] [(.int (XT.ushr x5_ (1 : Int32))), (.long (((((own_len x0_).toInt64) + ((own_len x1_).toInt64)) + ((own_len x2_).toInt64)) + ((own_len x3_).toInt64)))]
    obtain ⟨_, T72, L72, X72, hQ72, st72⟩ := own_callSt X71 hx hZ hown (ow58 hw) (ow59 hw) (ow9 hw) (ow60 hw) (by decide) (rln l Z a0 hw [] (XT.ushr x5_ (1 : Int32)) T60.heap n0 Zs60 ) e71 (W := 2) (by decide) (by decide) (by decide) (by decide) (pc := 83) (ls := #[iv x0_, iv x1_, iv x2_, iv x3_, iv x4_, iv x5_, iv (XT.ushr x5_ (1 : Int32)), rv b2, .unset, .unset, .unset, .unset]) (stk := [(.int (XT.ushr x5_ (1 : Int32))), (.long (((((own_len x0_).toInt64) + ((own_len x1_).toInt64)) + ((own_len x2_).toInt64)) + ((own_len x3_).toInt64)))]) (by rw [hml]; rfl) (argsL := [(.int (XT.ushr x5_ (1 : Int32)))]) (rest := [(.long (((((own_len x0_).toInt64) + ((own_len x1_).toInt64)) + ((own_len x2_).toInt64)) + ((own_len x3_).toInt64)))]) (lenOf pd4 rfl) rfl rfl (Nat.le_of_eq rfl) (hb hby at_83)
    obtain ⟨rfl, Nq72, e72⟩ := hQ72
    have N72 := Fr.app N71 Nq72
    refine OGo.st st72 ?_
    show OG p e below Φ T72 m 86 #[iv x0_, iv x1_, iv x2_, iv x3_, iv x4_, iv x5_, iv (XT.ushr x5_ (1 : Int32)), rv b2, .unset, .unset, .unset, .unset] [(.int (own_len (XT.ushr x5_ (1 : Int32)))), (.long (((((own_len x0_).toInt64) + ((own_len x1_).toInt64)) + ((own_len x2_).toInt64)) + ((own_len x3_).toInt64)))]
    refine OGo.st (fun _ kz => XT.i2l X72.here hx rfl (hb hby at_86) rfl kz) ?_
    show OG p e below Φ T72 m 87 #[iv x0_, iv x1_, iv x2_, iv x3_, iv x4_, iv x5_, iv (XT.ushr x5_ (1 : Int32)), rv b2, .unset, .unset, .unset, .unset] [(.long ((own_len (XT.ushr x5_ (1 : Int32))).toInt64)), (.long (((((own_len x0_).toInt64) + ((own_len x1_).toInt64)) + ((own_len x2_).toInt64)) + ((own_len x3_).toInt64)))]
    refine OGo.st (fun _ kz => XT.ladd X72.here hx rfl (hb hby at_87) rfl kz) ?_
    show OG p e below Φ T72 m 88 #[iv x0_, iv x1_, iv x2_, iv x3_, iv x4_, iv x5_, iv (XT.ushr x5_ (1 : Int32)), rv b2, .unset, .unset, .unset, .unset] [(.long ((((((own_len x0_).toInt64) + ((own_len x1_).toInt64)) + ((own_len x2_).toInt64)) + ((own_len x3_).toInt64)) + ((own_len (XT.ushr x5_ (1 : Int32))).toInt64)))]
    refine OGo.st (fun _ kz => XT.lstore X72.here hx rfl (hb hby at_88) rfl (l' := #[iv x0_, iv x1_, iv x2_, iv x3_, iv x4_, iv x5_, iv (XT.ushr x5_ (1 : Int32)), rv b2, .val (.long ((((((own_len x0_).toInt64) + ((own_len x1_).toInt64)) + ((own_len x2_).toInt64)) + ((own_len x3_).toInt64)) + ((own_len (XT.ushr x5_ (1 : Int32))).toInt64))), .second, .unset, .unset]) rfl kz) ?_
    show OG p e below Φ T72 m 90 #[iv x0_, iv x1_, iv x2_, iv x3_, iv x4_, iv x5_, iv (XT.ushr x5_ (1 : Int32)), rv b2, .val (.long ((((((own_len x0_).toInt64) + ((own_len x1_).toInt64)) + ((own_len x2_).toInt64)) + ((own_len x3_).toInt64)) + ((own_len (XT.ushr x5_ (1 : Int32))).toInt64))), .second, .unset, .unset] []
    refine OGo.st (fun _ kz => X72.ldc2J hx hown (mvT hZ (ow61 hw)) rfl (hb hby at_90) kz) ?_
    show OG p e below Φ T72 m 93 #[iv x0_, iv x1_, iv x2_, iv x3_, iv x4_, iv x5_, iv (XT.ushr x5_ (1 : Int32)), rv b2, .val (.long ((((((own_len x0_).toInt64) + ((own_len x1_).toInt64)) + ((own_len x2_).toInt64)) + ((own_len x3_).toInt64)) + ((own_len (XT.ushr x5_ (1 : Int32))).toInt64))), .second, .unset, .unset] [(.long 544)]
    refine OGo.st (fun _ kz => X72.ldc2J hx hown (mvT hZ (ow62 hw)) rfl (hb hby at_93) kz) ?_
    show OG p e below Φ T72 m 96 #[iv x0_, iv x1_, iv x2_, iv x3_, iv x4_, iv x5_, iv (XT.ushr x5_ (1 : Int32)), rv b2, .val (.long ((((((own_len x0_).toInt64) + ((own_len x1_).toInt64)) + ((own_len x2_).toInt64)) + ((own_len x3_).toInt64)) + ((own_len (XT.ushr x5_ (1 : Int32))).toInt64))), .second, .unset, .unset] [(.long 2), (.long 544)]
    refine OGo.st (fun _ kz => XT.lload X72.here hx rfl (hb hby at_96) rfl kz) ?_
    show OG p e below Φ T72 m 98 #[iv x0_, iv x1_, iv x2_, iv x3_, iv x4_, iv x5_, iv (XT.ushr x5_ (1 : Int32)), rv b2, .val (.long ((((((own_len x0_).toInt64) + ((own_len x1_).toInt64)) + ((own_len x2_).toInt64)) + ((own_len x3_).toInt64)) + ((own_len (XT.ushr x5_ (1 : Int32))).toInt64))), .second, .unset, .unset] [(.long ((((((own_len x0_).toInt64) + ((own_len x1_).toInt64)) + ((own_len x2_).toInt64)) + ((own_len x3_).toInt64)) + ((own_len (XT.ushr x5_ (1 : Int32))).toInt64))), (.long 2), (.long 544)]
    refine OGo.st (fun _ kz => XT.lmul X72.here hx rfl (hb hby at_98) rfl kz) ?_
    show OG p e below Φ T72 m 99 #[iv x0_, iv x1_, iv x2_, iv x3_, iv x4_, iv x5_, iv (XT.ushr x5_ (1 : Int32)), rv b2, .val (.long ((((((own_len x0_).toInt64) + ((own_len x1_).toInt64)) + ((own_len x2_).toInt64)) + ((own_len x3_).toInt64)) + ((own_len (XT.ushr x5_ (1 : Int32))).toInt64))), .second, .unset, .unset] [(.long ((2 : Int64) * ((((((own_len x0_).toInt64) + ((own_len x1_).toInt64)) + ((own_len x2_).toInt64)) + ((own_len x3_).toInt64)) + ((own_len (XT.ushr x5_ (1 : Int32))).toInt64)))), (.long 544)]
    refine OGo.st (fun _ kz => XT.ladd X72.here hx rfl (hb hby at_99) rfl kz) ?_
    show OG p e below Φ T72 m 100 #[iv x0_, iv x1_, iv x2_, iv x3_, iv x4_, iv x5_, iv (XT.ushr x5_ (1 : Int32)), rv b2, .val (.long ((((((own_len x0_).toInt64) + ((own_len x1_).toInt64)) + ((own_len x2_).toInt64)) + ((own_len x3_).toInt64)) + ((own_len (XT.ushr x5_ (1 : Int32))).toInt64))), .second, .unset, .unset] [(.long ((544 : Int64) + ((2 : Int64) * ((((((own_len x0_).toInt64) + ((own_len x1_).toInt64)) + ((own_len x2_).toInt64)) + ((own_len x3_).toInt64)) + ((own_len (XT.ushr x5_ (1 : Int32))).toInt64)))))]
    refine OGo.st (fun _ kz => XT.lstore X72.here hx rfl (hb hby at_100) rfl (l' := #[iv x0_, iv x1_, iv x2_, iv x3_, iv x4_, iv x5_, iv (XT.ushr x5_ (1 : Int32)), rv b2, .val (.long ((((((own_len x0_).toInt64) + ((own_len x1_).toInt64)) + ((own_len x2_).toInt64)) + ((own_len x3_).toInt64)) + ((own_len (XT.ushr x5_ (1 : Int32))).toInt64))), .second, .val (.long ((544 : Int64) + ((2 : Int64) * ((((((own_len x0_).toInt64) + ((own_len x1_).toInt64)) + ((own_len x2_).toInt64)) + ((own_len x3_).toInt64)) + ((own_len (XT.ushr x5_ (1 : Int32))).toInt64))))), .second]) rfl kz) ?_
    show OG p e below Φ T72 m 102 #[iv x0_, iv x1_, iv x2_, iv x3_, iv x4_, iv x5_, iv (XT.ushr x5_ (1 : Int32)), rv b2, .val (.long ((((((own_len x0_).toInt64) + ((own_len x1_).toInt64)) + ((own_len x2_).toInt64)) + ((own_len x3_).toInt64)) + ((own_len (XT.ushr x5_ (1 : Int32))).toInt64))), .second, .val (.long ((544 : Int64) + ((2 : Int64) * ((((((own_len x0_).toInt64) + ((own_len x1_).toInt64)) + ((own_len x2_).toInt64)) + ((own_len x3_).toInt64)) + ((own_len (XT.ushr x5_ (1 : Int32))).toInt64))))), .second] []
    refine OGo.st (fun _ kz => XS.aload X72.here hx rfl (hb hby at_102) rfl rfl kz) ?_
    show OG p e below Φ T72 m 104 #[iv x0_, iv x1_, iv x2_, iv x3_, iv x4_, iv x5_, iv (XT.ushr x5_ (1 : Int32)), rv b2, .val (.long ((((((own_len x0_).toInt64) + ((own_len x1_).toInt64)) + ((own_len x2_).toInt64)) + ((own_len x3_).toInt64)) + ((own_len (XT.ushr x5_ (1 : Int32))).toInt64))), .second, .val (.long ((544 : Int64) + ((2 : Int64) * ((((((own_len x0_).toInt64) + ((own_len x1_).toInt64)) + ((own_len x2_).toInt64)) + ((own_len x3_).toInt64)) + ((own_len (XT.ushr x5_ (1 : Int32))).toInt64))))), .second] [(.ref b2)]
    obtain ⟨_, T73, L73, X73, hQ73, st73⟩ := own_callSt X72 hx hZ hown (ow0 hw) (ow1 hw) (ow2 hw) (ow3 hw) (by decide) (rbo l Z a0 hw [] b2 sx5 sx14 sx24 sx35 sx47 (x0_ &&& 3) (x1_ &&& 3) (x2_ &&& 3) (x3_ &&& 3) ((XT.ushr x5_ (1 : Int32)) &&& 3) qc T60.heap n0 Zs60 Eq60 (S_cs.ext F61.2) hq Fq60_0 F62 Fq60_1 F63 Fq60_2 F64 Fq60_3 F65 Fq60_4 F66) e72 (W := 0) (by decide) (by decide) (by decide) (by decide) (pc := 104) (ls := #[iv x0_, iv x1_, iv x2_, iv x3_, iv x4_, iv x5_, iv (XT.ushr x5_ (1 : Int32)), rv b2, .val (.long ((((((own_len x0_).toInt64) + ((own_len x1_).toInt64)) + ((own_len x2_).toInt64)) + ((own_len x3_).toInt64)) + ((own_len (XT.ushr x5_ (1 : Int32))).toInt64))), .second, .val (.long ((544 : Int64) + ((2 : Int64) * ((((((own_len x0_).toInt64) + ((own_len x1_).toInt64)) + ((own_len x2_).toInt64)) + ((own_len x3_).toInt64)) + ((own_len (XT.ushr x5_ (1 : Int32))).toInt64))))), .second]) (stk := [(.ref b2)]) (by rw [hml]; rfl) (argsL := [(.ref b2)]) (rest := []) (lenOf pd15 rfl) rfl rfl (Nat.le_of_eq rfl) (hb hby at_104)
    obtain ⟨rfl, Nq73, e73⟩ := hQ73
    have N73 := Fr.app N72 Nq73
    refine OGo.st st73 ?_
    show OG p e below Φ T73 m 107 #[iv x0_, iv x1_, iv x2_, iv x3_, iv x4_, iv x5_, iv (XT.ushr x5_ (1 : Int32)), rv b2, .val (.long ((((((own_len x0_).toInt64) + ((own_len x1_).toInt64)) + ((own_len x2_).toInt64)) + ((own_len x3_).toInt64)) + ((own_len (XT.ushr x5_ (1 : Int32))).toInt64))), .second, .val (.long ((544 : Int64) + ((2 : Int64) * ((((((own_len x0_).toInt64) + ((own_len x1_).toInt64)) + ((own_len x2_).toInt64)) + ((own_len x3_).toInt64)) + ((own_len (XT.ushr x5_ (1 : Int32))).toInt64))))), .second] [(.long ((((((224 : Int64) + (own_fb (x0_ &&& 3))) + (own_fb (x1_ &&& 3))) + (own_fb (x2_ &&& 3))) + (own_fb (x3_ &&& 3))) + (own_fb ((XT.ushr x5_ (1 : Int32)) &&& 3))))]
    refine OGo.st (fun _ kz => XT.lload X73.here hx rfl (hb hby at_107) rfl kz) ?_
    show OG p e below Φ T73 m 109 #[iv x0_, iv x1_, iv x2_, iv x3_, iv x4_, iv x5_, iv (XT.ushr x5_ (1 : Int32)), rv b2, .val (.long ((((((own_len x0_).toInt64) + ((own_len x1_).toInt64)) + ((own_len x2_).toInt64)) + ((own_len x3_).toInt64)) + ((own_len (XT.ushr x5_ (1 : Int32))).toInt64))), .second, .val (.long ((544 : Int64) + ((2 : Int64) * ((((((own_len x0_).toInt64) + ((own_len x1_).toInt64)) + ((own_len x2_).toInt64)) + ((own_len x3_).toInt64)) + ((own_len (XT.ushr x5_ (1 : Int32))).toInt64))))), .second] [(.long ((544 : Int64) + ((2 : Int64) * ((((((own_len x0_).toInt64) + ((own_len x1_).toInt64)) + ((own_len x2_).toInt64)) + ((own_len x3_).toInt64)) + ((own_len (XT.ushr x5_ (1 : Int32))).toInt64))))), (.long ((((((224 : Int64) + (own_fb (x0_ &&& 3))) + (own_fb (x1_ &&& 3))) + (own_fb (x2_ &&& 3))) + (own_fb (x3_ &&& 3))) + (own_fb ((XT.ushr x5_ (1 : Int32)) &&& 3))))]
    refine OGo.st (fun _ kz => XT.lcmp X73.here hx rfl (hb hby at_109) rfl kz) ?_
    show OG p e below Φ T73 m 110 #[iv x0_, iv x1_, iv x2_, iv x3_, iv x4_, iv x5_, iv (XT.ushr x5_ (1 : Int32)), rv b2, .val (.long ((((((own_len x0_).toInt64) + ((own_len x1_).toInt64)) + ((own_len x2_).toInt64)) + ((own_len x3_).toInt64)) + ((own_len (XT.ushr x5_ (1 : Int32))).toInt64))), .second, .val (.long ((544 : Int64) + ((2 : Int64) * ((((((own_len x0_).toInt64) + ((own_len x1_).toInt64)) + ((own_len x2_).toInt64)) + ((own_len x3_).toInt64)) + ((own_len (XT.ushr x5_ (1 : Int32))).toInt64))))), .second] [(.int (XT.cmpL ((((((224 : Int64) + (own_fb (x0_ &&& 3))) + (own_fb (x1_ &&& 3))) + (own_fb (x2_ &&& 3))) + (own_fb (x3_ &&& 3))) + (own_fb ((XT.ushr x5_ (1 : Int32)) &&& 3))) ((544 : Int64) + ((2 : Int64) * ((((((own_len x0_).toInt64) + ((own_len x1_).toInt64)) + ((own_len x2_).toInt64)) + ((own_len x3_).toInt64)) + ((own_len (XT.ushr x5_ (1 : Int32))).toInt64))))))]
    by_cases hc74 : ((((((224 : Int64) + (own_fb (x0_ &&& 3))) + (own_fb (x1_ &&& 3))) + (own_fb (x2_ &&& 3))) + (own_fb (x3_ &&& 3))) + (own_fb ((XT.ushr x5_ (1 : Int32)) &&& 3))) = ((544 : Int64) + ((2 : Int64) * ((((((own_len x0_).toInt64) + ((own_len x1_).toInt64)) + ((own_len x2_).toInt64)) + ((own_len x3_).toInt64)) + ((own_len (XT.ushr x5_ (1 : Int32))).toInt64))))
    · refine OGo.st (fun _ kz => XS.ifNo X73.here hx rfl (hb hby at_110) rfl (XT.ll_ne_f hc74) kz) ?_
      show OG p e below Φ T73 m 113 #[iv x0_, iv x1_, iv x2_, iv x3_, iv x4_, iv x5_, iv (XT.ushr x5_ (1 : Int32)), rv b2, .val (.long ((((((own_len x0_).toInt64) + ((own_len x1_).toInt64)) + ((own_len x2_).toInt64)) + ((own_len x3_).toInt64)) + ((own_len (XT.ushr x5_ (1 : Int32))).toInt64))), .second, .val (.long ((544 : Int64) + ((2 : Int64) * ((((((own_len x0_).toInt64) + ((own_len x1_).toInt64)) + ((own_len x2_).toInt64)) + ((own_len x3_).toInt64)) + ((own_len (XT.ushr x5_ (1 : Int32))).toInt64))))), .second] []
      refine OGo.st (fun _ kz => XS.iconst X73.here hx rfl (hb hby at_113) kz) ?_
      show OG p e below Φ T73 m 114 #[iv x0_, iv x1_, iv x2_, iv x3_, iv x4_, iv x5_, iv (XT.ushr x5_ (1 : Int32)), rv b2, .val (.long ((((((own_len x0_).toInt64) + ((own_len x1_).toInt64)) + ((own_len x2_).toInt64)) + ((own_len x3_).toInt64)) + ((own_len (XT.ushr x5_ (1 : Int32))).toInt64))), .second, .val (.long ((544 : Int64) + ((2 : Int64) * ((((((own_len x0_).toInt64) + ((own_len x1_).toInt64)) + ((own_len x2_).toInt64)) + ((own_len x3_).toInt64)) + ((own_len (XT.ushr x5_ (1 : Int32))).toInt64))))), .second] [(.int 1)]
      refine OGo.st (fun _ kz => XS.goto X73.here hx rfl (pc0 := 114) (pc' := 118) rfl (hb hby at_114) (by decide) (by decide) kz) ?_
      show OG p e below Φ T73 m 118 #[iv x0_, iv x1_, iv x2_, iv x3_, iv x4_, iv x5_, iv (XT.ushr x5_ (1 : Int32)), rv b2, .val (.long ((((((own_len x0_).toInt64) + ((own_len x1_).toInt64)) + ((own_len x2_).toInt64)) + ((own_len x3_).toInt64)) + ((own_len (XT.ushr x5_ (1 : Int32))).toInt64))), .second, .val (.long ((544 : Int64) + ((2 : Int64) * ((((((own_len x0_).toInt64) + ((own_len x1_).toInt64)) + ((own_len x2_).toInt64)) + ((own_len x3_).toInt64)) + ((own_len (XT.ushr x5_ (1 : Int32))).toInt64))))), .second] [(.int 1)]
      refine OGo.finW X73 hlk hS e73 hkk (v := (some (.int 1))) (fun h => by rw [hret] at h; cases h) (by decide) (by decide) hZ (own_EW hw) hC (fun fs hr => X73.ireturnOut hx hret rfl (by simp) (hb hby at_118) hr) fun U eU hc hF => hΦ _ _ _ ?_ hc hF
      rw [eU]
      show Q_rm0 Z x0_ x1_ x2_ x3_ x4_ x5_ qc h0 n0 _ _ _
      exact ⟨rfl, N73⟩
    · refine OGo.st (fun _ kz => XS.ifYes X73.here hx rfl (pc0 := 110) (pc' := 117) rfl (hb hby at_110) rfl (XT.ll_ne_t hc74) (by decide) (by decide) kz) ?_
      show OG p e below Φ T73 m 117 #[iv x0_, iv x1_, iv x2_, iv x3_, iv x4_, iv x5_, iv (XT.ushr x5_ (1 : Int32)), rv b2, .val (.long ((((((own_len x0_).toInt64) + ((own_len x1_).toInt64)) + ((own_len x2_).toInt64)) + ((own_len x3_).toInt64)) + ((own_len (XT.ushr x5_ (1 : Int32))).toInt64))), .second, .val (.long ((544 : Int64) + ((2 : Int64) * ((((((own_len x0_).toInt64) + ((own_len x1_).toInt64)) + ((own_len x2_).toInt64)) + ((own_len x3_).toInt64)) + ((own_len (XT.ushr x5_ (1 : Int32))).toInt64))))), .second] []
      refine OGo.st (fun _ kz => XS.iconst X73.here hx rfl (hb hby at_117) kz) ?_
      show OG p e below Φ T73 m 118 #[iv x0_, iv x1_, iv x2_, iv x3_, iv x4_, iv x5_, iv (XT.ushr x5_ (1 : Int32)), rv b2, .val (.long ((((((own_len x0_).toInt64) + ((own_len x1_).toInt64)) + ((own_len x2_).toInt64)) + ((own_len x3_).toInt64)) + ((own_len (XT.ushr x5_ (1 : Int32))).toInt64))), .second, .val (.long ((544 : Int64) + ((2 : Int64) * ((((((own_len x0_).toInt64) + ((own_len x1_).toInt64)) + ((own_len x2_).toInt64)) + ((own_len x3_).toInt64)) + ((own_len (XT.ushr x5_ (1 : Int32))).toInt64))))), .second] [(.int 0)]
      exact absurd (by simp only [own_fb, own_len]; grind) hc74
  · refine OGo.st (fun _ kz => XS.ifNo X0.here hx rfl (hb hby at_4) rfl (XT.i0_eq_f hc1) kz) ?_
    show OG p e below Φ s₁ m 7 #[iv x0_, iv x1_, iv x2_, iv x3_, iv x4_, iv x5_, .unset, .unset, .unset, .unset, .unset, .unset] []
    refine OGo.st (fun _ kz => XS.aconstNull X0.here hx rfl (hb hby at_7) kz) ?_
    show OG p e below Φ s₁ m 8 #[iv x0_, iv x1_, iv x2_, iv x3_, iv x4_, iv x5_, .unset, .unset, .unset, .unset, .unset, .unset] [.null]
    obtain ⟨_, T75, L75, X75, hQ75, st75⟩ := own_callSt X0 hx hZ hown (ow0 hw) (ow1 hw) (ow2 hw) (ow3 hw) (by decide) (rbn l Z a0 hw []  h0 n0 Z0 ) e0 (W := 0) (by decide) (by decide) (by decide) (by decide) (pc := 8) (ls := #[iv x0_, iv x1_, iv x2_, iv x3_, iv x4_, iv x5_, .unset, .unset, .unset, .unset, .unset, .unset]) (stk := [.null]) (by rw [hml]; rfl) (argsL := [.null]) (rest := []) (lenOf pd15 rfl) rfl rfl (Nat.le_of_eq rfl) (hb hby at_8)
    obtain ⟨rfl, Nq75, e75⟩ := hQ75
    have N75 := Fr.app N0 Nq75
    refine OGo.st st75 ?_
    show OG p e below Φ T75 m 11 #[iv x0_, iv x1_, iv x2_, iv x3_, iv x4_, iv x5_, .unset, .unset, .unset, .unset, .unset, .unset] [(.long 0)]
    refine OGo.st (fun _ kz => XT.lconst X75.here hx rfl (hb hby at_11) kz) ?_
    show OG p e below Φ T75 m 12 #[iv x0_, iv x1_, iv x2_, iv x3_, iv x4_, iv x5_, .unset, .unset, .unset, .unset, .unset, .unset] [(.long 0), (.long 0)]
    refine OGo.st (fun _ kz => XT.lcmp X75.here hx rfl (hb hby at_12) rfl kz) ?_
    show OG p e below Φ T75 m 13 #[iv x0_, iv x1_, iv x2_, iv x3_, iv x4_, iv x5_, .unset, .unset, .unset, .unset, .unset, .unset] [(.int (XT.cmpL (0 : Int64) (0 : Int64)))]
    refine OGo.st (fun _ kz => XS.ifNo X75.here hx rfl (hb hby at_13) rfl (XT.ll_ne_f (by decide)) kz) ?_
    show OG p e below Φ T75 m 16 #[iv x0_, iv x1_, iv x2_, iv x3_, iv x4_, iv x5_, .unset, .unset, .unset, .unset, .unset, .unset] []
    refine OGo.st (fun _ kz => XS.iconst X75.here hx rfl (hb hby at_16) kz) ?_
    show OG p e below Φ T75 m 17 #[iv x0_, iv x1_, iv x2_, iv x3_, iv x4_, iv x5_, .unset, .unset, .unset, .unset, .unset, .unset] [(.int 1)]
    refine OGo.st (fun _ kz => XS.goto X75.here hx rfl (pc0 := 17) (pc' := 21) rfl (hb hby at_17) (by decide) (by decide) kz) ?_
    show OG p e below Φ T75 m 21 #[iv x0_, iv x1_, iv x2_, iv x3_, iv x4_, iv x5_, .unset, .unset, .unset, .unset, .unset, .unset] [(.int 1)]
    refine OGo.finW X75 hlk hS e75 hkk (v := (some (.int 1))) (fun h => by rw [hret] at h; cases h) (by decide) (by decide) hZ (own_EW hw) hC (fun fs hr => X75.ireturnOut hx hret rfl (by simp) (hb hby at_21) hr) fun U eU hc hF => hΦ _ _ _ ?_ hc hF
    rw [eU]
    show Q_rm0 Z x0_ x1_ x2_ x3_ x4_ x5_ qc h0 n0 _ _ _
    exact ⟨rfl, N75⟩

set_option maxRecDepth 65536 in
set_option maxHeartbeats 40000000 in
theorem comes_1 {Post : Tables → Env → Array Value → State → Outcome → State → Prop} (hpost : ∀ tb e args s v u, (limb_1_1.after args s (.returned v) u = true ∧ limb_1_2.after args s (.returned v) u = true ∧ True) → FramedW s (.returned v) u (Jvm.fieldLocs frame_1_writes args s ++ Jvm.arrayLocs frame_1_arrays args s ++ Jvm.staticLocs frame_1_statics s) 56 1280 → Post tb e args s (.returned v) u) :
    ArmFor flags0 classFile x code maxLocals ret World_1 tables_1 room_1 Calls_1 rest_1 Pre_1 Post := by
  intro l hfl _ _ p e ha hc hk s m args below hf hA hF happ hP
  obtain ⟨hcalls, hrest, hpre⟩ := hP
  obtain ⟨-, -, -, hnamed, -, -, -, hat⟩ := (Spec.applies_iff hf).mp happ
  obtain ⟨hg, hn⟩ := and_e (Cond.before_iff.mp (show (Jvm.Cond.and given_1 narrow_1).before args s = true from hpre))
  obtain ⟨g0, r0⟩ := and_e hg
  obtain ⟨k0, r1⟩ := and_e r0
  obtain ⟨k1, r2⟩ := and_e r1
  obtain ⟨k2, r3⟩ := and_e r2
  obtain ⟨k3, r4⟩ := and_e r3
  obtain ⟨k4, r5⟩ := and_e r4
  have k5 := r5
  obtain ⟨w0, w1, w2, w3, w4, w5, rfl⟩ : ∃ w0 w1 w2 w3 w4 w5 : Value, args = #[w0, w1, w2, w3, w4, w5] := by
    have hs : args.size = 6 := by simpa [Cond.value, given_1] using g0
    obtain ⟨L⟩ := args
    match L, hs with
    | [w0, w1, w2, w3, w4, w5], _ => exact ⟨w0, w1, w2, w3, w4, w5, rfl⟩
  have hw := fun d (hd : d ∈ tables_1) => atoms_spec (ws := Jvm.Cond.code x code maxLocals ret :: tables_1) hat d (List.mem_cons_of_mem _ hd)
  have hfit : Fit s := fun {y c} hc i hi => by
    obtain ⟨ha, rfl⟩ := Array.getElem?_eq_some_iff.mp hc
    have q := List.all_eq_true.mp ((Array.all_eq_true_iff_forall_mem.mp hF) _ (Array.getElem_mem ha)) i (List.mem_range.mpr hi)
    simpa [Array.getElem?_eq_getElem hi] using q
  obtain ⟨i0, ei0⟩ := is_v k0
  obtain rfl : w0 = (.int i0) := Option.some.inj ei0
  obtain ⟨i1, ei1⟩ := is_v k1
  obtain rfl : w1 = (.int i1) := Option.some.inj ei1
  obtain ⟨i2, ei2⟩ := is_v k2
  obtain rfl : w2 = (.int i2) := Option.some.inj ei2
  obtain ⟨i3, ei3⟩ := is_v k3
  obtain rfl : w3 = (.int i3) := Option.some.inj ei3
  obtain ⟨i4, ei4⟩ := is_v k4
  obtain rfl : w4 = (.int i4) := Option.some.inj ei4
  obtain ⟨i5, ei5⟩ := is_v k5
  obtain rfl : w5 = (.int i5) := Option.some.inj ei5
  have hrc : rest_1_c.before _ s = true := hrest
  rw [rest_1_c_eq] at hrc
  have hsets := (atoms_of jdkStatics_1 hrc).1
  obtain ⟨qc, v_q⟩ := is_v (Cond.before_iff.mp (hsets _ (List.mem_of_getElem? (i := 1) rfl)))
  have S_cs := Sta.start v_q (Or.inl (hsets _ (List.mem_of_getElem? (i := 0) rfl)))
  have hq : ¬ qc = 0 := fun z => by have u := not_v (Cond.before_iff.mp (hsets _ (List.mem_of_getElem? (i := 2) rfl))); rw [eq_i v_q (Term.int_eval 0) (by rw [z])] at u; cases u
  have vS_ad := own_eqV (Term.int_eval 1) rfl (Cond.before_iff.mp (hsets _ (List.mem_of_getElem? (i := 12) rfl)))
  have S_ad := Sta.start vS_ad (Or.inl (hsets _ (List.mem_of_getElem? (i := 11) rfl)))
  have vS_hb := own_eqV (Term.int_eval 0) rfl (Cond.before_iff.mp (hsets _ (List.mem_of_getElem? (i := 15) rfl)))
  have S_hb := Sta.start vS_hb (Or.inl (hsets _ (List.mem_of_getElem? (i := 14) rfl)))
  have vS_lb := own_eqV (Term.int_eval 8) rfl (Cond.before_iff.mp (hsets _ (List.mem_of_getElem? (i := 18) rfl)))
  have S_lb := Sta.start vS_lb (Or.inl (hsets _ (List.mem_of_getElem? (i := 17) rfl)))
  obtain ⟨n, o, h1, h2, h3, _, L, rfl, ⟨rfl, N⟩, -, hq⟩ := rm0 l s _ hw tables_1 i0 i1 i2 i3 i4 i5 qc s.heap s.heap.size (Nat.le_refl _) (Old.start s) S_cs hq S_ad S_hb S_lb p e ha hc hk s m _ below hf ((Spec.applies_iff_loose hf).mp happ).1 ⟨rfl, State.Warmed39.refl s, rfl, CHv.start (own_EW hw) (fun p hp => hcalls.1 p hp) (hsets _ (List.mem_of_getElem? (i := 2) rfl)) (ow26 hw) (ow12 hw), fun _ hx => nomatch hx⟩ trivial
  refine ⟨n, _, h1, h2, h3, hpost _ _ _ _ _ _ ⟨Cond.after_iff.mpr rfl, Cond.after_iff.mpr (eq_i res_at (Term.int_eval (1)) rfl), trivial⟩ ⟨hq.1, hq.2.1, hq.2.2.1, (hq.2.2.2.sift fun y hy => Or.inr (N y hy)).mono (by decide) (by decide)⟩⟩
theorem main_1_1 : Claimed_1_1 := comes_1 fun _ _ _ _ _ _ h hF => ⟨h.1, hF⟩
theorem main_1_2 : Claimed_1_2 := comes_1 fun _ _ _ _ _ _ h hF => ⟨h.2.1, hF⟩
end Jvm.Pilot.@@N@@
namespace Jvm.Pilot.@@N@@
open Jvm Jvm.ClassFile Sem Op Lib Jvm.Free Jvm.Stand Jvm.Pilot.@@N@@.Jvm.D
/-! MADE BY PROGRAM (witnessworld.py) out of the Statement's table words and the real class files: 21 classes; the members and pool entries that the words name. The judged class is class 1, her method 3. -/
namespace start1
open Jvm.ClassFile
def u (s : String) : CpInfo := .utf8 (stringToUtf16 s)
/-- a pool by its gaps: so many unusable entries, then the entry; so many at the end -/
def gap : Nat → List CpInfo → List CpInfo
  | 0, r => r
  | n + 1, r => .unusable :: gap n r
def poolList (es : List (Nat × CpInfo)) (last : Nat) : List CpInfo := es.foldr (fun e r => gap e.1 (e.2 :: r)) (gap last [])
def pool (es : List (Nat × CpInfo)) (last : Nat) : Array CpInfo := ⟨poolList es last⟩
def fileOf (pool : Array CpInfo) (this : Nat) (attrs : Array Attribute := #[]) (ms : Array MethodInfo := #[]) (fl : Nat := 33) (sup : Nat := 0) (ifs : Array Nat := #[]) (fds : Array FieldInfo := #[]) : ClassFile where
  minorVersion := 0
  majorVersion := 65
  constantPool := pool
  accessFlags := fl
  thisClass := this
  superClass := sup
  interfaces := ifs
  fields := fds
  methods := ms
  attributes := attrs
def plain (name : String) (sup : Option ClassId) : Class where
  name := name
  kind := .ordinary
  loader := none
  accessFlags := 33
  super := sup
  interfaces := #[]
  cf := none
  fields := #[]
  methods := #[]
  instanceTypes := #[]
  staticTypes := #[]
  resolved := #[]
  callSites := []
  init := .initialized
  statics := none
  mirror := none

def pool0 : Array CpInfo := pool [(5, u "<init>"), (0, u "()V"), (1, .class_ 10), (1, u "java/lang/Object")] 113

def k0c0 : Code := { maxStack := 0, maxLocals := 1, code := object_method_1_code, exceptionTable := #[], attributes := #[] }
def k0m0 : Method := { name := "<init>", desc := "()V", sig := { parameters := [], returnType := none }, accessFlags := 1, code := some k0c0 }
/-- java/lang/Object -/
def k0 : Class := { plain "java/lang/Object" none with
  accessFlags := 33
  interfaces := #[]
  cf := some (fileOf pool0 8 #[] #[{ accessFlags := 1, nameIndex := 5, descriptorIndex := 6, attributes := #[] }] 33 0 #[] #[])
  fields := #[]
  methods := #[k0m0]
  instanceTypes := #[]
  staticTypes := #[]
  resolved := Array.replicate 124 none
  statics := none }

def pool1 : Array CpInfo := pool [(2, .class_ 4), (1, u "java/lang/Object"), (0, u "<init>"), (0, u "()V"), (0, .class_ 8), (0, u "java/lang/String"), (0, .methodref 7 10), (0, .nameAndType 5 11), (0, u "([C)V"), (0, .methodref 13 14), (0, .class_ 15), (0, .nameAndType 16 17), (0, u "com/example/zonewright/zonewright/storage/PlanIndex"), (0, u "bytesOf"), (0, u "(Lcom/example/zonewright/zonewright/plan/Plan;)J"), (0, .class_ 19), (0, u "com/example/zonewright/zonewright/plan/Plan"), (0, .methodref 21 22), (0, .class_ 23), (0, .nameAndType 24 25), (0, u "com/example/zonewright/zonewright/storage/PlanIndexBytesOfPinLaw"), (0, u "str"), (0, u "(I)Ljava/lang/String;"), (0, .methodref 18 27), (0, .nameAndType 5 28), (0, u "(Ljava/lang/String;Ljava/lang/String;Ljava/lang/String;Ljava/lang/String;Ljava/lang/String;)V"), (0, .methodref 21 30), (0, .nameAndType 31 32), (0, u "len"), (0, u "(I)I"), (0, .long 544), (1, .long 2), (4, u "law"), (0, u "(IIIIII)Z")] 2

def k1m0 : Method := { name := "<init>", desc := "()V", sig := { parameters := [], returnType := none }, accessFlags := 1, code := none }
def k1c1 : Code := { maxStack := 2, maxLocals := 1, code := method_2_code, exceptionTable := #[], attributes := #[] }
def k1m1 : Method := { name := "len", desc := "(I)I", sig := { parameters := [.int], returnType := some .int }, accessFlags := 10, code := some k1c1 }
def k1c2 : Code := { maxStack := 6, maxLocals := 4, code := method_3_code, exceptionTable := #[], attributes := #[] }
def k1m2 : Method := { name := "str", desc := "(I)Ljava/lang/String;", sig := { parameters := [.int], returnType := some (.object "java/lang/String") }, accessFlags := 10, code := some k1c2 }
def k1c3 : Code := { maxStack := 7, maxLocals := 12, code := code, exceptionTable := #[], attributes := #[] }
def k1m3 : Method := { name := "law", desc := "(IIIIII)Z", sig := { parameters := [.int, .int, .int, .int, .int, .int], returnType := some .boolean }, accessFlags := 9, code := some k1c3 }
/-- com/example/zonewright/zonewright/storage/PlanIndexBytesOfPinLaw -/
def k1 : Class := { plain "com/example/zonewright/zonewright/storage/PlanIndexBytesOfPinLaw" (some 0) with
  accessFlags := 49
  interfaces := #[]
  cf := some (fileOf pool1 21 #[] #[{ accessFlags := 1, nameIndex := 5, descriptorIndex := 6, attributes := #[] }, { accessFlags := 10, nameIndex := 31, descriptorIndex := 32, attributes := #[] }, { accessFlags := 10, nameIndex := 24, descriptorIndex := 25, attributes := #[] }, { accessFlags := 9, nameIndex := 40, descriptorIndex := 41, attributes := #[] }] 49 2 #[] #[])
  fields := #[]
  methods := #[k1m0, k1m1, k1m2, k1m3]
  instanceTypes := #[]
  staticTypes := #[]
  resolved := Array.replicate 44 none
  statics := none }

def pool2 : Array CpInfo := pool [(2, .class_ 4), (1, u "java/lang/Object"), (6, .class_ 13), (1, u "com/example/zonewright/zonewright/storage/PlanIndex"), (0, u "byId"), (0, u "Ljava/util/Map;"), (5, u "inOrder"), (8, u "listed"), (0, u "Ljava/util/List;"), (2, u "room"), (0, u "J"), (6, .class_ 43), (0, u "com/example/zonewright/zonewright/plan/Plan"), (16, u "bytesOf"), (0, u "(Lcom/example/zonewright/zonewright/plan/Plan;)J"), (0, .methodref 42 63), (0, .nameAndType 64 65), (0, u "getId"), (0, u "()Ljava/lang/String;"), (8, u "taken"), (31, .long 224), (1, .methodref 11 109), (0, .nameAndType 110 111), (0, u "fieldBytes"), (0, u "(Ljava/lang/String;)J"), (0, .methodref 42 113), (0, .nameAndType 114 65), (0, u "getName"), (0, .methodref 42 116), (0, .nameAndType 117 65), (0, u "getDescription"), (0, .methodref 42 119), (0, .nameAndType 120 65), (0, u "getAuthDomain"), (0, .methodref 42 122), (0, .nameAndType 123 65), (0, u "getInstanceName"), (0, .long 64), (1, .long 2), (1, .methodref 129 130), (0, .class_ 131), (0, .nameAndType 132 133), (0, u "java/lang/String"), (0, u "length"), (0, u "()I"), (0, u "PLAN_BYTES"), (1, u "FIELD_BYTES"), (0, u "BYTES_PER_MEBIBYTE"), (0, u "I")] 36

def k2c0 : Code := { maxStack := 4, maxLocals := 1, code := prog_25_method_9_code, exceptionTable := #[], attributes := #[] }
def k2m0 : Method := { name := "bytesOf", desc := "(Lcom/example/zonewright/zonewright/plan/Plan;)J", sig := { parameters := [(.object "com/example/zonewright/zonewright/plan/Plan")], returnType := some .long }, accessFlags := 8, code := some k2c0 }
def k2c1 : Code := { maxStack := 6, maxLocals := 1, code := prog_25_method_10_code, exceptionTable := #[], attributes := #[] }
def k2m1 : Method := { name := "fieldBytes", desc := "(Ljava/lang/String;)J", sig := { parameters := [(.object "java/lang/String")], returnType := some .long }, accessFlags := 10, code := some k2c1 }
/-- com/example/zonewright/zonewright/storage/PlanIndex -/
def k2 : Class := { plain "com/example/zonewright/zonewright/storage/PlanIndex" (some 0) with
  accessFlags := 48
  interfaces := #[]
  cf := some (fileOf pool2 11 #[] #[{ accessFlags := 8, nameIndex := 60, descriptorIndex := 61, attributes := #[] }, { accessFlags := 10, nameIndex := 110, descriptorIndex := 111, attributes := #[] }] 48 2 #[] #[{ accessFlags := 26, nameIndex := 134, descriptorIndex := 35, attributes := #[] }, { accessFlags := 26, nameIndex := 136, descriptorIndex := 35, attributes := #[] }, { accessFlags := 26, nameIndex := 137, descriptorIndex := 138, attributes := #[] }, { accessFlags := 18, nameIndex := 14, descriptorIndex := 15, attributes := #[] }, { accessFlags := 18, nameIndex := 21, descriptorIndex := 15, attributes := #[] }, { accessFlags := 66, nameIndex := 30, descriptorIndex := 31, attributes := #[] }, { accessFlags := 18, nameIndex := 34, descriptorIndex := 35, attributes := #[] }, { accessFlags := 2, nameIndex := 74, descriptorIndex := 35, attributes := #[] }])
  fields := #[{ name := "PLAN_BYTES", type := .long, accessFlags := 26, slot := 0, constantValue := 0 }, { name := "FIELD_BYTES", type := .long, accessFlags := 26, slot := 1, constantValue := 0 }, { name := "BYTES_PER_MEBIBYTE", type := .int, accessFlags := 26, slot := 2, constantValue := 0 }, { name := "byId", type := (.object "java/util/Map"), accessFlags := 18, slot := 0, constantValue := 0 }, { name := "inOrder", type := (.object "java/util/Map"), accessFlags := 18, slot := 1, constantValue := 0 }, { name := "listed", type := (.object "java/util/List"), accessFlags := 66, slot := 2, constantValue := 0 }, { name := "room", type := .long, accessFlags := 18, slot := 3, constantValue := 0 }, { name := "taken", type := .long, accessFlags := 2, slot := 4, constantValue := 0 }]
  methods := #[k2m0, k2m1]
  instanceTypes := #[(.object "java/util/Map"), (.object "java/util/Map"), (.object "java/util/List"), .long, .long]
  staticTypes := #[.long, .long, .int]
  resolved := Array.replicate 175 none
  statics := none }

def pool3 : Array CpInfo := pool [(1, .methodref 2 3), (0, .class_ 4), (0, .nameAndType 5 6), (0, u "java/lang/Object"), (0, u "<init>"), (0, u "()V"), (0, .fieldref 8 9), (0, .class_ 10), (0, .nameAndType 11 12), (0, u "com/example/zonewright/zonewright/plan/Plan"), (0, u "id"), (0, u "Ljava/lang/String;"), (0, .fieldref 8 14), (0, .nameAndType 15 12), (0, u "name"), (0, .fieldref 8 17), (0, .nameAndType 18 12), (0, u "description"), (0, .fieldref 8 20), (0, .nameAndType 21 12), (0, u "authDomain"), (0, .fieldref 8 23), (0, .nameAndType 24 12), (0, u "instanceName"), (0, u "(Ljava/lang/String;Ljava/lang/String;Ljava/lang/String;Ljava/lang/String;Ljava/lang/String;)V"), (2, u "getId"), (0, u "()Ljava/lang/String;"), (0, u "getName"), (0, u "getDescription"), (0, u "getAuthDomain"), (0, u "getInstanceName")] 2

def k3c0 : Code := { maxStack := 2, maxLocals := 6, code := prog_20_method_1_code, exceptionTable := #[], attributes := #[] }
def k3m0 : Method := { name := "<init>", desc := "(Ljava/lang/String;Ljava/lang/String;Ljava/lang/String;Ljava/lang/String;Ljava/lang/String;)V", sig := { parameters := [(.object "java/lang/String"), (.object "java/lang/String"), (.object "java/lang/String"), (.object "java/lang/String"), (.object "java/lang/String")], returnType := none }, accessFlags := 1, code := some k3c0 }
def k3c1 : Code := { maxStack := 1, maxLocals := 1, code := prog_20_method_2_code, exceptionTable := #[], attributes := #[] }
def k3m1 : Method := { name := "getId", desc := "()Ljava/lang/String;", sig := { parameters := [], returnType := some (.object "java/lang/String") }, accessFlags := 1, code := some k3c1 }
def k3c2 : Code := { maxStack := 1, maxLocals := 1, code := prog_20_method_3_code, exceptionTable := #[], attributes := #[] }
def k3m2 : Method := { name := "getName", desc := "()Ljava/lang/String;", sig := { parameters := [], returnType := some (.object "java/lang/String") }, accessFlags := 1, code := some k3c2 }
def k3c3 : Code := { maxStack := 1, maxLocals := 1, code := prog_20_method_4_code, exceptionTable := #[], attributes := #[] }
def k3m3 : Method := { name := "getDescription", desc := "()Ljava/lang/String;", sig := { parameters := [], returnType := some (.object "java/lang/String") }, accessFlags := 1, code := some k3c3 }
def k3c4 : Code := { maxStack := 1, maxLocals := 1, code := prog_20_method_5_code, exceptionTable := #[], attributes := #[] }
def k3m4 : Method := { name := "getAuthDomain", desc := "()Ljava/lang/String;", sig := { parameters := [], returnType := some (.object "java/lang/String") }, accessFlags := 1, code := some k3c4 }
def k3c5 : Code := { maxStack := 1, maxLocals := 1, code := prog_20_method_6_code, exceptionTable := #[], attributes := #[] }
def k3m5 : Method := { name := "getInstanceName", desc := "()Ljava/lang/String;", sig := { parameters := [], returnType := some (.object "java/lang/String") }, accessFlags := 1, code := some k3c5 }
/-- com/example/zonewright/zonewright/plan/Plan -/
def k3 : Class := { plain "com/example/zonewright/zonewright/plan/Plan" (some 0) with
  accessFlags := 49
  interfaces := #[]
  cf := some (fileOf pool3 8 #[] #[{ accessFlags := 1, nameIndex := 5, descriptorIndex := 25, attributes := #[] }, { accessFlags := 1, nameIndex := 28, descriptorIndex := 29, attributes := #[] }, { accessFlags := 1, nameIndex := 30, descriptorIndex := 29, attributes := #[] }, { accessFlags := 1, nameIndex := 31, descriptorIndex := 29, attributes := #[] }, { accessFlags := 1, nameIndex := 32, descriptorIndex := 29, attributes := #[] }, { accessFlags := 1, nameIndex := 33, descriptorIndex := 29, attributes := #[] }] 49 2 #[] #[{ accessFlags := 18, nameIndex := 11, descriptorIndex := 12, attributes := #[] }, { accessFlags := 18, nameIndex := 15, descriptorIndex := 12, attributes := #[] }, { accessFlags := 18, nameIndex := 18, descriptorIndex := 12, attributes := #[] }, { accessFlags := 18, nameIndex := 21, descriptorIndex := 12, attributes := #[] }, { accessFlags := 18, nameIndex := 24, descriptorIndex := 12, attributes := #[] }])
  fields := #[{ name := "id", type := (.object "java/lang/String"), accessFlags := 18, slot := 0, constantValue := 0 }, { name := "name", type := (.object "java/lang/String"), accessFlags := 18, slot := 1, constantValue := 0 }, { name := "description", type := (.object "java/lang/String"), accessFlags := 18, slot := 2, constantValue := 0 }, { name := "authDomain", type := (.object "java/lang/String"), accessFlags := 18, slot := 3, constantValue := 0 }, { name := "instanceName", type := (.object "java/lang/String"), accessFlags := 18, slot := 4, constantValue := 0 }]
  methods := #[k3m0, k3m1, k3m2, k3m3, k3m4, k3m5]
  instanceTypes := #[(.object "java/lang/String"), (.object "java/lang/String"), (.object "java/lang/String"), (.object "java/lang/String"), (.object "java/lang/String")]
  staticTypes := #[]
  resolved := Array.replicate 36 none
  statics := none }

def pool4 : Array CpInfo := pool [(1, .class_ 2), (0, u "java/io/Serializable"), (0, .class_ 4), (0, u "java/lang/Object")] 2

/-- java/io/Serializable -/
def k4 : Class := { plain "java/io/Serializable" (some 0) with
  accessFlags := 1537
  interfaces := #[]
  cf := some (fileOf pool4 1 #[] #[] 1537 3 #[] #[])
  fields := #[]
  methods := #[]
  instanceTypes := #[]
  staticTypes := #[]
  resolved := Array.replicate 7 none
  statics := none }

def pool5 : Array CpInfo := pool [(1, .class_ 2), (0, u "java/lang/Comparable"), (0, .class_ 4), (0, u "java/lang/Object")] 7

/-- java/lang/Comparable -/
def k5 : Class := { plain "java/lang/Comparable" (some 0) with
  accessFlags := 1537
  interfaces := #[]
  cf := some (fileOf pool5 1 #[] #[] 1537 3 #[] #[])
  fields := #[]
  methods := #[]
  instanceTypes := #[]
  staticTypes := #[]
  resolved := Array.replicate 12 none
  statics := none }

def pool6 : Array CpInfo := pool [(2, .class_ 4), (1, u "java/lang/CharSequence"), (42, .class_ 48), (0, u "java/lang/CharSequence$1CodePointIterator"), (10, .class_ 60), (0, u "java/lang/CharSequence$1CharIterator"), (5, .class_ 67), (0, u "java/lang/Object")] 63

/-- java/lang/CharSequence -/
def k6 : Class := { plain "java/lang/CharSequence" (some 0) with
  accessFlags := 1537
  interfaces := #[]
  cf := some (fileOf pool6 2 #[.nestMembers #[47, 59]] #[] 1537 66 #[] #[])
  fields := #[]
  methods := #[]
  instanceTypes := #[]
  staticTypes := #[]
  resolved := Array.replicate 131 none
  statics := none }

def pool7 : Array CpInfo := pool [(1, .class_ 2), (0, u "java/lang/constant/Constable"), (0, .class_ 4), (0, u "java/lang/Object")] 6

/-- java/lang/constant/Constable -/
def k7 : Class := { plain "java/lang/constant/Constable" (some 0) with
  accessFlags := 1537
  interfaces := #[]
  cf := some (fileOf pool7 1 #[] #[] 1537 3 #[] #[])
  fields := #[]
  methods := #[]
  instanceTypes := #[]
  staticTypes := #[]
  resolved := Array.replicate 11 none
  statics := none }

def pool8 : Array CpInfo := pool [(1, .class_ 2), (0, u "java/lang/constant/ConstantDesc"), (0, .class_ 4), (0, u "java/lang/Object")] 32

/-- java/lang/constant/ConstantDesc -/
def k8 : Class := { plain "java/lang/constant/ConstantDesc" (some 0) with
  accessFlags := 1537
  interfaces := #[]
  cf := some (fileOf pool8 1 #[] #[] 1537 3 #[] #[])
  fields := #[]
  methods := #[]
  instanceTypes := #[]
  staticTypes := #[]
  resolved := Array.replicate 37 none
  statics := none }

def pool9 : Array CpInfo := pool [(1, .methodref 2 3), (0, .class_ 4), (0, .nameAndType 5 6), (0, u "java/lang/Object"), (0, u "<init>"), (0, u "()V"), (0, .string 8), (0, u ""), (0, .fieldref 10 11), (0, .class_ 12), (0, .nameAndType 13 14), (0, u "java/lang/String"), (0, u "value"), (0, u "[B"), (0, .fieldref 10 16), (0, .nameAndType 17 18), (0, u "coder"), (0, u "B"), (2, u "hash"), (0, u "I"), (2, u "hashIsZero"), (0, u "Z"), (0, .methodref 10 28), (0, .nameAndType 5 29), (0, u "([CIILjava/lang/Void;)V"), (8, .fieldref 10 39), (0, .nameAndType 40 26), (0, u "COMPACT_STRINGS"), (1, .class_ 44), (1, u "java/lang/StringUTF16"), (0, u "compress"), (1, .methodref 42 48), (0, .nameAndType 49 50), (0, u "coderFromArrayLen"), (0, u "([BI)B"), (126, .methodref 42 178), (0, .nameAndType 45 179), (0, u "([CII)[B"), (154, u "()I"), (0, .methodref 10 336), (0, .nameAndType 17 337), (0, u "()B"), (169, u "length"), (67, .class_ 576), (0, u "java/lang/CharSequence"), (22, u "CASE_INSENSITIVE_ORDER"), (0, u "Ljava/util/Comparator;"), (409, u "([C)V"), (90, u "serialPersistentFields"), (0, u "[Ljava/io/ObjectStreamField;"), (0, .class_ 1104), (0, u "java/lang/String$CaseInsensitiveComparator"), (1, .class_ 1107), (0, u "java/io/Serializable"), (0, .class_ 1109), (0, u "java/lang/Comparable"), (0, .class_ 1111), (0, u "java/lang/constant/Constable"), (0, .class_ 1113), (0, u "java/lang/constant/ConstantDesc"), (2, u "serialVersionUID"), (0, u "J"), (3, u "REPL"), (0, u "C"), (2, u "LATIN1"), (1, u "UTF16")] 323

def k9m0 : Method := { name := "<init>", desc := "()V", sig := { parameters := [], returnType := none }, accessFlags := 1, code := none }
def k9c1 : Code := { maxStack := 5, maxLocals := 2, code := jdk_42_method_3_code, exceptionTable := #[], attributes := #[] }
def k9m1 : Method := { name := "<init>", desc := "([C)V", sig := { parameters := [(.array .char)], returnType := none }, accessFlags := 1, code := some k9c1 }
def k9c2 : Code := { maxStack := 2, maxLocals := 1, code := jdk_42_method_54_code, exceptionTable := #[], attributes := #[] }
def k9m2 : Method := { name := "length", desc := "()I", sig := { parameters := [], returnType := some .int }, accessFlags := 1, code := some k9c2 }
def k9c3 : Code := { maxStack := 4, maxLocals := 6, code := jdk_42_method_149_code, exceptionTable := #[], attributes := #[] }
def k9m3 : Method := { name := "<init>", desc := "([CIILjava/lang/Void;)V", sig := { parameters := [(.array .char), .int, .int, (.object "java/lang/Void")], returnType := none }, accessFlags := 2, code := some k9c3 }
def k9c4 : Code := { maxStack := 1, maxLocals := 1, code := jdk_42_method_152_code, exceptionTable := #[], attributes := #[] }
def k9m4 : Method := { name := "coder", desc := "()B", sig := { parameters := [], returnType := some .byte }, accessFlags := 0, code := some k9c4 }
/-- java/lang/String -/
def k9 : Class := { plain "java/lang/String" (some 0) with
  accessFlags := 49
  interfaces := #[4, 5, 6, 7, 8]
  cf := some (fileOf pool9 10 #[.nestMembers #[1103]] #[{ accessFlags := 1, nameIndex := 5, descriptorIndex := 6, attributes := #[] }, { accessFlags := 1, nameIndex := 5, descriptorIndex := 1010, attributes := #[] }, { accessFlags := 1, nameIndex := 507, descriptorIndex := 334, attributes := #[] }, { accessFlags := 2, nameIndex := 5, descriptorIndex := 29, attributes := #[] }, { accessFlags := 0, nameIndex := 17, descriptorIndex := 337, attributes := #[] }] 49 2 #[1106, 1108, 575, 1110, 1112] #[{ accessFlags := 18, nameIndex := 13, descriptorIndex := 14, attributes := #[] }, { accessFlags := 18, nameIndex := 17, descriptorIndex := 18, attributes := #[] }, { accessFlags := 2, nameIndex := 21, descriptorIndex := 22, attributes := #[] }, { accessFlags := 2, nameIndex := 25, descriptorIndex := 26, attributes := #[] }, { accessFlags := 26, nameIndex := 1116, descriptorIndex := 1117, attributes := #[] }, { accessFlags := 24, nameIndex := 40, descriptorIndex := 26, attributes := #[] }, { accessFlags := 26, nameIndex := 1101, descriptorIndex := 1102, attributes := #[] }, { accessFlags := 26, nameIndex := 1121, descriptorIndex := 1122, attributes := #[] }, { accessFlags := 25, nameIndex := 599, descriptorIndex := 600, attributes := #[] }, { accessFlags := 24, nameIndex := 1125, descriptorIndex := 18, attributes := #[] }, { accessFlags := 24, nameIndex := 1127, descriptorIndex := 18, attributes := #[] }])
  fields := #[{ name := "value", type := (.array .byte), accessFlags := 18, slot := 0, constantValue := 0 }, { name := "coder", type := .byte, accessFlags := 18, slot := 1, constantValue := 0 }, { name := "hash", type := .int, accessFlags := 2, slot := 2, constantValue := 0 }, { name := "hashIsZero", type := .boolean, accessFlags := 2, slot := 3, constantValue := 0 }, { name := "serialVersionUID", type := .long, accessFlags := 26, slot := 0, constantValue := 0 }, { name := "COMPACT_STRINGS", type := .boolean, accessFlags := 24, slot := 1, constantValue := 0 }, { name := "serialPersistentFields", type := (.array (.object "java/io/ObjectStreamField")), accessFlags := 26, slot := 2, constantValue := 0 }, { name := "REPL", type := .char, accessFlags := 26, slot := 3, constantValue := 0 }, { name := "CASE_INSENSITIVE_ORDER", type := (.object "java/util/Comparator"), accessFlags := 25, slot := 4, constantValue := 0 }, { name := "LATIN1", type := .byte, accessFlags := 24, slot := 5, constantValue := 0 }, { name := "UTF16", type := .byte, accessFlags := 24, slot := 6, constantValue := 0 }]
  methods := #[k9m0, k9m1, k9m2, k9m3, k9m4]
  instanceTypes := #[(.array .byte), .byte, .int, .boolean]
  staticTypes := #[.long, .boolean, (.array (.object "java/io/ObjectStreamField")), .char, (.object "java/util/Comparator"), .byte, .byte]
  resolved := Array.replicate 1451 none
  statics := some 0 }

def pool10 : Array CpInfo := pool [(6, .class_ 8), (1, u "java/lang/Object"), (0, u "<init>"), (0, u "()V"), (0, .methodref 12 13), (0, .class_ 14), (0, .nameAndType 15 16), (0, u "java/lang/StringUTF16"), (0, u "newBytesLength"), (0, u "(I)I"), (3, .integer 1073741823), (23, .fieldref 12 45), (0, .nameAndType 46 47), (0, u "$assertionsDisabled"), (0, u "Z"), (11, .fieldref 12 60), (0, .nameAndType 61 62), (0, u "HI_BYTE_SHIFT"), (0, u "I"), (0, .fieldref 12 64), (0, .nameAndType 65 62), (0, u "LO_BYTE_SHIFT"), (5, .methodref 12 72), (0, .nameAndType 73 74), (0, u "getChar"), (0, u "([BI)C"), (32, .methodref 12 108), (0, .nameAndType 109 110), (0, u "newBytesFor"), (0, u "(I)[B"), (0, .methodref 12 112), (0, .nameAndType 113 114), (0, u "putChar"), (0, u "([BII)V"), (0, .methodref 12 116), (0, .nameAndType 117 118), (0, u "compress"), (0, u "([CI[BII)I"), (0, .methodref 12 120), (0, .nameAndType 121 122), (0, u "toBytes"), (0, u "([CII)[B"), (138, u "coderFromArrayLen"), (0, u "([BI)B"), (106, .class_ 371), (1, u "java/lang/StringUTF16$LinesSpliterator"), (58, u "MAX_LENGTH"), (196, .class_ 628), (0, u "java/lang/StringUTF16$CodePointsSpliterator"), (0, .class_ 630), (0, u "java/lang/StringUTF16$CharsSpliterator")] 4

def k10m0 : Method := { name := "<init>", desc := "()V", sig := { parameters := [], returnType := none }, accessFlags := 0, code := none }
def k10c1 : Code := { maxStack := 1, maxLocals := 1, code := jdk_52_method_2_code, exceptionTable := #[], attributes := #[] }
def k10m1 : Method := { name := "newBytesFor", desc := "(I)[B", sig := { parameters := [.int], returnType := some (.array .byte) }, accessFlags := 9, code := some k10c1 }
def k10c2 : Code := { maxStack := 4, maxLocals := 1, code := jdk_52_method_3_code, exceptionTable := #[], attributes := #[] }
def k10m2 : Method := { name := "newBytesLength", desc := "(I)I", sig := { parameters := [.int], returnType := some .int }, accessFlags := 9, code := some k10c2 }
def k10c3 : Code := { maxStack := 4, maxLocals := 3, code := jdk_52_method_4_code, exceptionTable := #[], attributes := #[] }
def k10m3 : Method := { name := "putChar", desc := "([BII)V", sig := { parameters := [(.array .byte), .int, .int], returnType := none }, accessFlags := 8, code := some k10c3 }
def k10c4 : Code := { maxStack := 3, maxLocals := 2, code := jdk_52_method_5_code, exceptionTable := #[], attributes := #[] }
def k10m4 : Method := { name := "getChar", desc := "([BI)C", sig := { parameters := [(.array .byte), .int], returnType := some .char }, accessFlags := 8, code := some k10c4 }
def k10c5 : Code := { maxStack := 4, maxLocals := 5, code := jdk_52_method_14_code, exceptionTable := #[], attributes := #[] }
def k10m5 : Method := { name := "toBytes", desc := "([CII)[B", sig := { parameters := [(.array .char), .int, .int], returnType := some (.array .byte) }, accessFlags := 9, code := some k10c5 }
def k10c6 : Code := { maxStack := 2, maxLocals := 2, code := jdk_52_method_15_code, exceptionTable := #[], attributes := #[] }
def k10m6 : Method := { name := "coderFromArrayLen", desc := "([BI)B", sig := { parameters := [(.array .byte), .int], returnType := some .byte }, accessFlags := 8, code := some k10c6 }
def k10c7 : Code := { maxStack := 5, maxLocals := 6, code := jdk_52_method_16_code, exceptionTable := #[], attributes := #[] }
def k10m7 : Method := { name := "compress", desc := "([CII)[B", sig := { parameters := [(.array .char), .int, .int], returnType := some (.array .byte) }, accessFlags := 9, code := some k10c7 }
def k10c8 : Code := { maxStack := 3, maxLocals := 7, code := jdk_52_method_21_code, exceptionTable := #[], attributes := #[] }
def k10m8 : Method := { name := "compress", desc := "([CI[BII)I", sig := { parameters := [(.array .char), .int, (.array .byte), .int, .int], returnType := some .int }, accessFlags := 9, code := some k10c8 }
/-- java/lang/StringUTF16 -/
def k10 : Class := { plain "java/lang/StringUTF16" (some 0) with
  accessFlags := 48
  interfaces := #[]
  cf := some (fileOf pool10 12 #[.nestMembers #[627, 629, 369]] #[{ accessFlags := 0, nameIndex := 9, descriptorIndex := 10, attributes := #[] }, { accessFlags := 9, nameIndex := 109, descriptorIndex := 110, attributes := #[] }, { accessFlags := 9, nameIndex := 15, descriptorIndex := 16, attributes := #[] }, { accessFlags := 8, nameIndex := 113, descriptorIndex := 114, attributes := #[] }, { accessFlags := 8, nameIndex := 73, descriptorIndex := 74, attributes := #[] }, { accessFlags := 9, nameIndex := 121, descriptorIndex := 122, attributes := #[] }, { accessFlags := 8, nameIndex := 261, descriptorIndex := 262, attributes := #[] }, { accessFlags := 9, nameIndex := 117, descriptorIndex := 122, attributes := #[] }, { accessFlags := 9, nameIndex := 117, descriptorIndex := 118, attributes := #[] }] 48 6 #[] #[{ accessFlags := 26, nameIndex := 61, descriptorIndex := 62, attributes := #[] }, { accessFlags := 26, nameIndex := 65, descriptorIndex := 62, attributes := #[] }, { accessFlags := 24, nameIndex := 430, descriptorIndex := 62, attributes := #[] }, { accessFlags := 4120, nameIndex := 46, descriptorIndex := 47, attributes := #[] }])
  fields := #[{ name := "HI_BYTE_SHIFT", type := .int, accessFlags := 26, slot := 0, constantValue := 0 }, { name := "LO_BYTE_SHIFT", type := .int, accessFlags := 26, slot := 1, constantValue := 0 }, { name := "MAX_LENGTH", type := .int, accessFlags := 24, slot := 2, constantValue := 0 }, { name := "$assertionsDisabled", type := .boolean, accessFlags := 4120, slot := 3, constantValue := 0 }]
  methods := #[k10m0, k10m1, k10m2, k10m3, k10m4, k10m5, k10m6, k10m7, k10m8]
  instanceTypes := #[]
  staticTypes := #[.int, .int, .int, .boolean]
  resolved := Array.replicate 635 none
  statics := some 1 }

def pool11 : Array CpInfo := pool [(4, .class_ 6), (1, u "java/lang/Object"), (0, u "<init>"), (0, u "()V"), (5, .class_ 16), (1, u "java/lang/StringLatin1"), (104, u "$assertionsDisabled"), (0, u "Z"), (98, .class_ 223), (1, u "java/lang/StringLatin1$LinesSpliterator"), (166, .class_ 391), (0, u "java/lang/StringLatin1$CharsSpliterator")] 3

def k11m0 : Method := { name := "<init>", desc := "()V", sig := { parameters := [], returnType := none }, accessFlags := 0, code := none }
/-- java/lang/StringLatin1 -/
def k11 : Class := { plain "java/lang/StringLatin1" (some 0) with
  accessFlags := 48
  interfaces := #[]
  cf := some (fileOf pool11 14 #[.nestMembers #[390, 221]] #[{ accessFlags := 0, nameIndex := 7, descriptorIndex := 8, attributes := #[] }] 48 4 #[] #[{ accessFlags := 4120, nameIndex := 121, descriptorIndex := 122, attributes := #[] }])
  fields := #[{ name := "$assertionsDisabled", type := .boolean, accessFlags := 4120, slot := 0, constantValue := 0 }]
  methods := #[k11m0]
  instanceTypes := #[]
  staticTypes := #[.boolean]
  resolved := Array.replicate 395 none
  statics := none }

def pool12 : Array CpInfo := pool [(2, .class_ 4), (1, u "java/lang/Object"), (0, u "<init>"), (0, u "()V"), (17, .class_ 26), (1, u "jdk/internal/util/Preconditions"), (28, .class_ 56), (0, u "jdk/internal/util/Preconditions$4"), (57, .class_ 115), (0, u "jdk/internal/util/Preconditions$1"), (7, u "SIOOBE_FORMATTER"), (0, u "Ljava/util/function/BiFunction;"), (0, .class_ 126), (0, u "jdk/internal/util/Preconditions$2"), (3, u "AIOOBE_FORMATTER"), (0, .class_ 132), (0, u "jdk/internal/util/Preconditions$3"), (3, u "IOOBE_FORMATTER")] 57

def k12m0 : Method := { name := "<init>", desc := "()V", sig := { parameters := [], returnType := none }, accessFlags := 1, code := none }
/-- jdk/internal/util/Preconditions -/
def k12 : Class := { plain "jdk/internal/util/Preconditions" (some 0) with
  accessFlags := 33
  interfaces := #[]
  cf := some (fileOf pool12 24 #[.nestMembers #[55, 131, 125, 114]] #[{ accessFlags := 1, nameIndex := 5, descriptorIndex := 6, attributes := #[] }] 33 2 #[] #[{ accessFlags := 25, nameIndex := 123, descriptorIndex := 124, attributes := #[] }, { accessFlags := 25, nameIndex := 130, descriptorIndex := 124, attributes := #[] }, { accessFlags := 25, nameIndex := 136, descriptorIndex := 124, attributes := #[] }])
  fields := #[{ name := "SIOOBE_FORMATTER", type := (.object "java/util/function/BiFunction"), accessFlags := 25, slot := 0, constantValue := 0 }, { name := "AIOOBE_FORMATTER", type := (.object "java/util/function/BiFunction"), accessFlags := 25, slot := 1, constantValue := 0 }, { name := "IOOBE_FORMATTER", type := (.object "java/util/function/BiFunction"), accessFlags := 25, slot := 2, constantValue := 0 }]
  methods := #[k12m0]
  instanceTypes := #[]
  staticTypes := #[(.object "java/util/function/BiFunction"), (.object "java/util/function/BiFunction"), (.object "java/util/function/BiFunction")]
  resolved := Array.replicate 194 none
  statics := some 2 }

def pool13 : Array CpInfo := pool [(9, u "<init>"), (6, .class_ 18), (1, u "java/lang/Object"), (0, u "()V"), (1, .class_ 23), (1, u "jdk/internal/util/ArraysSupport"), (0, u "LOG2_ARRAY_LONG_INDEX_SCALE"), (0, u "I"), (2, u "U"), (0, u "Ljdk/internal/misc/Unsafe;"), (8, u "BIG_ENDIAN"), (0, u "Z"), (8, u "LOG2_BYTE_BIT_SIZE"), (4, u "LOG2_ARRAY_INT_INDEX_SCALE"), (54, u "JLA"), (0, u "Ljdk/internal/access/JavaLangAccess;"), (11, u "LOG2_ARRAY_BOOLEAN_INDEX_SCALE"), (9, u "LOG2_ARRAY_BYTE_INDEX_SCALE"), (5, u "LOG2_ARRAY_CHAR_INDEX_SCALE"), (5, u "LOG2_ARRAY_SHORT_INDEX_SCALE"), (18, u "LOG2_ARRAY_FLOAT_INDEX_SCALE"), (24, u "LOG2_ARRAY_DOUBLE_INDEX_SCALE"), (89, u "T_BOOLEAN"), (2, u "T_CHAR"), (1, u "T_FLOAT"), (1, u "T_DOUBLE"), (1, u "T_BYTE"), (1, u "T_SHORT"), (1, u "T_INT"), (1, u "T_LONG"), (1, u "SOFT_MAX_ARRAY_LENGTH")] 83

def k13m0 : Method := { name := "<init>", desc := "()V", sig := { parameters := [], returnType := none }, accessFlags := 2, code := none }
/-- jdk/internal/util/ArraysSupport -/
def k13 : Class := { plain "jdk/internal/util/ArraysSupport" (some 0) with
  accessFlags := 33
  interfaces := #[]
  cf := some (fileOf pool13 21 #[] #[{ accessFlags := 2, nameIndex := 9, descriptorIndex := 19, attributes := #[] }] 33 16 #[] #[{ accessFlags := 24, nameIndex := 28, descriptorIndex := 29, attributes := #[] }, { accessFlags := 26, nameIndex := 38, descriptorIndex := 39, attributes := #[] }, { accessFlags := 25, nameIndex := 121, descriptorIndex := 25, attributes := #[] }, { accessFlags := 25, nameIndex := 131, descriptorIndex := 25, attributes := #[] }, { accessFlags := 25, nameIndex := 137, descriptorIndex := 25, attributes := #[] }, { accessFlags := 25, nameIndex := 143, descriptorIndex := 25, attributes := #[] }, { accessFlags := 25, nameIndex := 53, descriptorIndex := 25, attributes := #[] }, { accessFlags := 25, nameIndex := 24, descriptorIndex := 25, attributes := #[] }, { accessFlags := 25, nameIndex := 162, descriptorIndex := 25, attributes := #[] }, { accessFlags := 25, nameIndex := 187, descriptorIndex := 25, attributes := #[] }, { accessFlags := 26, nameIndex := 48, descriptorIndex := 25, attributes := #[] }, { accessFlags := 25, nameIndex := 277, descriptorIndex := 25, attributes := #[] }, { accessFlags := 25, nameIndex := 280, descriptorIndex := 25, attributes := #[] }, { accessFlags := 25, nameIndex := 282, descriptorIndex := 25, attributes := #[] }, { accessFlags := 25, nameIndex := 284, descriptorIndex := 25, attributes := #[] }, { accessFlags := 25, nameIndex := 286, descriptorIndex := 25, attributes := #[] }, { accessFlags := 25, nameIndex := 288, descriptorIndex := 25, attributes := #[] }, { accessFlags := 25, nameIndex := 290, descriptorIndex := 25, attributes := #[] }, { accessFlags := 25, nameIndex := 292, descriptorIndex := 25, attributes := #[] }, { accessFlags := 26, nameIndex := 108, descriptorIndex := 109, attributes := #[] }, { accessFlags := 25, nameIndex := 294, descriptorIndex := 25, attributes := #[] }])
  fields := #[{ name := "U", type := (.object "jdk/internal/misc/Unsafe"), accessFlags := 24, slot := 0, constantValue := 0 }, { name := "BIG_ENDIAN", type := .boolean, accessFlags := 26, slot := 1, constantValue := 0 }, { name := "LOG2_ARRAY_BOOLEAN_INDEX_SCALE", type := .int, accessFlags := 25, slot := 2, constantValue := 0 }, { name := "LOG2_ARRAY_BYTE_INDEX_SCALE", type := .int, accessFlags := 25, slot := 3, constantValue := 0 }, { name := "LOG2_ARRAY_CHAR_INDEX_SCALE", type := .int, accessFlags := 25, slot := 4, constantValue := 0 }, { name := "LOG2_ARRAY_SHORT_INDEX_SCALE", type := .int, accessFlags := 25, slot := 5, constantValue := 0 }, { name := "LOG2_ARRAY_INT_INDEX_SCALE", type := .int, accessFlags := 25, slot := 6, constantValue := 0 }, { name := "LOG2_ARRAY_LONG_INDEX_SCALE", type := .int, accessFlags := 25, slot := 7, constantValue := 0 }, { name := "LOG2_ARRAY_FLOAT_INDEX_SCALE", type := .int, accessFlags := 25, slot := 8, constantValue := 0 }, { name := "LOG2_ARRAY_DOUBLE_INDEX_SCALE", type := .int, accessFlags := 25, slot := 9, constantValue := 0 }, { name := "LOG2_BYTE_BIT_SIZE", type := .int, accessFlags := 26, slot := 10, constantValue := 0 }, { name := "T_BOOLEAN", type := .int, accessFlags := 25, slot := 11, constantValue := 0 }, { name := "T_CHAR", type := .int, accessFlags := 25, slot := 12, constantValue := 0 }, { name := "T_FLOAT", type := .int, accessFlags := 25, slot := 13, constantValue := 0 }, { name := "T_DOUBLE", type := .int, accessFlags := 25, slot := 14, constantValue := 0 }, { name := "T_BYTE", type := .int, accessFlags := 25, slot := 15, constantValue := 0 }, { name := "T_SHORT", type := .int, accessFlags := 25, slot := 16, constantValue := 0 }, { name := "T_INT", type := .int, accessFlags := 25, slot := 17, constantValue := 0 }, { name := "T_LONG", type := .int, accessFlags := 25, slot := 18, constantValue := 0 }, { name := "JLA", type := (.object "jdk/internal/access/JavaLangAccess"), accessFlags := 26, slot := 19, constantValue := 0 }, { name := "SOFT_MAX_ARRAY_LENGTH", type := .int, accessFlags := 25, slot := 20, constantValue := 0 }]
  methods := #[k13m0]
  instanceTypes := #[]
  staticTypes := #[(.object "jdk/internal/misc/Unsafe"), .boolean, .int, .int, .int, .int, .int, .int, .int, .int, .int, .int, .int, .int, .int, .int, .int, .int, .int, (.object "jdk/internal/access/JavaLangAccess"), .int]
  resolved := Array.replicate 378 none
  statics := none }

def pool14 : Array CpInfo := pool [(1, u "java/lang/Cloneable"), (0, .class_ 1), (0, u "java/lang/Object"), (0, .class_ 3)] 3

/-- java/lang/Cloneable -/
def k14 : Class := { plain "java/lang/Cloneable" (some 0) with
  accessFlags := 1537
  interfaces := #[]
  cf := some (fileOf pool14 2 #[] #[] 1537 4 #[] #[])
  fields := #[]
  methods := #[]
  instanceTypes := #[]
  staticTypes := #[]
  resolved := Array.replicate 8 none
  statics := none }

/-- the primitive byte -/
def k15 : Class := { plain "byte" none with kind := .primitive 'B', accessFlags := 0x411 }
/-- [B -/
def k16 : Class := { plain "[B" (some 0) with kind := .array 15 .byte, interfaces := #[14, 4], accessFlags := 1041 }

/-- the primitive char -/
def k17 : Class := { plain "char" none with kind := .primitive 'C', accessFlags := 0x411 }
/-- [C -/
def k18 : Class := { plain "[C" (some 0) with kind := .array 17 .char, interfaces := #[14, 4], accessFlags := 1041 }

/-- the primitive int -/
def k19 : Class := { plain "int" none with kind := .primitive 'I', accessFlags := 0x411 }
/-- [I -/
def k20 : Class := { plain "[I" (some 0) with kind := .array 19 .int, interfaces := #[14, 4], accessFlags := 1041 }

def heap : Heap := #[{ cls := 9, slots := #[.long 0, .int 1, .null, .int 0, .null, .int 0, .int 0], vm := .statics 9 },
  { cls := 10, slots := #[.int 0, .int 8, .int 0, .int 1], vm := .statics 10 },
  { cls := 12, slots := #[.null, .null, .null], vm := .statics 12 }]
def classes : Array Class := #[k0, k1, k2, k3, k4, k5, k6, k7, k8, k9, k10, k11, k12, k13, k14, k15, k16, k17, k18, k19, k20]
def interned : List (Array UInt16 × Addr) := []
def slotsUsed : Nat := 14
def theMethod : MethodId := ⟨1, 3⟩
def args0 : Array Value := #[.int 5, .int 5, .int 5, .int 5, .int 5, .int 5]
def aboutOver (below : List Frame) : State where
  vm := { classes := classes, interned := interned.toArray }
  heap := heap
  slotsUsed := slotsUsed
  threads := #[{ frames := .invoking theMethod args0 :: below }]
def below0 : List Frame := [.native { method := ⟨0, 0⟩, args := #[] }]
def about1 : State := aboutOver below0
def p0 : Program := .bare "" "" ""
def e0 : Env := launch0.env 0 0 0
theorem w_frames : about1.frames = Frame.invoking theMethod args0 :: below0 := rfl
set_option maxRecDepth 65536 in
theorem w_args : argsFit about1.vm theMethod args0 = true := by decide +kernel
set_option maxRecDepth 65536 in
theorem w_heap : heapFits about1 = true := by decide +kernel
set_option maxRecDepth 65536 in
theorem w_runnable : about1.curStatus? = some .runnable := by decide +kernel
set_option maxRecDepth 65536 in
theorem w_alone : about1.alone = true := by decide +kernel
set_option maxRecDepth 65536 in
theorem w_named : about1.methodNamed? x = some theMethod := by decide +kernel
set_option maxRecDepth 65536 in
theorem w_hears : about1.hears theMethod below0 = true := by decide +kernel
set_option maxRecDepth 65536 in
theorem w_ripe : about1.ripe theMethod args0 below0 = true := by decide +kernel
theorem w_running : about1.status = .running := rfl
set_option maxRecDepth 65536 in
theorem w_room : about1.hasRoom e0.platform room_1 = true :=
  launch0.hasRoom_least _ room_1 (by decide +kernel) (by decide +kernel) (by decide +kernel) (by decide +kernel) (by decide +kernel) (by decide +kernel)
theorem allAtoms_all (ts : List Jvm.Cond) (a : Array Jvm.Value) (st : Jvm.State) : (allAtoms ts).before a st = ts.all (fun c => c.before a st) := by
  induction ts with
  | nil => rfl
  | cons c t ih =>
    show (Jvm.Cond.and c (allAtoms t)).before a st = _
    rw [Jvm.Cond.before_and, ih, List.all_cons]
def words1 : List Jvm.Cond := Jvm.Cond.code x code maxLocals ret :: tables_1
/-- a 'code' word, met by the world's own term for the bytes: nothing is compared byte by byte -/
theorem code_word {y : MethodName} {bytes : ByteArray} {mx : Nat} {rt : Option FieldType} {a : Array Value} {s : State} {m : MethodId} {meth : Method} {c : Code} (h1 : s.methodNamed? y = some m) (h2 : s.vm.method? m = some meth) (h3 : meth.code = some c) (h4 : c.code = bytes)
    (h5 : (c.maxLocals == mx && c.exceptionTable.isEmpty && decide (c.maxStack ≤ mostOperands) && decide (meth.sig.returnType = rt) && !meth.locks && decide (parseMethodDescriptor y.desc = some meth.sig)) = true) : (Jvm.Cond.code y bytes mx rt).before a s = true := by
  simp only [Bool.and_eq_true, beq_iff_eq, Bool.not_eq_true', decide_eq_true_eq] at h5
  obtain ⟨⟨⟨⟨⟨g1, g2⟩, g3⟩, g4⟩, g5⟩, g6⟩ := h5
  simp [Cond.before, Cond.holds, Cond.value, h1, h2, h3, h4, g1, g2, g3, g4, g5, g6]
def isCode : Jvm.Cond → Bool
  | .code _ _ _ _ => true
  | _ => false
theorem all_split {L : List Jvm.Cond} {P : Jvm.Cond → Bool} (h1 : L.all (fun c => isCode c || P c) = true) (h2 : ∀ c ∈ L.filter isCode, P c = true) : L.all P = true := by
  refine List.all_eq_true.mpr fun c hc => ?_
  have h := List.all_eq_true.mp h1 c hc
  rcases Bool.eq_false_or_eq_true (isCode c) with hi | hi
  · exact h2 c (List.mem_filter.mpr ⟨hc, hi⟩)
  · simpa [hi] using h
set_option maxRecDepth 65536 in
theorem w_c0 : (Jvm.Cond.code x code maxLocals ret).before args0 about1 = true := code_word (m := ⟨1, 3⟩) (meth := k1m3) (c := k1c3) (by decide +kernel) rfl rfl rfl (by decide +kernel)
set_option maxRecDepth 65536 in
theorem w_c1 : (Jvm.Cond.code ({ cls := "com/example/zonewright/zonewright/storage/PlanIndex", name := "bytesOf", desc := "(Lcom/example/zonewright/zonewright/plan/Plan;)J" } : Jvm.MethodName) prog_25_method_9_code (1 : Nat) (Option.some Jvm.ClassFile.FieldType.long)).before args0 about1 = true := code_word (m := ⟨2, 0⟩) (meth := k2m0) (c := k2c0) (by decide +kernel) rfl rfl rfl (by decide +kernel)
set_option maxRecDepth 65536 in
theorem w_c2 : (Jvm.Cond.code ({ cls := "com/example/zonewright/zonewright/storage/PlanIndexBytesOfPinLaw", name := "str", desc := "(I)Ljava/lang/String;" } : Jvm.MethodName) method_3_code (4 : Nat) (Option.some (Jvm.ClassFile.FieldType.object "java/lang/String"))).before args0 about1 = true := code_word (m := ⟨1, 2⟩) (meth := k1m2) (c := k1c2) (by decide +kernel) rfl rfl rfl (by decide +kernel)
set_option maxRecDepth 65536 in
theorem w_c3 : (Jvm.Cond.code ({ cls := "java/lang/String", name := "<init>", desc := "([C)V" } : Jvm.MethodName) jdk_42_method_3_code (2 : Nat) (Option.none : Option Jvm.ClassFile.FieldType)).before args0 about1 = true := code_word (m := ⟨9, 1⟩) (meth := k9m1) (c := k9c1) (by decide +kernel) rfl rfl rfl (by decide +kernel)
set_option maxRecDepth 65536 in
theorem w_c4 : (Jvm.Cond.code ({ cls := "java/lang/String", name := "<init>", desc := "([CIILjava/lang/Void;)V" } : Jvm.MethodName) jdk_42_method_149_code (6 : Nat) (Option.none : Option Jvm.ClassFile.FieldType)).before args0 about1 = true := code_word (m := ⟨9, 3⟩) (meth := k9m3) (c := k9c3) (by decide +kernel) rfl rfl rfl (by decide +kernel)
set_option maxRecDepth 65536 in
theorem w_c5 : (Jvm.Cond.code ({ cls := "java/lang/Object", name := "<init>", desc := "()V" } : Jvm.MethodName) object_method_1_code (1 : Nat) (Option.none : Option Jvm.ClassFile.FieldType)).before args0 about1 = true := code_word (m := ⟨0, 0⟩) (meth := k0m0) (c := k0c0) (by decide +kernel) rfl rfl rfl (by decide +kernel)
set_option maxRecDepth 65536 in
theorem w_c6 : (Jvm.Cond.code ({ cls := "java/lang/StringUTF16", name := "compress", desc := "([CII)[B" } : Jvm.MethodName) jdk_52_method_16_code (6 : Nat) (Option.some (Jvm.ClassFile.FieldType.array Jvm.ClassFile.FieldType.byte))).before args0 about1 = true := code_word (m := ⟨10, 7⟩) (meth := k10m7) (c := k10c7) (by decide +kernel) rfl rfl rfl (by decide +kernel)
set_option maxRecDepth 65536 in
theorem w_c7 : (Jvm.Cond.code ({ cls := "java/lang/StringUTF16", name := "compress", desc := "([CI[BII)I" } : Jvm.MethodName) jdk_52_method_21_code (7 : Nat) (Option.some Jvm.ClassFile.FieldType.int)).before args0 about1 = true := code_word (m := ⟨10, 8⟩) (meth := k10m8) (c := k10c8) (by decide +kernel) rfl rfl rfl (by decide +kernel)
set_option maxRecDepth 65536 in
theorem w_c8 : (Jvm.Cond.code ({ cls := "java/lang/StringUTF16", name := "coderFromArrayLen", desc := "([BI)B" } : Jvm.MethodName) jdk_52_method_15_code (2 : Nat) (Option.some Jvm.ClassFile.FieldType.byte)).before args0 about1 = true := code_word (m := ⟨10, 6⟩) (meth := k10m6) (c := k10c6) (by decide +kernel) rfl rfl rfl (by decide +kernel)
set_option maxRecDepth 65536 in
theorem w_c9 : (Jvm.Cond.code ({ cls := "com/example/zonewright/zonewright/plan/Plan", name := "<init>", desc := "(Ljava/lang/String;Ljava/lang/String;Ljava/lang/String;Ljava/lang/String;Ljava/lang/String;)V" } : Jvm.MethodName) prog_20_method_1_code (6 : Nat) (Option.none : Option Jvm.ClassFile.FieldType)).before args0 about1 = true := code_word (m := ⟨3, 0⟩) (meth := k3m0) (c := k3c0) (by decide +kernel) rfl rfl rfl (by decide +kernel)
set_option maxRecDepth 65536 in
theorem w_c10 : (Jvm.Cond.code ({ cls := "com/example/zonewright/zonewright/storage/PlanIndexBytesOfPinLaw", name := "len", desc := "(I)I" } : Jvm.MethodName) method_2_code (1 : Nat) (Option.some Jvm.ClassFile.FieldType.int)).before args0 about1 = true := code_word (m := ⟨1, 1⟩) (meth := k1m1) (c := k1c1) (by decide +kernel) rfl rfl rfl (by decide +kernel)
set_option maxRecDepth 65536 in
theorem w_c11 : (Jvm.Cond.code ({ cls := "com/example/zonewright/zonewright/plan/Plan", name := "getId", desc := "()Ljava/lang/String;" } : Jvm.MethodName) prog_20_method_2_code (1 : Nat) (Option.some (Jvm.ClassFile.FieldType.object "java/lang/String"))).before args0 about1 = true := code_word (m := ⟨3, 1⟩) (meth := k3m1) (c := k3c1) (by decide +kernel) rfl rfl rfl (by decide +kernel)
set_option maxRecDepth 65536 in
theorem w_c12 : (Jvm.Cond.code ({ cls := "com/example/zonewright/zonewright/storage/PlanIndex", name := "fieldBytes", desc := "(Ljava/lang/String;)J" } : Jvm.MethodName) prog_25_method_10_code (1 : Nat) (Option.some Jvm.ClassFile.FieldType.long)).before args0 about1 = true := code_word (m := ⟨2, 1⟩) (meth := k2m1) (c := k2c1) (by decide +kernel) rfl rfl rfl (by decide +kernel)
set_option maxRecDepth 65536 in
theorem w_c13 : (Jvm.Cond.code ({ cls := "java/lang/String", name := "length", desc := "()I" } : Jvm.MethodName) jdk_42_method_54_code (1 : Nat) (Option.some Jvm.ClassFile.FieldType.int)).before args0 about1 = true := code_word (m := ⟨9, 2⟩) (meth := k9m2) (c := k9c2) (by decide +kernel) rfl rfl rfl (by decide +kernel)
set_option maxRecDepth 65536 in
theorem w_c14 : (Jvm.Cond.code ({ cls := "java/lang/String", name := "coder", desc := "()B" } : Jvm.MethodName) jdk_42_method_152_code (1 : Nat) (Option.some Jvm.ClassFile.FieldType.byte)).before args0 about1 = true := code_word (m := ⟨9, 4⟩) (meth := k9m4) (c := k9c4) (by decide +kernel) rfl rfl rfl (by decide +kernel)
set_option maxRecDepth 65536 in
theorem w_c15 : (Jvm.Cond.code ({ cls := "com/example/zonewright/zonewright/plan/Plan", name := "getName", desc := "()Ljava/lang/String;" } : Jvm.MethodName) prog_20_method_3_code (1 : Nat) (Option.some (Jvm.ClassFile.FieldType.object "java/lang/String"))).before args0 about1 = true := code_word (m := ⟨3, 2⟩) (meth := k3m2) (c := k3c2) (by decide +kernel) rfl rfl rfl (by decide +kernel)
set_option maxRecDepth 65536 in
theorem w_c16 : (Jvm.Cond.code ({ cls := "com/example/zonewright/zonewright/plan/Plan", name := "getDescription", desc := "()Ljava/lang/String;" } : Jvm.MethodName) prog_20_method_4_code (1 : Nat) (Option.some (Jvm.ClassFile.FieldType.object "java/lang/String"))).before args0 about1 = true := code_word (m := ⟨3, 3⟩) (meth := k3m3) (c := k3c3) (by decide +kernel) rfl rfl rfl (by decide +kernel)
set_option maxRecDepth 65536 in
theorem w_c17 : (Jvm.Cond.code ({ cls := "com/example/zonewright/zonewright/plan/Plan", name := "getAuthDomain", desc := "()Ljava/lang/String;" } : Jvm.MethodName) prog_20_method_5_code (1 : Nat) (Option.some (Jvm.ClassFile.FieldType.object "java/lang/String"))).before args0 about1 = true := code_word (m := ⟨3, 4⟩) (meth := k3m4) (c := k3c4) (by decide +kernel) rfl rfl rfl (by decide +kernel)
set_option maxRecDepth 65536 in
theorem w_c18 : (Jvm.Cond.code ({ cls := "com/example/zonewright/zonewright/plan/Plan", name := "getInstanceName", desc := "()Ljava/lang/String;" } : Jvm.MethodName) prog_20_method_6_code (1 : Nat) (Option.some (Jvm.ClassFile.FieldType.object "java/lang/String"))).before args0 about1 = true := code_word (m := ⟨3, 5⟩) (meth := k3m5) (c := k3c5) (by decide +kernel) rfl rfl rfl (by decide +kernel)
set_option maxRecDepth 65536 in
theorem w_c19 : (Jvm.Cond.code ({ cls := "java/lang/StringUTF16", name := "toBytes", desc := "([CII)[B" } : Jvm.MethodName) jdk_52_method_14_code (5 : Nat) (Option.some (Jvm.ClassFile.FieldType.array Jvm.ClassFile.FieldType.byte))).before args0 about1 = true := code_word (m := ⟨10, 5⟩) (meth := k10m5) (c := k10c5) (by decide +kernel) rfl rfl rfl (by decide +kernel)
set_option maxRecDepth 65536 in
theorem w_c20 : (Jvm.Cond.code ({ cls := "java/lang/StringUTF16", name := "newBytesFor", desc := "(I)[B" } : Jvm.MethodName) jdk_52_method_2_code (1 : Nat) (Option.some (Jvm.ClassFile.FieldType.array Jvm.ClassFile.FieldType.byte))).before args0 about1 = true := code_word (m := ⟨10, 1⟩) (meth := k10m1) (c := k10c1) (by decide +kernel) rfl rfl rfl (by decide +kernel)
set_option maxRecDepth 65536 in
theorem w_c21 : (Jvm.Cond.code ({ cls := "java/lang/StringUTF16", name := "newBytesLength", desc := "(I)I" } : Jvm.MethodName) jdk_52_method_3_code (1 : Nat) (Option.some Jvm.ClassFile.FieldType.int)).before args0 about1 = true := code_word (m := ⟨10, 2⟩) (meth := k10m2) (c := k10c2) (by decide +kernel) rfl rfl rfl (by decide +kernel)
set_option maxRecDepth 65536 in
theorem w_c22 : (Jvm.Cond.code ({ cls := "java/lang/StringUTF16", name := "putChar", desc := "([BII)V" } : Jvm.MethodName) jdk_52_method_4_code (3 : Nat) (Option.none : Option Jvm.ClassFile.FieldType)).before args0 about1 = true := code_word (m := ⟨10, 3⟩) (meth := k10m3) (c := k10c3) (by decide +kernel) rfl rfl rfl (by decide +kernel)
set_option maxRecDepth 65536 in
theorem w_c23 : (Jvm.Cond.code ({ cls := "java/lang/StringUTF16", name := "getChar", desc := "([BI)C" } : Jvm.MethodName) jdk_52_method_5_code (2 : Nat) (Option.some Jvm.ClassFile.FieldType.char)).before args0 about1 = true := code_word (m := ⟨10, 4⟩) (meth := k10m4) (c := k10c4) (by decide +kernel) rfl rfl rfl (by decide +kernel)
def codes1 : List Jvm.Cond := [Jvm.Cond.code x code maxLocals ret, Jvm.Cond.code ({ cls := "com/example/zonewright/zonewright/storage/PlanIndex", name := "bytesOf", desc := "(Lcom/example/zonewright/zonewright/plan/Plan;)J" } : Jvm.MethodName) prog_25_method_9_code (1 : Nat) (Option.some Jvm.ClassFile.FieldType.long), Jvm.Cond.code ({ cls := "com/example/zonewright/zonewright/storage/PlanIndexBytesOfPinLaw", name := "str", desc := "(I)Ljava/lang/String;" } : Jvm.MethodName) method_3_code (4 : Nat) (Option.some (Jvm.ClassFile.FieldType.object "java/lang/String")), Jvm.Cond.code ({ cls := "java/lang/String", name := "<init>", desc := "([C)V" } : Jvm.MethodName) jdk_42_method_3_code (2 : Nat) (Option.none : Option Jvm.ClassFile.FieldType), Jvm.Cond.code ({ cls := "java/lang/String", name := "<init>", desc := "([CIILjava/lang/Void;)V" } : Jvm.MethodName) jdk_42_method_149_code (6 : Nat) (Option.none : Option Jvm.ClassFile.FieldType), Jvm.Cond.code ({ cls := "java/lang/Object", name := "<init>", desc := "()V" } : Jvm.MethodName) object_method_1_code (1 : Nat) (Option.none : Option Jvm.ClassFile.FieldType), Jvm.Cond.code ({ cls := "java/lang/StringUTF16", name := "compress", desc := "([CII)[B" } : Jvm.MethodName) jdk_52_method_16_code (6 : Nat) (Option.some (Jvm.ClassFile.FieldType.array Jvm.ClassFile.FieldType.byte)), Jvm.Cond.code ({ cls := "java/lang/StringUTF16", name := "compress", desc := "([CI[BII)I" } : Jvm.MethodName) jdk_52_method_21_code (7 : Nat) (Option.some Jvm.ClassFile.FieldType.int), Jvm.Cond.code ({ cls := "java/lang/StringUTF16", name := "coderFromArrayLen", desc := "([BI)B" } : Jvm.MethodName) jdk_52_method_15_code (2 : Nat) (Option.some Jvm.ClassFile.FieldType.byte), Jvm.Cond.code ({ cls := "com/example/zonewright/zonewright/plan/Plan", name := "<init>", desc := "(Ljava/lang/String;Ljava/lang/String;Ljava/lang/String;Ljava/lang/String;Ljava/lang/String;)V" } : Jvm.MethodName) prog_20_method_1_code (6 : Nat) (Option.none : Option Jvm.ClassFile.FieldType), Jvm.Cond.code ({ cls := "com/example/zonewright/zonewright/storage/PlanIndexBytesOfPinLaw", name := "len", desc := "(I)I" } : Jvm.MethodName) method_2_code (1 : Nat) (Option.some Jvm.ClassFile.FieldType.int), Jvm.Cond.code ({ cls := "com/example/zonewright/zonewright/plan/Plan", name := "getId", desc := "()Ljava/lang/String;" } : Jvm.MethodName) prog_20_method_2_code (1 : Nat) (Option.some (Jvm.ClassFile.FieldType.object "java/lang/String")), Jvm.Cond.code ({ cls := "com/example/zonewright/zonewright/storage/PlanIndex", name := "fieldBytes", desc := "(Ljava/lang/String;)J" } : Jvm.MethodName) prog_25_method_10_code (1 : Nat) (Option.some Jvm.ClassFile.FieldType.long), Jvm.Cond.code ({ cls := "java/lang/String", name := "length", desc := "()I" } : Jvm.MethodName) jdk_42_method_54_code (1 : Nat) (Option.some Jvm.ClassFile.FieldType.int), Jvm.Cond.code ({ cls := "java/lang/String", name := "coder", desc := "()B" } : Jvm.MethodName) jdk_42_method_152_code (1 : Nat) (Option.some Jvm.ClassFile.FieldType.byte), Jvm.Cond.code ({ cls := "com/example/zonewright/zonewright/plan/Plan", name := "getName", desc := "()Ljava/lang/String;" } : Jvm.MethodName) prog_20_method_3_code (1 : Nat) (Option.some (Jvm.ClassFile.FieldType.object "java/lang/String")), Jvm.Cond.code ({ cls := "com/example/zonewright/zonewright/plan/Plan", name := "getDescription", desc := "()Ljava/lang/String;" } : Jvm.MethodName) prog_20_method_4_code (1 : Nat) (Option.some (Jvm.ClassFile.FieldType.object "java/lang/String")), Jvm.Cond.code ({ cls := "com/example/zonewright/zonewright/plan/Plan", name := "getAuthDomain", desc := "()Ljava/lang/String;" } : Jvm.MethodName) prog_20_method_5_code (1 : Nat) (Option.some (Jvm.ClassFile.FieldType.object "java/lang/String")), Jvm.Cond.code ({ cls := "com/example/zonewright/zonewright/plan/Plan", name := "getInstanceName", desc := "()Ljava/lang/String;" } : Jvm.MethodName) prog_20_method_6_code (1 : Nat) (Option.some (Jvm.ClassFile.FieldType.object "java/lang/String")), Jvm.Cond.code ({ cls := "java/lang/StringUTF16", name := "toBytes", desc := "([CII)[B" } : Jvm.MethodName) jdk_52_method_14_code (5 : Nat) (Option.some (Jvm.ClassFile.FieldType.array Jvm.ClassFile.FieldType.byte)), Jvm.Cond.code ({ cls := "java/lang/StringUTF16", name := "newBytesFor", desc := "(I)[B" } : Jvm.MethodName) jdk_52_method_2_code (1 : Nat) (Option.some (Jvm.ClassFile.FieldType.array Jvm.ClassFile.FieldType.byte)), Jvm.Cond.code ({ cls := "java/lang/StringUTF16", name := "newBytesLength", desc := "(I)I" } : Jvm.MethodName) jdk_52_method_3_code (1 : Nat) (Option.some Jvm.ClassFile.FieldType.int), Jvm.Cond.code ({ cls := "java/lang/StringUTF16", name := "putChar", desc := "([BII)V" } : Jvm.MethodName) jdk_52_method_4_code (3 : Nat) (Option.none : Option Jvm.ClassFile.FieldType), Jvm.Cond.code ({ cls := "java/lang/StringUTF16", name := "getChar", desc := "([BI)C" } : Jvm.MethodName) jdk_52_method_5_code (2 : Nat) (Option.some Jvm.ClassFile.FieldType.char)]
set_option maxRecDepth 65536 in
theorem codes_eq : words1.filter isCode = codes1 := rfl
theorem w_codes : ∀ c ∈ words1.filter isCode, c.before args0 about1 = true := by
  rw [codes_eq]
  intro c hc
  simp only [codes1, List.mem_cons, List.not_mem_nil, or_false] at hc
  rcases hc with rfl | rfl | rfl | rfl | rfl | rfl | rfl | rfl | rfl | rfl | rfl | rfl | rfl | rfl | rfl | rfl | rfl | rfl | rfl | rfl | rfl | rfl | rfl | rfl
  · exact w_c0
  · exact w_c1
  · exact w_c2
  · exact w_c3
  · exact w_c4
  · exact w_c5
  · exact w_c6
  · exact w_c7
  · exact w_c8
  · exact w_c9
  · exact w_c10
  · exact w_c11
  · exact w_c12
  · exact w_c13
  · exact w_c14
  · exact w_c15
  · exact w_c16
  · exact w_c17
  · exact w_c18
  · exact w_c19
  · exact w_c20
  · exact w_c21
  · exact w_c22
  · exact w_c23
set_option maxRecDepth 65536 in
theorem w_t1 : (words1.take 24).all (fun c => isCode c || c.before args0 about1) = true := by decide +kernel
set_option maxRecDepth 65536 in
theorem w_t2 : ((words1.drop 24).take 24).all (fun c => isCode c || c.before args0 about1) = true := by decide +kernel
set_option maxRecDepth 65536 in
theorem w_t3 : (((words1.drop 24).drop 24).take 24).all (fun c => isCode c || c.before args0 about1) = true := by decide +kernel
set_option maxRecDepth 65536 in
theorem w_t4 : ((((words1.drop 24).drop 24).drop 24).take 24).all (fun c => isCode c || c.before args0 about1) = true := by decide +kernel
set_option maxRecDepth 65536 in
theorem w_t5 : (((((words1.drop 24).drop 24).drop 24).drop 24).take 24).all (fun c => isCode c || c.before args0 about1) = true := by decide +kernel
set_option maxRecDepth 65536 in
theorem w_t6 : (((((words1.drop 24).drop 24).drop 24).drop 24).drop 24).all (fun c => isCode c || c.before args0 about1) = true := by decide +kernel
theorem w_tables : (allAtoms (Jvm.Cond.code x code maxLocals ret :: tables_1)).before args0 about1 = true := by
  rw [allAtoms_all]
  show words1.all (fun c => c.before args0 about1) = true
  refine all_split ?_ w_codes
  rw [← List.take_append_drop 24 words1, List.all_append, w_t1, ← List.take_append_drop 24 (words1.drop 24), List.all_append, w_t2, ← List.take_append_drop 24 ((words1.drop 24).drop 24), List.all_append, w_t3, ← List.take_append_drop 24 (((words1.drop 24).drop 24).drop 24), List.all_append, w_t4, ← List.take_append_drop 24 ((((words1.drop 24).drop 24).drop 24).drop 24), List.all_append, w_t5, w_t6]
  rfl
set_option maxRecDepth 65536 in
theorem w_rest : rest_1_c.before args0 about1 = true := by decide +kernel
set_option maxRecDepth 65536 in
theorem w_case : (Jvm.Cond.and given_1 narrow_1).before args0 about1 = true := by decide +kernel
set_option maxRecDepth 65536 in
theorem w_consts : constsHeld consts_1 about1 := Jvm.Lit.constsHeldB_iff.mp (by decide +kernel)
theorem w_applies : (headSpec (Jvm.Cond.code x code maxLocals ret :: tables_1) room_1).applies x e0.platform about1 = true :=
  (Spec.applies_iff w_frames).mpr ⟨w_running, w_runnable, w_alone, w_named, w_hears, w_ripe, w_room, w_tables⟩
theorem atStart : AtStart classFile x code maxLocals ret World_1 tables_1 room_1 Calls_1 rest_1 Pre_1 launch0 p0 e0 about1 theMethod args0 below0 :=
  ⟨lists_1, trivial, launch0.admits_env _ _ _, launch0.least_env, fairChoices_fair.cas, fairChoices_fair.clock, w_frames, w_args, w_heap, w_applies, ⟨w_consts, trivial⟩, w_rest, w_case⟩
end start1
theorem witness_1 : WitnessClaimed_1 := ⟨start1.p0, start1.e0, start1.about1, start1.theMethod, start1.args0, start1.below0, start1.atStart⟩
end Jvm.Pilot.@@N@@
