import JvmDerived
import JvmDerived.Pilot.@@N@@Statement
import JvmDerived.Pilot.@@N@@Code
set_option linter.unusedVariables false
set_option linter.unusedSimpArgs false
namespace Jvm.Pilot.@@N@@
open Jvm Jvm.ClassFile Sem Op Lib Jvm.Free Jvm.Stand Jvm.LawKit Jvm.RoadKit Bundle Jvm.Pilot.@@N@@.Jvm.D
section Own
variable {p : Program} {l : Launch} {e : Env} {R : Room} {s : State} {m : MethodId} {args : Array Value} {below : List Frame} {meth : Method} {c : Code} {T : State} {locs : List Loc} {cells slots : Nat} {Z : State} {a0 : Array Value} {h : Heap} {Φ : Outcome → State → Prop}
/-- what is left of a walk: from S the invocation ends as Φ says -/
def OGo (tb : Tables) (e : Env) (below : List Frame) (Φ : Outcome → State → Prop) (S : State) : Prop := ∃ s₂ o, Steps tb e below S s₂ ∧ s₂.status = .running ∧ Ended s₂ below o ∧ Φ o s₂
abbrev OG (p : Program) (e : Env) (below : List Frame) (Φ : Outcome → State → Prop) (T : State) (m : MethodId) (pc : Nat) (ls : Array Slot) (st : List Value) : Prop := OGo p.tables e below Φ (T.setTop (mkF m pc ls st))
theorem OGo.st {tb : Tables} {S S' : State} (h : ∀ t, Steps tb e below S' t → Steps tb e below S t) (g : OGo tb e below Φ S') : OGo tb e below Φ S := by
  obtain ⟨s₂, o, h1, r⟩ := g
  exact ⟨s₂, o, h _ h1, r⟩
theorem oia {Z s : State} {cl : Cell} {ty : FieldType} (hZ : Z.Warmed39 s.vm) (q : Z.isArrayOf cl ty) : s.isArrayOf cl ty := State.isArrayOf_alike hZ.alike q
theorem os {tb : Tables} {e : Env} {below : List Frame} {Φ : Outcome → State → Prop} {S S' : State} (h : ∀ t, Steps tb e below S' t → Steps tb e below S t) (g : OGo tb e below Φ S') : OGo tb e below Φ S := OGo.st h g
theorem OGo.fin (X : Stand p l e R s m args below meth c T locs cells slots) (hlk : meth.locks = false) {v : Option Value} (hv : meth.sig.returnType = none → v = none) {g : JFrame} {k n : Nat} (hk : cells ≤ k) (hn : slots ≤ n)
    (st : ∀ fs, (∀ (f : JFrame) (acts : List Action), f.method = m → f.locked = none → f.entered = [] → (doReturn e (T.setTop f) acts v).1 = T.setFrames fs) → Steps p.tables e below (T.setTop g) (T.setFrames fs))
    (hq : ∀ U, U.heap = T.heap → FrameEnd s (.returned v) U locs k n → Φ (.returned v) U) : OGo p.tables e below Φ (T.setTop g) := by
  obtain ⟨fs, hr, hrun, hended, hW, hsame⟩ := X.leave (v := v) hv hlk
  exact ⟨_, _, st fs hr, hrun, hended, hq _ rfl ⟨⟨_, rfl⟩, hW, hsame.mono hk hn⟩⟩
/-- a contract: what every body's theorem says -/
abbrev OCon (l : Launch) (Z : State) (y : MethodName) (bytes : ByteArray) (maxL : Nat) (ret : Option FieldType) (ws : List Jvm.Cond) (rm : Room) (as' : Array Value) (h0 : Heap) (Q : Option Value → Heap → List Loc → Prop) : Prop :=
  MetFree l y (head1 (Jvm.Cond.code y bytes maxL ret :: ws) rm) (fun a U => a = as' ∧ Z.Warmed39 U.vm ∧ U.heap = h0) (fun _ _ _ _ _ => True) (fun _ U o U' => ∃ v L, o = .returned v ∧ Q v U'.heap L ∧ FrameEnd U o U' L rm.cells rm.slots)
theorem OCon.of {y : MethodName} {bytes : ByteArray} {maxL : Nat} {ret : Option FieldType} {ws : List Jvm.Cond} {rm : Room} {as' : Array Value} {h0 : Heap} {Q : Option Value → Heap → List Loc → Prop} (hpl : plainFor y = true)
    (H : ∀ (p : Program) (e : Env) (s : State) (m : MethodId) (below : List Frame) (meth : Method) (c : Code) (s₁ : State) (Φ : Outcome → State → Prop), Stand p l e rm s m as' below meth c s₁ [] 0 0 → p.tables.exec = Jvm.exec → c.code = bytes → c.maxLocals = maxL → s.vm.findClass y.cls = some m.cls → meth.name = y.name → meth.sig.returnType = ret → meth.locks = false → Z.Warmed39 s.vm → s₁.heap = h0 →
      (∀ v L U, Q v U.heap L → FrameEnd s (.returned v) U L rm.cells rm.slots → Φ (.returned v) U) → OGo p.tables e below Φ (s₁.setTop (entryFrame m as' maxL))) :
    OCon l Z y bytes maxL ret ws rm as' h0 Q := by
  refine MetFree.of_bodySF hpl hisR ?_
  intro p e s m args below meth c s₁ Bd hml0 hP hK
  obtain ⟨rfl, hZ, hh⟩ := hP
  have e0 : s₁.heap = h0 := by rw [← hh, Bd.state]; rfl
  exact H p e s m below meth c s₁ _ (Stand.of_body Bd) Bd.exec Bd.bytes hml0 (findClass_of_methodNamed Bd.named) (name_of_methodNamed Bd.named Bd.method).1 Bd.returns Bd.notSynchronized hZ e0 (fun v L U hq hf => ⟨v, L, rfl, hq, hf⟩)
theorem own_callSt (X : Stand p l e R s m args below meth c T locs cells slots) (hx : p.tables.exec = Jvm.exec) (hZ : Z.Warmed39 s.vm) {own : String} {index : Nat} {y : MethodName} {bytes : ByteArray} {maxL : Nat} {ret : Option FieldType} {rm : Room} {as' : Array Value} {Q : Option Value → Heap → List Loc → Prop}
    (hown : s.vm.findClass own = some m.cls) (w1 : (Jvm.Cond.methodLink own index y).before a0 Z = true) (w2 : (Jvm.Cond.static y).before a0 Z = true) (w3 : (Jvm.Cond.initialized y.cls).before a0 Z = true) (w4 : (Jvm.Cond.code y bytes maxL ret).before a0 Z = true) (hy : y.cls ≠ "java/lang/invoke/MethodHandle" ∧ y.cls ≠ "java/lang/invoke/VarHandle")
    (hM : OCon l Z y bytes maxL ret [] rm as' h Q) (eT : T.heap = h) {W : Nat} (hf : rm.frames + 1 ≤ R.frames) (hl : W + (maxL + 11) + rm.locals ≤ R.locals) (hcl : cells + rm.cells ≤ R.cells) (hsl : slots + rm.slots ≤ R.slots)
    {pc : Nat} {ls : Array Slot} {stk : List Value} (hsize : ls.size = c.maxLocals) {argsL rest : List Value} (hlen : ∀ sig, parseMethodDescriptor y.desc = some sig → argsL.length = sig.parameters.length) (has : argsL.toArray = as') (hstack : stk = argsL.reverse ++ rest) (hW : (rest.map fun v => v.category).sum ≤ W)
    (hd : decode c.code pc = .ok (.invokestatic index, 3)) :
    ∃ v T' L, Stand p l e R s m args below meth c T' (locs ++ L) (cells + rm.cells) (slots + rm.slots) ∧ Q v T'.heap L ∧ ∀ target, Steps p.tables e below (T'.setTop (mkF m (pc + 3) ls (v.toList ++ rest))) target → Steps p.tables e below (T.setTop (mkF m pc ls stk)) target := by
  subst has
  obtain ⟨v, vm₁, ⟨T', L', k', n'⟩, -, X', ⟨L, hQ, l1, y1, z1⟩, st⟩ := Jvm.LawKit.callS X hx (y := y) hown (mvT hZ w1) (mvT hZ w2) (mvT hZ w3) (mvT hZ w4) hy (backOf (W := W) hM hZ w4 w3 hf hl) (g := mkF m pc ls stk) rfl hsize (argsL := argsL) (rest := rest) hlen hstack (by simpa using hW) hd (fun _ _ => ⟨rfl, eT, hcl, hsl⟩)
  dsimp only [Pt.U, Pt.locs, Pt.cells, Pt.slots] at X' l1 y1 z1 st hQ
  subst l1 y1 z1
  exact ⟨v, T', L, X', hQ, st⟩
theorem own_callSp (X : Stand p l e R s m args below meth c T locs cells slots) (hx : p.tables.exec = Jvm.exec) (hZ : Z.Warmed39 s.vm) {own : String} {index : Nat} {y : MethodName} {bytes : ByteArray} {maxL : Nat} {rm : Room} {as' : Array Value} {Q : Option Value → Heap → List Loc → Prop}
    (hy1 : y.name = "<init>") (hown : s.vm.findClass own = some m.cls) (w1 : (Jvm.Cond.methodLink own index y).before a0 Z = true) (w2 : (Jvm.Cond.instanceMethod y).before a0 Z = true) (w3 : (Jvm.Cond.initialized y.cls).before a0 Z = true) (w4 : (Jvm.Cond.code y bytes maxL none).before a0 Z = true) (hy : y.cls ≠ "java/lang/invoke/MethodHandle" ∧ y.cls ≠ "java/lang/invoke/VarHandle")
    (hM : OCon l Z y bytes maxL none [] rm as' h Q) (eT : T.heap = h) {W : Nat} (hf : rm.frames + 1 ≤ R.frames) (hl : W + (maxL + 11) + rm.locals ≤ R.locals) (hcl : cells + rm.cells ≤ R.cells) (hsl : slots + rm.slots ≤ R.slots)
    {pc : Nat} {ls : Array Slot} {stk : List Value} (hsize : ls.size = c.maxLocals) {a : Addr} {argsL rest : List Value} (hlen : ∀ sig, parseMethodDescriptor y.desc = some sig → argsL.length = sig.parameters.length) (has : (.ref a :: argsL).toArray = as') (hstack : stk = argsL.reverse ++ .ref a :: rest) (hW : (rest.map fun v => v.category).sum ≤ W)
    (hd : decode c.code pc = .ok (.invokespecial index, 3)) :
    ∃ v T' L, Stand p l e R s m args below meth c T' (locs ++ L) (cells + rm.cells) (slots + rm.slots) ∧ Q v T'.heap L ∧ ∀ target, Steps p.tables e below (T'.setTop (mkF m (pc + 3) ls (v.toList ++ rest))) target → Steps p.tables e below (T.setTop (mkF m pc ls stk)) target := by
  subst has
  obtain ⟨v, vm₁, ⟨T', L', k', n'⟩, -, X', ⟨L, hQ, l1, y1, z1⟩, st⟩ := X.specialBack hx (y := y) hy1 hown (mvT hZ w1) (mvT hZ w2) (mvT hZ w4) hy (backOf (W := W) hM hZ w4 w3 hf hl) (g := mkF m pc ls stk) rfl hsize (Steps.refl _) (a := a) (argsL := argsL) (rest := rest) hlen hstack (by simpa using hW) hd (fun _ _ => ⟨rfl, eT, hcl, hsl⟩)
  dsimp only [Pt.U, Pt.locs, Pt.cells, Pt.slots] at X' l1 y1 z1 st hQ
  subst l1 y1 z1
  exact ⟨v, T', L, X', hQ, fun t k => st.trans k⟩
theorem own_callVi (X : Stand p l e R s m args below meth c T locs cells slots) (hx : p.tables.exec = Jvm.exec) (hZ : Z.Warmed39 s.vm) {own C : String} {index : Nat} {y z : MethodName} {bytes : ByteArray} {maxL : Nat} {ret : Option FieldType} {rm : Room} {as' : Array Value} {Q : Option Value → Heap → List Loc → Prop}
    (hown : s.vm.findClass own = some m.cls) (w1 : (Jvm.Cond.methodLink own index y).before a0 Z = true) (w2 : (Jvm.Cond.declares y).before a0 Z = true) (nf : NotFace s y) (w3 : (Jvm.Cond.selects C y z).before a0 Z = true) (w4 : (Jvm.Cond.instanceMethod z).before a0 Z = true) (w5 : (Jvm.Cond.initialized z.cls).before a0 Z = true) (w6 : (Jvm.Cond.code z bytes maxL ret).before a0 Z = true) (hy : y.cls ≠ "java/lang/invoke/MethodHandle" ∧ y.cls ≠ "java/lang/invoke/VarHandle")
    (hM : OCon l Z z bytes maxL ret [] rm as' h Q) (eT : T.heap = h) {W : Nat} (hf : rm.frames + 1 ≤ R.frames) (hl : W + (maxL + 11) + rm.locals ≤ R.locals) (hcl : cells + rm.cells ≤ R.cells) (hsl : slots + rm.slots ≤ R.slots) {a : Addr} (E : Exa Z h a C)
    {pc : Nat} {ls : Array Slot} {stk : List Value} (hsize : ls.size = c.maxLocals) {argsL rest : List Value} (hlen : ∀ sig, parseMethodDescriptor y.desc = some sig → argsL.length = sig.parameters.length) (has : (.ref a :: argsL).toArray = as') (hstack : stk = argsL.reverse ++ .ref a :: rest) (hW : (rest.map fun v => v.category).sum ≤ W)
    (hd : decode c.code pc = .ok (.invokevirtual index, 3)) :
    ∃ v T' L, Stand p l e R s m args below meth c T' (locs ++ L) (cells + rm.cells) (slots + rm.slots) ∧ Q v T'.heap L ∧ ∀ target, Steps p.tables e below (T'.setTop (mkF m (pc + 3) ls (v.toList ++ rest))) target → Steps p.tables e below (T.setTop (mkF m pc ls stk)) target := by
  subst has
  obtain ⟨cq, kq, qa, qb, qc⟩ := isOf hZ eT E
  obtain ⟨v, vm₁, ⟨T', L', k', n'⟩, -, X', ⟨L, hQ, l1, y1, z1⟩, st⟩ := X.virtualBack hx (y := y) (z := z) hown (mvT hZ w1) (mvT hZ w2) nf (mvT hZ w3) (mvT hZ w4) hy (backOf (W := W) hM hZ w6 w5 hf hl) qa qc (g := mkF m pc ls stk) rfl hsize (Steps.refl _) (argsL := argsL) (rest := rest) hlen hstack (by simpa using hW) hd (fun _ _ => ⟨rfl, eT, hcl, hsl⟩)
  dsimp only [Pt.U, Pt.locs, Pt.cells, Pt.slots] at X' l1 y1 z1 st hQ
  subst l1 y1 z1
  exact ⟨v, T', L, X', hQ, fun t k => st.trans k⟩
theorem own_lremM {g : JFrame} {target : State} (X : Stand p l e R s m args below meth c T locs cells slots) (hx : p.tables.exec = Jvm.exec) (hg : g.method = m) {x y : Int64} {rest : List Value} (hd : decode c.code g.pc = .ok (.lrem, 1)) (hs : g.stack = .long y :: .long x :: rest) (hy : y ≠ 0)
    (hr : Steps p.tables e below (T.setTop { g with pc := g.pc + 1, stack := .long (x % y) :: rest }) target) : Steps p.tables e below (T.setTop g) target :=
  XT.lrem X.here hx hg hd hs hy (by rw [lrem_mod]; exact hr)
theorem own_nz {x : Int32} (q : x = 0 ∨ x = 1) : narrow .boolean (.int x) = .int x := by rcases q with rfl | rfl <;> rfl
theorem own_fz {x : Int32} (q : x = 0 ∨ x = 1) : fits .boolean (.int x) = true := by rcases q with rfl | rfl <;> rfl
theorem own_irr (x : Int32) : ¬ x < x := fun q => absurd (Int32.lt_iff_toInt_lt.mp q) (Int.lt_irrefl _)
theorem own_irrL (x : Int64) : ¬ x < x := fun q => absurd (Int64.lt_iff_toInt_lt.mp q) (Int.lt_irrefl _)
/-- a small int is one of the first n -/
theorem own_small {n : Nat} (hn : n < 2 ^ 31) (x : Int32) (h0 : ¬ x < 0) (h1 : x.toInt < n) : ∃ k : Fin n, x = Int32.ofInt k.val := by
  have h2 : 0 ≤ x.toInt := by
    rcases Int.lt_or_le x.toInt 0 with q | q
    · exact absurd (Int32.lt_iff_toInt_lt.mpr q) h0
    · exact q
  refine ⟨⟨x.toInt.toNat, by omega⟩, ?_⟩
  rw [Int.toNat_of_nonneg h2, Int32.ofInt_toInt]
end Own
section OwnSta
variable {args : Array Value} {Z : State} {a : Addr} {t : Jvm.Term}
theorem own_eqV {u : Jvm.Term} {v : Value} (hu : u.eval args Z none [] Z = some v) (hv : (match v with | .retAddr _ => false | _ => true) = true) (q : (Jvm.Cond.eq t u).value args Z none Z [] = some true) : t.eval args Z none [] Z = some v := by
  obtain ⟨x, y, ex, ey, k1, k2⟩ := cmp_v (Or.inl q)
  cases hu.symm.trans ey
  rw [ex]
  cases x <;> cases v <;> simp_all [Jvm.Cond.value, Kin, Value.isRef]
theorem own_fldI {C n d : String} {k : Int32} (ev : t.eval args Z none [] Z = some (.ref a)) (q : (Jvm.Cond.eq (Jvm.Term.field t C n d) (Jvm.Term.int k)).value args Z none Z [] = some true) : Fld Z Z.heap a C n d (.int k) :=
  Fld.start ((fld_at ev).symm.trans (own_eqV (Term.int_eval k) rfl q))
theorem own_lenI {k : Int32} {cl : Cell} {ty : FieldType} (ev : t.eval args Z none [] Z = some (.ref a)) (A : Arr Z Z.heap a cl ty) (q : (Jvm.Cond.eq (Jvm.Term.length t) (Jvm.Term.int k)).value args Z none Z [] = some true) : cl.slots.size < 2 ^ 31 ∧ cl.slots.size.toInt32 = k := by
  have h := own_eqV (Term.int_eval k) rfl q
  obtain ⟨b, cell, ht, harr, hl⟩ := Term.length_spec h
  cases ev.symm.trans ht
  have ha : Z.arrayAt? a = some cl := Arr.fin (Vm.Alike.refl _) A
  cases ha.symm.trans harr
  by_cases hs : cl.slots.size < 2 ^ 31
  · exact ⟨hs, (Value.int.inj (Option.some.inj ((len_f ev ha hs).symm.trans h)))⟩
  · exfalso
    rw [Jvm.Term.eval, ev] at h
    simp [ha] at h
    omega
theorem own_elem {j : Int32} {n : Nat} {u : Jvm.Term} {v : Value} {cl : Cell} {ty : FieldType} (ev : t.eval args Z none [] Z = some (.ref a)) (A : Arr Z Z.heap a cl ty) (hu : u.eval args Z none [] Z = some v) (hv : (match v with | .retAddr _ => false | _ => true) = true) (hj : j.toNatClampNeg = n) (q : (Jvm.Cond.eq (Jvm.Term.elem t (Jvm.Term.int j)) u).value args Z none Z [] = some true) : cl.slots[n]? = some v :=
  hj ▸ (elem_in (own_eqV hu hv q) ev (Term.int_eval j) A.1).2
end OwnSta
section OwnW
open Jvm.Free.SB Jvm.Free.SBG
variable {p : Program} {l : Launch} {e : Env} {R : Room} {s : State} {m : MethodId} {args : Array Value} {below : List Frame} {meth : Method} {c : Code} {T : State} {locs : List Loc} {cells slots : Nat} {Z : State} {a0 : Array Value} {h : Heap} {Φ : Outcome → State → Prop} {EL : List (String × Nat)} {vm0 : Vm}
/-- a wide contract: the body may load String constants; sf: addresses that are none of the held constants' cells -/
abbrev OConW (l : Launch) (Z : State) (EL : List (String × Nat)) (y : MethodName) (bytes : ByteArray) (maxL : Nat) (ret : Option FieldType) (ws : List Jvm.Cond) (rm : Room) (as' : Array Value) (h0 : Heap) (sf : List Addr) (Q : Option Value → Heap → List Loc → Prop) : Prop :=
  MetFree l y (head1 (Jvm.Cond.code y bytes maxL ret :: ws) rm) (fun a U => a = as' ∧ Z.Warmed39 U.vm ∧ U.heap = h0 ∧ CHv Z EL U.vm h0 ∧ ∀ x ∈ sf, Safe Z EL U.vm h0 x) (fun _ _ _ _ _ => True) (fun _ U o U' => ∃ v L, o = .returned v ∧ Q v U'.heap L ∧ CHr Z EL U.vm U.heap U'.vm U'.heap ∧ ReturnedEndW U o U' L rm.cells rm.slots)
theorem OConW.of {y : MethodName} {bytes : ByteArray} {maxL : Nat} {ret : Option FieldType} {ws : List Jvm.Cond} {rm : Room} {as' : Array Value} {h0 : Heap} {sf : List Addr} {Q : Option Value → Heap → List Loc → Prop} (hpl : plainFor y = true)
    (H : ∀ (p : Program) (e : Env) (s : State) (m : MethodId) (below : List Frame) (meth : Method) (c : Code) (s₁ : State) (Φ : Outcome → State → Prop), Stand p l e rm (s.setVm s.vm) m as' below meth c s₁ [] 0 0 → p.tables.exec = Jvm.exec → c.code = bytes → c.maxLocals = maxL → (s.setVm s.vm).vm.findClass y.cls = some m.cls → meth.name = y.name → meth.sig.returnType = ret → meth.locks = false → Z.Warmed39 (s.setVm s.vm).vm → s₁.heap = h0 →
      s.Since s.vm 0 → 0 ≤ h0.size → CHr Z EL s.vm h0 s.vm h0 → (∀ x ∈ sf, Safe Z EL s.vm h0 x) →
      (∀ v L U, Q v U.heap L → CHr Z EL s.vm h0 U.vm U.heap → ReturnedEndW s (.returned v) U L rm.cells rm.slots → Φ (.returned v) U) → OGo p.tables e below Φ (s₁.setTop (entryFrame m as' maxL))) :
    OConW l Z EL y bytes maxL ret ws rm as' h0 sf Q := by
  refine MetFree.of_bodySF hpl hisR ?_
  intro p e s m args below meth c s₁ Bd hml0 hP hK
  obtain ⟨rfl, hZ, hh, hC, hsf⟩ := hP
  have e0 : s₁.heap = h0 := by rw [← hh, Bd.state]; rfl
  have X0 := Stand.of_body Bd
  have ev : s₁.vm = s.vm := by rw [Bd.state]; rfl
  have hWm : s.WarmedH s.vm := ev ▸ X0.warmed
  exact H p e s m below meth c s₁ _ X0 Bd.exec Bd.bytes hml0 (findClass_of_methodNamed Bd.named) (name_of_methodNamed Bd.named Bd.method).1 Bd.returns Bd.notSynchronized hZ e0 (hWm.since 0) (Nat.zero_le _) (CHr.refl hC) hsf (fun v L U hq hc hf => ⟨v, L, rfl, hq, hh ▸ hc, hf⟩)
theorem OGo.finW (X : Stand p l e R (s.setVm vm0) m args below meth c T locs cells slots) (hlk : meth.locks = false) {k0 : Nat} (hS : s.Since vm0 k0) (eT : T.heap = h) (hkk : k0 ≤ h.size) {v : Option Value} (hv : meth.sig.returnType = none → v = none) {g : JFrame} {k n : Nat} (hk : cells ≤ k) (hn : slots ≤ n) (hZ : Z.Warmed39 (s.setVm vm0).vm) (hEL : EW Z a0 EL) {vmS : Vm} {hs0 : Heap} (hC : CHr Z EL vmS hs0 vm0 h)
    (st : ∀ fs, (∀ (f : JFrame) (acts : List Action), f.method = m → f.locked = none → f.entered = [] → (doReturn e (T.setTop f) acts v).1 = T.setFrames fs) → Steps p.tables e below (T.setTop g) (T.setFrames fs))
    (hq : ∀ U, U.heap = h → CHr Z EL vmS hs0 U.vm U.heap → ReturnedEndW s (.returned v) U locs k n → Φ (.returned v) U) : OGo p.tables e below Φ (T.setTop g) := by
  obtain ⟨fs, hr, hrun, hended, hW⟩ := X.leaveW hS (eT ▸ hkk) (v := v) hv hlk
  have hc2 : CHr Z EL vmS hs0 T.vm h := hC.trans (CHv.at X hZ hEL hC.1)
  exact ⟨_, _, st fs hr, hrun, hended, hq _ eT (by show CHr Z EL vmS hs0 T.vm T.heap; rw [eT]; exact hc2) ⟨hW.1, hW.2.1, hW.2.2.1, hW.2.2.2.mono hk hn⟩⟩
theorem own_backW {y : MethodName} {bytes : ByteArray} {maxL : Nat} {ret : Option FieldType} {rm : Room} {len W : Nat} {as' : Array Value} {sf : List Addr} {Q : Option Value → Heap → List Loc → Prop} (hM : OConW l Z EL y bytes maxL ret [] rm as' h sf Q)
    (hZ : Z.Warmed39 vm0) (wc : (Jvm.Cond.code y bytes maxL ret).before a0 Z = true) (wz : (Jvm.Cond.initialized y.cls).before a0 Z = true) (hf : rm.frames + 1 ≤ R.frames) (hl : W + (maxL + 11) + rm.locals ≤ R.locals) (hEL : EW Z a0 EL) (H : CHv Z EL vm0 h) (hsf : ∀ x ∈ sf, x < h.size ∧ Safe Z EL vm0 h x) :
    BackS l R p e below (s.setVm vm0) args y len W (fun A a => a = as' ∧ A.U.heap = h ∧ A.cells + rm.cells ≤ R.cells ∧ A.slots + rm.slots ≤ R.slots)
      (fun A _ v B => ∃ L, Q v B.U.heap L ∧ B.locs = A.locs ++ L ∧ B.cells = A.cells + rm.cells ∧ B.slots = A.slots + rm.slots ∧ CHr Z EL vm0 h B.U.vm B.U.heap) := by
  refine BackS.of_freeW (bytes := bytes) (maxL := maxL) (ret := ret) (E := fun _ first o t L k n => k = rm.cells ∧ n = rm.slots ∧ (∃ v, o = .returned v ∧ Q v t.heap L) ∧ CHr Z EL first.vm first.heap t.vm t.heap) hM hf hl ?_ ?_ ?_ ?_ ?_
  · intro m meth c A a Y hp
    have hU : Z.Warmed39 A.U.vm := wtrans (s := s.setVm vm0) hZ Y.warmed
    exact ⟨by show (Jvm.Cond.and _ .tt).before a A.U = true; rw [Cond.before_and, mv hU wc]; rfl, mv hU wc, mv hU wz, hp.2.2.1, hp.2.2.2⟩
  · intro m meth c A a g mk Y hp
    exact ⟨hp.1, wtrans (s := s.setVm vm0) hZ Y.warmed, hp.2.1, (CHv.at Y hZ hEL H).1, fun x hx => (CHv.at Y hZ hEL H).safe (hsf x hx).1 (hsf x hx).2⟩
  · intros; trivial
  · rintro _ _ _ _ ⟨v, L, q1, q2, q3, q4⟩
    exact ⟨L, _, _, q4, rfl, rfl, ⟨v, q1, q2⟩, q3⟩
  · rintro m meth c A a g mk v t L k n Y hp _ _ ⟨rfl, rfl, ⟨v', q3, q4⟩, q5⟩
    cases q3
    refine ⟨L, q4, rfl, rfl, rfl, (CHv.at Y hZ hEL H).trans ?_⟩
    rw [← hp.2.1]; exact q5
theorem own_callStW (X : Stand p l e R (s.setVm vm0) m args below meth c T locs cells slots) (hx : p.tables.exec = Jvm.exec) (hZ : Z.Warmed39 (s.setVm vm0).vm) {own : String} {index : Nat} {y : MethodName} {bytes : ByteArray} {maxL : Nat} {ret : Option FieldType} {rm : Room} {as' : Array Value} {sf : List Addr} {Q : Option Value → Heap → List Loc → Prop}
    (hown : (s.setVm vm0).vm.findClass own = some m.cls) (w1 : (Jvm.Cond.methodLink own index y).before a0 Z = true) (w2 : (Jvm.Cond.static y).before a0 Z = true) (w3 : (Jvm.Cond.initialized y.cls).before a0 Z = true) (w4 : (Jvm.Cond.code y bytes maxL ret).before a0 Z = true) (hy : y.cls ≠ "java/lang/invoke/MethodHandle" ∧ y.cls ≠ "java/lang/invoke/VarHandle")
    (hM : OConW l Z EL y bytes maxL ret [] rm as' h sf Q) (eT : T.heap = h) {W : Nat} (hf : rm.frames + 1 ≤ R.frames) (hl : W + (maxL + 11) + rm.locals ≤ R.locals) (hcl : cells + rm.cells ≤ R.cells) (hsl : slots + rm.slots ≤ R.slots)
    {pc : Nat} {ls : Array Slot} {stk : List Value} (hsize : ls.size = c.maxLocals) {argsL rest : List Value} (hlen : ∀ sig, parseMethodDescriptor y.desc = some sig → argsL.length = sig.parameters.length) (has : argsL.toArray = as') (hstack : stk = argsL.reverse ++ rest) (hW : (rest.map fun v => v.category).sum ≤ W)
    (hd : decode c.code pc = .ok (.invokestatic index, 3)) {k0 : Nat} (hS : s.Since vm0 k0) (hkk : k0 ≤ h.size) (hEL : EW Z a0 EL) {vmS : Vm} {hs0 : Heap} (hC : CHr Z EL vmS hs0 vm0 h) (hsf : ∀ x ∈ sf, x < h.size ∧ Safe Z EL vm0 h x) :
    ∃ v T' L, Stand p l e R (s.setVm T'.vm) m args below meth c T' (locs ++ L) (cells + rm.cells) (slots + rm.slots) ∧ Q v T'.heap L ∧ (∀ target, Steps p.tables e below (T'.setTop (mkF m (pc + 3) ls (v.toList ++ rest))) target → Steps p.tables e below (T.setTop (mkF m pc ls stk)) target) ∧
      s.Since T'.vm T'.heap.size ∧ Z.Warmed39 (s.setVm T'.vm).vm ∧ (s.setVm T'.vm).vm.findClass own = some m.cls ∧ CHr Z EL vm0 h T'.vm T'.heap := by
  subst has
  obtain ⟨v, vm₁, ⟨T', L', k', n'⟩, -, X', S', hg, ⟨L, hQ, l1, y1, z1, hc⟩, st⟩ := callSS X hx (y := y) hown (mvT hZ w1) (mvT hZ w2) (mvT hZ w3) (mvT hZ w4) hy (own_backW (W := W) hM hZ w4 w3 hf hl hEL hC.1 hsf) (g := mkF m pc ls stk) rfl hsize (argsL := argsL) (rest := rest) hlen hstack (by simpa using hW) hd (fun _ _ => ⟨rfl, eT, hcl, hsl⟩)
  dsimp only [Pt.U, Pt.locs, Pt.cells, Pt.slots] at X' l1 y1 z1 st hQ S' hg hc
  subst l1 y1 z1
  obtain ⟨X2, S2, Z2, o2⟩ := rebS hS hkk X' S' (by rw [← eT]; exact hg) hZ hown
  exact ⟨v, T', L, X2, hQ, fun t k => st.trans k, S2, Z2, o2, hc⟩
theorem own_callSpW (X : Stand p l e R (s.setVm vm0) m args below meth c T locs cells slots) (hx : p.tables.exec = Jvm.exec) (hZ : Z.Warmed39 (s.setVm vm0).vm) {own : String} {index : Nat} {y : MethodName} {bytes : ByteArray} {maxL : Nat} {rm : Room} {as' : Array Value} {sf : List Addr} {Q : Option Value → Heap → List Loc → Prop}
    (hy1 : y.name = "<init>") (hown : (s.setVm vm0).vm.findClass own = some m.cls) (w1 : (Jvm.Cond.methodLink own index y).before a0 Z = true) (w2 : (Jvm.Cond.instanceMethod y).before a0 Z = true) (w3 : (Jvm.Cond.initialized y.cls).before a0 Z = true) (w4 : (Jvm.Cond.code y bytes maxL none).before a0 Z = true) (hy : y.cls ≠ "java/lang/invoke/MethodHandle" ∧ y.cls ≠ "java/lang/invoke/VarHandle")
    (hM : OConW l Z EL y bytes maxL none [] rm as' h sf Q) (eT : T.heap = h) {W : Nat} (hf : rm.frames + 1 ≤ R.frames) (hl : W + (maxL + 11) + rm.locals ≤ R.locals) (hcl : cells + rm.cells ≤ R.cells) (hsl : slots + rm.slots ≤ R.slots)
    {pc : Nat} {ls : Array Slot} {stk : List Value} (hsize : ls.size = c.maxLocals) {a : Addr} {argsL rest : List Value} (hlen : ∀ sig, parseMethodDescriptor y.desc = some sig → argsL.length = sig.parameters.length) (has : (.ref a :: argsL).toArray = as') (hstack : stk = argsL.reverse ++ .ref a :: rest) (hW : (rest.map fun v => v.category).sum ≤ W)
    (hd : decode c.code pc = .ok (.invokespecial index, 3)) {k0 : Nat} (hS : s.Since vm0 k0) (hkk : k0 ≤ h.size) (hEL : EW Z a0 EL) {vmS : Vm} {hs0 : Heap} (hC : CHr Z EL vmS hs0 vm0 h) (hsf : ∀ x ∈ sf, x < h.size ∧ Safe Z EL vm0 h x) :
    ∃ v T' L, Stand p l e R (s.setVm T'.vm) m args below meth c T' (locs ++ L) (cells + rm.cells) (slots + rm.slots) ∧ Q v T'.heap L ∧ (∀ target, Steps p.tables e below (T'.setTop (mkF m (pc + 3) ls (v.toList ++ rest))) target → Steps p.tables e below (T.setTop (mkF m pc ls stk)) target) ∧
      s.Since T'.vm T'.heap.size ∧ Z.Warmed39 (s.setVm T'.vm).vm ∧ (s.setVm T'.vm).vm.findClass own = some m.cls ∧ CHr Z EL vm0 h T'.vm T'.heap := by
  subst has
  obtain ⟨v, vm₁, ⟨T', L', k', n'⟩, -, X', S', hg, ⟨L, hQ, l1, y1, z1, hc⟩, st⟩ := X.specialBackS hx (y := y) hy1 hown (mvT hZ w1) (mvT hZ w2) (mvT hZ w4) hy (own_backW (W := W) hM hZ w4 w3 hf hl hEL hC.1 hsf) (g := mkF m pc ls stk) rfl hsize (Steps.refl _) (a := a) (argsL := argsL) (rest := rest) hlen hstack (by simpa using hW) hd (fun _ _ => ⟨rfl, eT, hcl, hsl⟩)
  dsimp only [Pt.U, Pt.locs, Pt.cells, Pt.slots] at X' l1 y1 z1 st hQ S' hg hc
  subst l1 y1 z1
  obtain ⟨X2, S2, Z2, o2⟩ := rebS hS hkk X' S' (by rw [← eT]; exact hg) hZ hown
  exact ⟨v, T', L, X2, hQ, fun t k => st.trans k, S2, Z2, o2, hc⟩
end OwnW
section OwnPriv
variable {p : Program} {l : Launch} {e : Env} {R : Room} {s : State} {m : MethodId} {args : Array Value} {below : List Frame} {meth : Method} {c : Code} {T : State} {locs : List Loc} {cells slots : Nat} {Z : State} {a0 : Array Value} {h : Heap} {Φ : Outcome → State → Prop}
/-- invokevirtual of a private method -/
theorem own_callPr (X : Stand p l e R s m args below meth c T locs cells slots) (hx : p.tables.exec = Jvm.exec) (hZ : Z.Warmed39 s.vm) {own C : String} {index : Nat} {y : MethodName} {bytes : ByteArray} {maxL : Nat} {ret : Option FieldType} {rm : Room} {as' : Array Value} {Q : Option Value → Heap → List Loc → Prop}
    (hown : s.vm.findClass own = some m.cls) (w1 : (Jvm.Cond.methodLink own index y).before a0 Z = true) (w2 : (Jvm.Cond.instanceMethod y).before a0 Z = true) (w3 : (Jvm.Cond.selects y.cls y y).before a0 Z = true) (w4 : (Jvm.Cond.privateMethod y).before a0 Z = true) (w5 : (Jvm.Cond.initialized y.cls).before a0 Z = true) (w6 : (Jvm.Cond.code y bytes maxL ret).before a0 Z = true) (hy : y.cls ≠ "java/lang/invoke/MethodHandle" ∧ y.cls ≠ "java/lang/invoke/VarHandle")
    (hM : OCon l Z y bytes maxL ret [] rm as' h Q) (eT : T.heap = h) {W : Nat} (hf : rm.frames + 1 ≤ R.frames) (hl : W + (maxL + 11) + rm.locals ≤ R.locals) (hcl : cells + rm.cells ≤ R.cells) (hsl : slots + rm.slots ≤ R.slots) {a : Addr} (E : Exa Z h a C)
    {pc : Nat} {ls : Array Slot} {stk : List Value} (hsize : ls.size = c.maxLocals) {argsL rest : List Value} (hlen : ∀ sig, parseMethodDescriptor y.desc = some sig → argsL.length = sig.parameters.length) (has : (.ref a :: argsL).toArray = as') (hstack : stk = argsL.reverse ++ .ref a :: rest) (hW : (rest.map fun v => v.category).sum ≤ W)
    (hd : decode c.code pc = .ok (.invokevirtual index, 3)) :
    ∃ v T' L, Stand p l e R s m args below meth c T' (locs ++ L) (cells + rm.cells) (slots + rm.slots) ∧ Q v T'.heap L ∧ ∀ target, Steps p.tables e below (T'.setTop (mkF m (pc + 3) ls (v.toList ++ rest))) target → Steps p.tables e below (T.setTop (mkF m pc ls stk)) target := by
  subst has
  obtain ⟨cq, q1, q2⟩ := E.cell
  obtain ⟨v, vm₁, ⟨T', L', k', n'⟩, -, X', ⟨L, hQ, l1, y1, z1⟩, st⟩ := X.privateBack hx (y := y) hown (mvT hZ w1) (mvT hZ w2) (mvT hZ w3) (Cond.privateMethod_at (mvP hZ w4 (args := #[]))) (mvT hZ w6) hy (backOf (W := W) hM hZ w6 w5 hf hl) (g := mkF m pc ls stk) rfl hsize (Steps.refl _) (a := a) (by rw [eT]; exact q1) q2 (argsL := argsL) (rest := rest) hlen hstack (by simpa using hW) hd (fun _ _ => ⟨rfl, eT, hcl, hsl⟩)
  dsimp only [Pt.U, Pt.locs, Pt.cells, Pt.slots] at X' l1 y1 z1 st hQ
  subst l1 y1 z1
  exact ⟨v, T', L, X', hQ, fun t k => st.trans k⟩
/-- invokeinterface -/
theorem own_callIf (X : Stand p l e R s m args below meth c T locs cells slots) (hx : p.tables.exec = Jvm.exec) (hZ : Z.Warmed39 s.vm) {own C : String} {index count : Nat} {xi y : MethodName} {bytes : ByteArray} {maxL : Nat} {ret : Option FieldType} {rm : Room} {as' : Array Value} {Q : Option Value → Heap → List Loc → Prop}
    (hown : s.vm.findClass own = some m.cls) (w1 : (Jvm.Cond.methodLink own index xi).before a0 Z = true) (w2 : (Jvm.Cond.declares xi).before a0 Z = true) (w3 : (Jvm.Cond.interfaceMethod xi.cls xi.cls xi.name xi.desc).before args s = true) (w4 : (Jvm.Cond.selects C xi y).before a0 Z = true) (w5 : (Jvm.Cond.instanceMethod y).before a0 Z = true) (w6 : (Jvm.Cond.publicMethod y).before a0 Z = true) (w7 : (Jvm.Cond.unhidden C xi.name xi.desc).before a0 Z = true) (w8 : (Jvm.Cond.castable C xi.cls).before a0 Z = true) (w9 : (Jvm.Cond.initialized y.cls).before a0 Z = true) (w10 : (Jvm.Cond.code y bytes maxL ret).before a0 Z = true) (hy : xi.cls ≠ "java/lang/invoke/MethodHandle" ∧ xi.cls ≠ "java/lang/invoke/VarHandle")
    (hM : OCon l Z y bytes maxL ret [] rm as' h Q) (eT : T.heap = h) {W : Nat} (hf : rm.frames + 1 ≤ R.frames) (hl : W + (maxL + 11) + rm.locals ≤ R.locals) (hcl : cells + rm.cells ≤ R.cells) (hsl : slots + rm.slots ≤ R.slots) {a : Addr} (E : Exa Z h a C)
    {pc : Nat} {ls : Array Slot} {stk : List Value} (hsize : ls.size = c.maxLocals) {argsL rest : List Value} (hlen : ∀ sig, parseMethodDescriptor xi.desc = some sig → argsL.length = sig.parameters.length) (has : (.ref a :: argsL).toArray = as') (hstack : stk = argsL.reverse ++ .ref a :: rest) (hW : (rest.map fun v => v.category).sum ≤ W)
    (hd : decode c.code pc = .ok (.invokeinterface index count, 5)) :
    ∃ v T' L, Stand p l e R s m args below meth c T' (locs ++ L) (cells + rm.cells) (slots + rm.slots) ∧ Q v T'.heap L ∧ ∀ target, Steps p.tables e below (T'.setTop (mkF m (pc + 5) ls (v.toList ++ rest))) target → Steps p.tables e below (T.setTop (mkF m pc ls stk)) target := by
  subst has
  obtain ⟨cq, kq, qa, qb, qc⟩ := isOf hZ eT E
  obtain ⟨v, vm₁, ⟨T', L', k', n'⟩, -, X', ⟨L, hQ, l1, y1, z1⟩, st⟩ := X.interfaceBack hx (xi := xi) (y := y) hown (mvT hZ w1) (mvT hZ w2) w3 (mvT hZ w4) (mvT hZ w5) (mvT hZ w6) (mvT hZ w7) (mvT hZ w8) hy (backOf (W := W) hM hZ w10 w9 hf hl) qa qb qc (g := mkF m pc ls stk) rfl hsize (Steps.refl _) (argsL := argsL) (rest := rest) hlen hstack (by simpa using hW) hd (fun _ _ => ⟨rfl, eT, hcl, hsl⟩)
  dsimp only [Pt.U, Pt.locs, Pt.cells, Pt.slots] at X' l1 y1 z1 st hQ
  subst l1 y1 z1
  exact ⟨v, T', L, X', hQ, fun t k => st.trans k⟩
end OwnPriv
section OwnDbl
open Jvm.FP Jvm.Free.Fl Jvm.Native.java_lang_Math.nans
/-- a whole number of at most n -/
def own_Bd (n : Nat) (a : Int64) : Prop := -(n : Int) ≤ a.toInt ∧ a.toInt ≤ n
theorem own_Bd.b {n : Nat} {a : Int64} (h : own_Bd n a) (q : n < 9007199254740992) : B53 a := by
  obtain ⟨h1, h2⟩ := h; exact ⟨by omega, by omega⟩
theorem own_bdS {n k : Nat} {a b : Int64} (h : own_Bd n a) (j : own_Bd k b) (q : n + k < 9007199254740992) : own_Bd (n + k) (a - b) := by
  have e := sub64 (h.b (by omega)) (j.b (by omega))
  obtain ⟨h1, h2⟩ := h; obtain ⟨j1, j2⟩ := j
  exact ⟨by rw [e]; omega, by rw [e]; omega⟩
theorem own_bdA {n k : Nat} {a b : Int64} (h : own_Bd n a) (j : own_Bd k b) (q : n + k < 9007199254740992) : own_Bd (n + k) (a + b) := by
  have e := add64 (h.b (by omega)) (j.b (by omega))
  obtain ⟨h1, h2⟩ := h; obtain ⟨j1, j2⟩ := j
  exact ⟨by rw [e]; omega, by rw [e]; omega⟩
theorem own_bd0 : own_Bd 0 (0 : Int64) := ⟨by decide, by decide⟩
theorem own_neg {n : Nat} {a : Int64} (h : own_Bd n a) (q : n < 9007199254740992) : (-a).toInt = -a.toInt := by
  have e := sub64 (own_bd0.b (by decide)) (h.b q)
  rw [Int64.zero_sub] at e; rw [e]; simp
/-- max(-a, 0) -/
def own_mx (a : Int64) : Int64 := if a < 0 then -a else 0
theorem own_mxv {n : Nat} {a : Int64} (h : own_Bd n a) (q : n < 9007199254740992) : (own_mx a).toInt = if a.toInt < 0 then -a.toInt else 0 := by
  have z : (0 : Int64).toInt = 0 := by decide
  unfold own_mx
  by_cases c : a < 0
  · have c' := Int64.lt_iff_toInt_lt.mp c
    rw [z] at c'
    rw [if_pos c, if_pos c', own_neg h q]
  · have c' : ¬ a.toInt < 0 := fun r => c (Int64.lt_iff_toInt_lt.mpr (by rw [z]; exact r))
    rw [if_neg c, if_neg c', z]
theorem own_bdX {n : Nat} {a : Int64} (h : own_Bd n a) (q : n < 9007199254740992) : own_Bd n (own_mx a) := by
  have e := own_mxv h q
  obtain ⟨h1, h2⟩ := h
  unfold own_Bd; rw [e]; split <;> omega
theorem own_pick {n : Nat} {a : Int64} (h : own_Bd n a) (q : n < 9007199254740992) : pick64 true (FP.dneg (FP.l2d a)) (FP.l2d 0) = FP.l2d (own_mx a) := by
  have z : (0 : Int64).toInt = 0 := by decide
  by_cases h0 : a = 0
  · subst h0
    have e : own_mx 0 = 0 := by decide
    rw [e]; decide +kernel
  · have hb := h.b q
    have hn := own_neg h q
    have hb' : B53 (-a) := ⟨by rw [hn]; have := hb.2; omega, by rw [hn]; have := hb.1; omega⟩
    have en : FP.dneg (FP.l2d a) = FP.l2d (-a) := (Jvm.FP.dneg_core (a := FP.l2d a) (Core.l2d_notNaN a)).trans (Core.l2d_neg h0 (by have := hb.1; omega)).symm
    rw [en]
    unfold own_mx
    by_cases c : a < 0
    · have c' := Int64.lt_iff_toInt_lt.mp c
      rw [if_pos c]
      exact max_g hb' (own_bd0.b (by decide)) (fun r => by have r' := Int64.lt_iff_toInt_lt.mp r; rw [hn, z] at r'; rw [z] at c'; omega)
    · rw [if_neg c]
      refine max_l hb' (own_bd0.b (by decide)) (Int64.lt_iff_toInt_lt.mpr ?_)
      have c' : ¬ a.toInt < 0 := fun r => c (Int64.lt_iff_toInt_lt.mpr (by rw [z]; exact r))
      have h0' : a.toInt ≠ 0 := fun r => h0 (Int64.toInt_inj.mp (by rw [z]; exact r))
      rw [hn, z]; omega
theorem own_nnN (a : Int64) : NoNaN64 (FP.dneg (FP.l2d a)) := (dneg_iff _).mpr (nn_w rfl)
theorem own_d0 : FP.dconst0 = FP.l2d 0 := by decide +kernel
theorem own_dc {a b : Int64} (ha : B53 a) (hb : B53 b) (o : CmpOp) : cmpValue (FP.dcmp (FP.l2d a) (FP.l2d b)) o = XT.cmpL a b := dcmpV_w ha hb o
end OwnDbl
section OwnE0
open Jvm.Free.SB Jvm.Free.SBG
theorem own_chr0 {Z : State} {vm vm1 : Vm} {h h' : Heap} (E : Ext h h') : CHr Z [] vm h vm1 h' := by
  refine ⟨?_, E.1, ?_⟩
  · intro p hp; cases hp
  · rintro y ⟨p, hp, -⟩; cases hp
theorem own_sf0 {Z : State} {vm : Vm} {h : Heap} {x : Addr} : Safe Z [] vm h x := by
  rintro ⟨p, hp, -⟩; cases hp
end OwnE0
theorem ow0 {Z : State} {a0 : Array Value} (hw : ∀ d ∈ tables_1, d.before a0 Z = true) : (Jvm.Cond.arrayClass Jvm.ClassFile.FieldType.double).before a0 Z = true := hw _ (List.mem_of_getElem? (i := 0) rfl)
theorem ow1 {Z : State} {a0 : Array Value} (hw : ∀ d ∈ tables_1, d.before a0 Z = true) : (Jvm.Cond.classLink "com/example/hydromeme/hydromeme/EvaluationFeasiblePinLaw" (7 : Nat) "java/util/ArrayList").before a0 Z = true := hw _ (List.mem_of_getElem? (i := 1) rfl)
theorem ow2 {Z : State} {a0 : Array Value} (hw : ∀ d ∈ tables_1, d.before a0 Z = true) : (Jvm.Cond.instantiable "java/util/ArrayList" (3 : Nat)).before a0 Z = true := hw _ (List.mem_of_getElem? (i := 2) rfl)
theorem ow3 {Z : State} {a0 : Array Value} (hw : ∀ d ∈ tables_1, d.before a0 Z = true) : (Jvm.Cond.initialized "java/util/ArrayList").before a0 Z = true := hw _ (List.mem_of_getElem? (i := 3) rfl)
theorem ow4 {Z : State} {a0 : Array Value} (hw : ∀ d ∈ tables_1, d.before a0 Z = true) : (Jvm.Cond.methodLink "com/example/hydromeme/hydromeme/EvaluationFeasiblePinLaw" (9 : Nat) ({ cls := "java/util/ArrayList", name := "<init>", desc := "()V" } : Jvm.MethodName)).before a0 Z = true := hw _ (List.mem_of_getElem? (i := 4) rfl)
theorem ow5 {Z : State} {a0 : Array Value} (hw : ∀ d ∈ tables_1, d.before a0 Z = true) : (Jvm.Cond.instanceMethod ({ cls := "java/util/ArrayList", name := "<init>", desc := "()V" } : Jvm.MethodName)).before a0 Z = true := hw _ (List.mem_of_getElem? (i := 5) rfl)
theorem ow6 {Z : State} {a0 : Array Value} (hw : ∀ d ∈ tables_1, d.before a0 Z = true) : (Jvm.Cond.code ({ cls := "java/util/ArrayList", name := "<init>", desc := "()V" } : Jvm.MethodName) jdk_38_method_2_code (1 : Nat) (Option.none : Option Jvm.ClassFile.FieldType)).before a0 Z = true := hw _ (List.mem_of_getElem? (i := 6) rfl)
theorem ow7 {Z : State} {a0 : Array Value} (hw : ∀ d ∈ tables_1, d.before a0 Z = true) : (Jvm.Cond.methodLink "java/util/ArrayList" (1 : Nat) ({ cls := "java/util/AbstractList", name := "<init>", desc := "()V" } : Jvm.MethodName)).before a0 Z = true := hw _ (List.mem_of_getElem? (i := 7) rfl)
theorem ow8 {Z : State} {a0 : Array Value} (hw : ∀ d ∈ tables_1, d.before a0 Z = true) : (Jvm.Cond.instanceMethod ({ cls := "java/util/AbstractList", name := "<init>", desc := "()V" } : Jvm.MethodName)).before a0 Z = true := hw _ (List.mem_of_getElem? (i := 8) rfl)
theorem ow11 {Z : State} {a0 : Array Value} (hw : ∀ d ∈ tables_1, d.before a0 Z = true) : (Jvm.Cond.initialized "java/util/AbstractList").before a0 Z = true := hw _ (List.mem_of_getElem? (i := 11) rfl)
theorem ow12 {Z : State} {a0 : Array Value} (hw : ∀ d ∈ tables_1, d.before a0 Z = true) : (Jvm.Cond.code ({ cls := "java/util/AbstractList", name := "<init>", desc := "()V" } : Jvm.MethodName) jdk_39_method_1_code (1 : Nat) (Option.none : Option Jvm.ClassFile.FieldType)).before a0 Z = true := hw _ (List.mem_of_getElem? (i := 12) rfl)
theorem ow13 {Z : State} {a0 : Array Value} (hw : ∀ d ∈ tables_1, d.before a0 Z = true) : (Jvm.Cond.methodLink "java/util/AbstractList" (1 : Nat) ({ cls := "java/util/AbstractCollection", name := "<init>", desc := "()V" } : Jvm.MethodName)).before a0 Z = true := hw _ (List.mem_of_getElem? (i := 13) rfl)
theorem ow14 {Z : State} {a0 : Array Value} (hw : ∀ d ∈ tables_1, d.before a0 Z = true) : (Jvm.Cond.instanceMethod ({ cls := "java/util/AbstractCollection", name := "<init>", desc := "()V" } : Jvm.MethodName)).before a0 Z = true := hw _ (List.mem_of_getElem? (i := 14) rfl)
theorem ow17 {Z : State} {a0 : Array Value} (hw : ∀ d ∈ tables_1, d.before a0 Z = true) : (Jvm.Cond.initialized "java/util/AbstractCollection").before a0 Z = true := hw _ (List.mem_of_getElem? (i := 17) rfl)
theorem ow18 {Z : State} {a0 : Array Value} (hw : ∀ d ∈ tables_1, d.before a0 Z = true) : (Jvm.Cond.code ({ cls := "java/util/AbstractCollection", name := "<init>", desc := "()V" } : Jvm.MethodName) jdk_22_method_1_code (1 : Nat) (Option.none : Option Jvm.ClassFile.FieldType)).before a0 Z = true := hw _ (List.mem_of_getElem? (i := 18) rfl)
theorem ow19 {Z : State} {a0 : Array Value} (hw : ∀ d ∈ tables_1, d.before a0 Z = true) : (Jvm.Cond.methodLink "java/util/AbstractCollection" (1 : Nat) ({ cls := "java/lang/Object", name := "<init>", desc := "()V" } : Jvm.MethodName)).before a0 Z = true := hw _ (List.mem_of_getElem? (i := 19) rfl)
theorem ow20 {Z : State} {a0 : Array Value} (hw : ∀ d ∈ tables_1, d.before a0 Z = true) : (Jvm.Cond.instanceMethod ({ cls := "java/lang/Object", name := "<init>", desc := "()V" } : Jvm.MethodName)).before a0 Z = true := hw _ (List.mem_of_getElem? (i := 20) rfl)
theorem ow21 {Z : State} {a0 : Array Value} (hw : ∀ d ∈ tables_1, d.before a0 Z = true) : (Jvm.Cond.code ({ cls := "java/lang/Object", name := "<init>", desc := "()V" } : Jvm.MethodName) object_method_1_code (1 : Nat) (Option.none : Option Jvm.ClassFile.FieldType)).before a0 Z = true := hw _ (List.mem_of_getElem? (i := 21) rfl)
theorem ow22 {Z : State} {a0 : Array Value} (hw : ∀ d ∈ tables_1, d.before a0 Z = true) : (Jvm.Cond.fieldLink "java/util/AbstractList" (7 : Nat) "java/util/AbstractList" "modCount" "I").before a0 Z = true := hw _ (List.mem_of_getElem? (i := 22) rfl)
theorem ow23 {Z : State} {a0 : Array Value} (hw : ∀ d ∈ tables_1, d.before a0 Z = true) : (Jvm.Cond.lays "java/util/ArrayList" "java/util/AbstractList" "modCount" "I").before a0 Z = true := hw _ (List.mem_of_getElem? (i := 23) rfl)
theorem ow24 {Z : State} {a0 : Array Value} (hw : ∀ d ∈ tables_1, d.before a0 Z = true) : (Jvm.Cond.fieldLink "java/util/ArrayList" (39 : Nat) "java/util/ArrayList" "DEFAULTCAPACITY_EMPTY_ELEMENTDATA" "[Ljava/lang/Object;").before a0 Z = true := hw _ (List.mem_of_getElem? (i := 24) rfl)
theorem ow25 {Z : State} {a0 : Array Value} (hw : ∀ d ∈ tables_1, d.before a0 Z = true) : (Jvm.Cond.fieldLink "java/util/ArrayList" (9 : Nat) "java/util/ArrayList" "elementData" "[Ljava/lang/Object;").before a0 Z = true := hw _ (List.mem_of_getElem? (i := 25) rfl)
theorem ow26 {Z : State} {a0 : Array Value} (hw : ∀ d ∈ tables_1, d.before a0 Z = true) : (Jvm.Cond.lays "java/util/ArrayList" "java/util/ArrayList" "elementData" "[Ljava/lang/Object;").before a0 Z = true := hw _ (List.mem_of_getElem? (i := 26) rfl)
theorem ow27 {Z : State} {a0 : Array Value} (hw : ∀ d ∈ tables_1, d.before a0 Z = true) : (Jvm.Cond.classLink "com/example/hydromeme/hydromeme/EvaluationFeasiblePinLaw" (10 : Nat) "com/example/hydromeme/hydromeme/Network$Junction").before a0 Z = true := hw _ (List.mem_of_getElem? (i := 27) rfl)
theorem ow28 {Z : State} {a0 : Array Value} (hw : ∀ d ∈ tables_1, d.before a0 Z = true) : (Jvm.Cond.instantiable "com/example/hydromeme/hydromeme/Network$Junction" (3 : Nat)).before a0 Z = true := hw _ (List.mem_of_getElem? (i := 28) rfl)
theorem ow29 {Z : State} {a0 : Array Value} (hw : ∀ d ∈ tables_1, d.before a0 Z = true) : (Jvm.Cond.initialized "com/example/hydromeme/hydromeme/Network$Junction").before a0 Z = true := hw _ (List.mem_of_getElem? (i := 29) rfl)
theorem ow30 {Z : State} {a0 : Array Value} (hw : ∀ d ∈ tables_1, d.before a0 Z = true) : (Jvm.Cond.stringLink "com/example/hydromeme/hydromeme/EvaluationFeasiblePinLaw" (12 : Nat) "a").before a0 Z = true := hw _ (List.mem_of_getElem? (i := 30) rfl)
theorem ow31 {Z : State} {a0 : Array Value} (hw : ∀ d ∈ tables_1, d.before a0 Z = true) : (Jvm.Cond.initialized "java/lang/String").before a0 Z = true := hw _ (List.mem_of_getElem? (i := 31) rfl)
theorem ow32 {Z : State} {a0 : Array Value} (hw : ∀ d ∈ tables_1, d.before a0 Z = true) : (Jvm.Cond.instantiable "java/lang/String" (4 : Nat)).before a0 Z = true := hw _ (List.mem_of_getElem? (i := 32) rfl)
theorem ow33 {Z : State} {a0 : Array Value} (hw : ∀ d ∈ tables_1, d.before a0 Z = true) : (Jvm.Cond.arrayClass Jvm.ClassFile.FieldType.byte).before a0 Z = true := hw _ (List.mem_of_getElem? (i := 33) rfl)
theorem ow34 {Z : State} {a0 : Array Value} (hw : ∀ d ∈ tables_1, d.before a0 Z = true) : (Jvm.Cond.laysFinal "java/lang/String" "java/lang/String" "value" "[B").before a0 Z = true := hw _ (List.mem_of_getElem? (i := 34) rfl)
theorem ow35 {Z : State} {a0 : Array Value} (hw : ∀ d ∈ tables_1, d.before a0 Z = true) : (Jvm.Cond.laysFinal "java/lang/String" "java/lang/String" "coder" "B").before a0 Z = true := hw _ (List.mem_of_getElem? (i := 35) rfl)
theorem ow36 {Z : State} {a0 : Array Value} (hw : ∀ d ∈ tables_1, d.before a0 Z = true) : (Jvm.Cond.soleField "java/lang/String" "value").before a0 Z = true := hw _ (List.mem_of_getElem? (i := 36) rfl)
theorem ow37 {Z : State} {a0 : Array Value} (hw : ∀ d ∈ tables_1, d.before a0 Z = true) : (Jvm.Cond.soleField "java/lang/String" "coder").before a0 Z = true := hw _ (List.mem_of_getElem? (i := 37) rfl)
theorem ow38 {Z : State} {a0 : Array Value} (hw : ∀ d ∈ tables_1, d.before a0 Z = true) : (Jvm.Cond.methodLink "com/example/hydromeme/hydromeme/EvaluationFeasiblePinLaw" (14 : Nat) ({ cls := "com/example/hydromeme/hydromeme/Network$Junction", name := "<init>", desc := "(Ljava/lang/String;DD)V" } : Jvm.MethodName)).before a0 Z = true := hw _ (List.mem_of_getElem? (i := 38) rfl)
theorem ow39 {Z : State} {a0 : Array Value} (hw : ∀ d ∈ tables_1, d.before a0 Z = true) : (Jvm.Cond.instanceMethod ({ cls := "com/example/hydromeme/hydromeme/Network$Junction", name := "<init>", desc := "(Ljava/lang/String;DD)V" } : Jvm.MethodName)).before a0 Z = true := hw _ (List.mem_of_getElem? (i := 39) rfl)
theorem ow40 {Z : State} {a0 : Array Value} (hw : ∀ d ∈ tables_1, d.before a0 Z = true) : (Jvm.Cond.code ({ cls := "com/example/hydromeme/hydromeme/Network$Junction", name := "<init>", desc := "(Ljava/lang/String;DD)V" } : Jvm.MethodName) prog_35_method_1_code (6 : Nat) (Option.none : Option Jvm.ClassFile.FieldType)).before a0 Z = true := hw _ (List.mem_of_getElem? (i := 40) rfl)
theorem ow41 {Z : State} {a0 : Array Value} (hw : ∀ d ∈ tables_1, d.before a0 Z = true) : (Jvm.Cond.methodLink "com/example/hydromeme/hydromeme/Network$Junction" (1 : Nat) ({ cls := "java/lang/Record", name := "<init>", desc := "()V" } : Jvm.MethodName)).before a0 Z = true := hw _ (List.mem_of_getElem? (i := 41) rfl)
theorem ow42 {Z : State} {a0 : Array Value} (hw : ∀ d ∈ tables_1, d.before a0 Z = true) : (Jvm.Cond.instanceMethod ({ cls := "java/lang/Record", name := "<init>", desc := "()V" } : Jvm.MethodName)).before a0 Z = true := hw _ (List.mem_of_getElem? (i := 42) rfl)
theorem ow44 {Z : State} {a0 : Array Value} (hw : ∀ d ∈ tables_1, d.before a0 Z = true) : (Jvm.Cond.initialized "java/lang/Record").before a0 Z = true := hw _ (List.mem_of_getElem? (i := 44) rfl)
theorem ow45 {Z : State} {a0 : Array Value} (hw : ∀ d ∈ tables_1, d.before a0 Z = true) : (Jvm.Cond.code ({ cls := "java/lang/Record", name := "<init>", desc := "()V" } : Jvm.MethodName) jdk_30_method_1_code (1 : Nat) (Option.none : Option Jvm.ClassFile.FieldType)).before a0 Z = true := hw _ (List.mem_of_getElem? (i := 45) rfl)
theorem ow46 {Z : State} {a0 : Array Value} (hw : ∀ d ∈ tables_1, d.before a0 Z = true) : (Jvm.Cond.methodLink "java/lang/Record" (1 : Nat) ({ cls := "java/lang/Object", name := "<init>", desc := "()V" } : Jvm.MethodName)).before a0 Z = true := hw _ (List.mem_of_getElem? (i := 46) rfl)
theorem ow47 {Z : State} {a0 : Array Value} (hw : ∀ d ∈ tables_1, d.before a0 Z = true) : (Jvm.Cond.fieldLink "com/example/hydromeme/hydromeme/Network$Junction" (7 : Nat) "com/example/hydromeme/hydromeme/Network$Junction" "id" "Ljava/lang/String;").before a0 Z = true := hw _ (List.mem_of_getElem? (i := 47) rfl)
theorem ow48 {Z : State} {a0 : Array Value} (hw : ∀ d ∈ tables_1, d.before a0 Z = true) : (Jvm.Cond.laysFinal "com/example/hydromeme/hydromeme/Network$Junction" "com/example/hydromeme/hydromeme/Network$Junction" "id" "Ljava/lang/String;").before a0 Z = true := hw _ (List.mem_of_getElem? (i := 48) rfl)
theorem ow49 {Z : State} {a0 : Array Value} (hw : ∀ d ∈ tables_1, d.before a0 Z = true) : (Jvm.Cond.fieldLink "com/example/hydromeme/hydromeme/Network$Junction" (13 : Nat) "com/example/hydromeme/hydromeme/Network$Junction" "elevation" "D").before a0 Z = true := hw _ (List.mem_of_getElem? (i := 49) rfl)
theorem ow50 {Z : State} {a0 : Array Value} (hw : ∀ d ∈ tables_1, d.before a0 Z = true) : (Jvm.Cond.laysFinal "com/example/hydromeme/hydromeme/Network$Junction" "com/example/hydromeme/hydromeme/Network$Junction" "elevation" "D").before a0 Z = true := hw _ (List.mem_of_getElem? (i := 50) rfl)
theorem ow51 {Z : State} {a0 : Array Value} (hw : ∀ d ∈ tables_1, d.before a0 Z = true) : (Jvm.Cond.fieldLink "com/example/hydromeme/hydromeme/Network$Junction" (17 : Nat) "com/example/hydromeme/hydromeme/Network$Junction" "demand" "D").before a0 Z = true := hw _ (List.mem_of_getElem? (i := 51) rfl)
theorem ow52 {Z : State} {a0 : Array Value} (hw : ∀ d ∈ tables_1, d.before a0 Z = true) : (Jvm.Cond.laysFinal "com/example/hydromeme/hydromeme/Network$Junction" "com/example/hydromeme/hydromeme/Network$Junction" "demand" "D").before a0 Z = true := hw _ (List.mem_of_getElem? (i := 52) rfl)
theorem ow53 {Z : State} {a0 : Array Value} (hw : ∀ d ∈ tables_1, d.before a0 Z = true) : (Jvm.Cond.methodLink "com/example/hydromeme/hydromeme/EvaluationFeasiblePinLaw" (17 : Nat) ({ cls := "java/util/ArrayList", name := "add", desc := "(Ljava/lang/Object;)Z" } : Jvm.MethodName)).before a0 Z = true := hw _ (List.mem_of_getElem? (i := 53) rfl)
theorem ow54 {Z : State} {a0 : Array Value} (hw : ∀ d ∈ tables_1, d.before a0 Z = true) : (Jvm.Cond.declares ({ cls := "java/util/ArrayList", name := "add", desc := "(Ljava/lang/Object;)Z" } : Jvm.MethodName)).before a0 Z = true := hw _ (List.mem_of_getElem? (i := 54) rfl)
theorem ow55 {Z : State} {a0 : Array Value} (hw : ∀ d ∈ tables_1, d.before a0 Z = true) : (Jvm.Cond.instanceMethod ({ cls := "java/util/ArrayList", name := "add", desc := "(Ljava/lang/Object;)Z" } : Jvm.MethodName)).before a0 Z = true := hw _ (List.mem_of_getElem? (i := 55) rfl)
theorem ow56 {Z : State} {a0 : Array Value} (hw : ∀ d ∈ tables_1, d.before a0 Z = true) : (Jvm.Cond.selects "java/util/ArrayList" ({ cls := "java/util/ArrayList", name := "add", desc := "(Ljava/lang/Object;)Z" } : Jvm.MethodName) ({ cls := "java/util/ArrayList", name := "add", desc := "(Ljava/lang/Object;)Z" } : Jvm.MethodName)).before a0 Z = true := hw _ (List.mem_of_getElem? (i := 56) rfl)
theorem ow57 {Z : State} {a0 : Array Value} (hw : ∀ d ∈ tables_1, d.before a0 Z = true) : (Jvm.Cond.code ({ cls := "java/util/ArrayList", name := "add", desc := "(Ljava/lang/Object;)Z" } : Jvm.MethodName) jdk_38_method_25_code (2 : Nat) (Option.some Jvm.ClassFile.FieldType.boolean)).before a0 Z = true := hw _ (List.mem_of_getElem? (i := 57) rfl)
theorem ow58 {Z : State} {a0 : Array Value} (hw : ∀ d ∈ tables_1, d.before a0 Z = true) : (Jvm.Cond.fieldLink "java/util/ArrayList" (63 : Nat) "java/util/ArrayList" "modCount" "I").before a0 Z = true := hw _ (List.mem_of_getElem? (i := 58) rfl)
theorem ow59 {Z : State} {a0 : Array Value} (hw : ∀ d ∈ tables_1, d.before a0 Z = true) : (Jvm.Cond.sameField "java/util/ArrayList" "java/util/AbstractList" "modCount" "I").before a0 Z = true := hw _ (List.mem_of_getElem? (i := 59) rfl)
theorem ow60 {Z : State} {a0 : Array Value} (hw : ∀ d ∈ tables_1, d.before a0 Z = true) : (Jvm.Cond.fieldLink "java/util/ArrayList" (48 : Nat) "java/util/ArrayList" "size" "I").before a0 Z = true := hw _ (List.mem_of_getElem? (i := 60) rfl)
theorem ow61 {Z : State} {a0 : Array Value} (hw : ∀ d ∈ tables_1, d.before a0 Z = true) : (Jvm.Cond.lays "java/util/ArrayList" "java/util/ArrayList" "size" "I").before a0 Z = true := hw _ (List.mem_of_getElem? (i := 61) rfl)
theorem ow62 {Z : State} {a0 : Array Value} (hw : ∀ d ∈ tables_1, d.before a0 Z = true) : (Jvm.Cond.methodLink "java/util/ArrayList" (131 : Nat) ({ cls := "java/util/ArrayList", name := "add", desc := "(Ljava/lang/Object;[Ljava/lang/Object;I)V" } : Jvm.MethodName)).before a0 Z = true := hw _ (List.mem_of_getElem? (i := 62) rfl)
theorem ow63 {Z : State} {a0 : Array Value} (hw : ∀ d ∈ tables_1, d.before a0 Z = true) : (Jvm.Cond.instanceMethod ({ cls := "java/util/ArrayList", name := "add", desc := "(Ljava/lang/Object;[Ljava/lang/Object;I)V" } : Jvm.MethodName)).before a0 Z = true := hw _ (List.mem_of_getElem? (i := 63) rfl)
theorem ow64 {Z : State} {a0 : Array Value} (hw : ∀ d ∈ tables_1, d.before a0 Z = true) : (Jvm.Cond.privateMethod ({ cls := "java/util/ArrayList", name := "add", desc := "(Ljava/lang/Object;[Ljava/lang/Object;I)V" } : Jvm.MethodName)).before a0 Z = true := hw _ (List.mem_of_getElem? (i := 64) rfl)
theorem ow65 {Z : State} {a0 : Array Value} (hw : ∀ d ∈ tables_1, d.before a0 Z = true) : (Jvm.Cond.selects "java/util/ArrayList" ({ cls := "java/util/ArrayList", name := "add", desc := "(Ljava/lang/Object;[Ljava/lang/Object;I)V" } : Jvm.MethodName) ({ cls := "java/util/ArrayList", name := "add", desc := "(Ljava/lang/Object;[Ljava/lang/Object;I)V" } : Jvm.MethodName)).before a0 Z = true := hw _ (List.mem_of_getElem? (i := 65) rfl)
theorem ow66 {Z : State} {a0 : Array Value} (hw : ∀ d ∈ tables_1, d.before a0 Z = true) : (Jvm.Cond.code ({ cls := "java/util/ArrayList", name := "add", desc := "(Ljava/lang/Object;[Ljava/lang/Object;I)V" } : Jvm.MethodName) jdk_38_method_24_code (4 : Nat) (Option.none : Option Jvm.ClassFile.FieldType)).before a0 Z = true := hw _ (List.mem_of_getElem? (i := 66) rfl)
theorem ow67 {Z : State} {a0 : Array Value} (hw : ∀ d ∈ tables_1, d.before a0 Z = true) : (Jvm.Cond.methodLink "java/util/ArrayList" (129 : Nat) ({ cls := "java/util/ArrayList", name := "grow", desc := "()[Ljava/lang/Object;" } : Jvm.MethodName)).before a0 Z = true := hw _ (List.mem_of_getElem? (i := 67) rfl)
theorem ow68 {Z : State} {a0 : Array Value} (hw : ∀ d ∈ tables_1, d.before a0 Z = true) : (Jvm.Cond.instanceMethod ({ cls := "java/util/ArrayList", name := "grow", desc := "()[Ljava/lang/Object;" } : Jvm.MethodName)).before a0 Z = true := hw _ (List.mem_of_getElem? (i := 68) rfl)
theorem ow69 {Z : State} {a0 : Array Value} (hw : ∀ d ∈ tables_1, d.before a0 Z = true) : (Jvm.Cond.privateMethod ({ cls := "java/util/ArrayList", name := "grow", desc := "()[Ljava/lang/Object;" } : Jvm.MethodName)).before a0 Z = true := hw _ (List.mem_of_getElem? (i := 69) rfl)
theorem ow70 {Z : State} {a0 : Array Value} (hw : ∀ d ∈ tables_1, d.before a0 Z = true) : (Jvm.Cond.selects "java/util/ArrayList" ({ cls := "java/util/ArrayList", name := "grow", desc := "()[Ljava/lang/Object;" } : Jvm.MethodName) ({ cls := "java/util/ArrayList", name := "grow", desc := "()[Ljava/lang/Object;" } : Jvm.MethodName)).before a0 Z = true := hw _ (List.mem_of_getElem? (i := 70) rfl)
theorem ow71 {Z : State} {a0 : Array Value} (hw : ∀ d ∈ tables_1, d.before a0 Z = true) : (Jvm.Cond.code ({ cls := "java/util/ArrayList", name := "grow", desc := "()[Ljava/lang/Object;" } : Jvm.MethodName) jdk_38_method_7_code (1 : Nat) (Option.some (Jvm.ClassFile.FieldType.array (Jvm.ClassFile.FieldType.object "java/lang/Object")))).before a0 Z = true := hw _ (List.mem_of_getElem? (i := 71) rfl)
theorem ow72 {Z : State} {a0 : Array Value} (hw : ∀ d ∈ tables_1, d.before a0 Z = true) : (Jvm.Cond.methodLink "java/util/ArrayList" (69 : Nat) ({ cls := "java/util/ArrayList", name := "grow", desc := "(I)[Ljava/lang/Object;" } : Jvm.MethodName)).before a0 Z = true := hw _ (List.mem_of_getElem? (i := 72) rfl)
theorem ow73 {Z : State} {a0 : Array Value} (hw : ∀ d ∈ tables_1, d.before a0 Z = true) : (Jvm.Cond.instanceMethod ({ cls := "java/util/ArrayList", name := "grow", desc := "(I)[Ljava/lang/Object;" } : Jvm.MethodName)).before a0 Z = true := hw _ (List.mem_of_getElem? (i := 73) rfl)
theorem ow74 {Z : State} {a0 : Array Value} (hw : ∀ d ∈ tables_1, d.before a0 Z = true) : (Jvm.Cond.privateMethod ({ cls := "java/util/ArrayList", name := "grow", desc := "(I)[Ljava/lang/Object;" } : Jvm.MethodName)).before a0 Z = true := hw _ (List.mem_of_getElem? (i := 74) rfl)
theorem ow75 {Z : State} {a0 : Array Value} (hw : ∀ d ∈ tables_1, d.before a0 Z = true) : (Jvm.Cond.selects "java/util/ArrayList" ({ cls := "java/util/ArrayList", name := "grow", desc := "(I)[Ljava/lang/Object;" } : Jvm.MethodName) ({ cls := "java/util/ArrayList", name := "grow", desc := "(I)[Ljava/lang/Object;" } : Jvm.MethodName)).before a0 Z = true := hw _ (List.mem_of_getElem? (i := 75) rfl)
theorem ow76 {Z : State} {a0 : Array Value} (hw : ∀ d ∈ tables_1, d.before a0 Z = true) : (Jvm.Cond.code ({ cls := "java/util/ArrayList", name := "grow", desc := "(I)[Ljava/lang/Object;" } : Jvm.MethodName) jdk_38_method_6_code (4 : Nat) (Option.some (Jvm.ClassFile.FieldType.array (Jvm.ClassFile.FieldType.object "java/lang/Object")))).before a0 Z = true := hw _ (List.mem_of_getElem? (i := 76) rfl)
theorem ow77 {Z : State} {a0 : Array Value} (hw : ∀ d ∈ tables_1, d.before a0 Z = true) : (Jvm.Cond.methodLink "java/util/ArrayList" (79 : Nat) ({ cls := "java/lang/Math", name := "max", desc := "(II)I" } : Jvm.MethodName)).before a0 Z = true := hw _ (List.mem_of_getElem? (i := 77) rfl)
theorem ow78 {Z : State} {a0 : Array Value} (hw : ∀ d ∈ tables_1, d.before a0 Z = true) : (Jvm.Cond.static ({ cls := "java/lang/Math", name := "max", desc := "(II)I" } : Jvm.MethodName)).before a0 Z = true := hw _ (List.mem_of_getElem? (i := 78) rfl)
theorem ow79 {Z : State} {a0 : Array Value} (hw : ∀ d ∈ tables_1, d.before a0 Z = true) : (Jvm.Cond.initialized "java/lang/Math").before a0 Z = true := hw _ (List.mem_of_getElem? (i := 79) rfl)
theorem ow80 {Z : State} {a0 : Array Value} (hw : ∀ d ∈ tables_1, d.before a0 Z = true) : (Jvm.Cond.code ({ cls := "java/lang/Math", name := "max", desc := "(II)I" } : Jvm.MethodName) jdk_29_method_65_code (2 : Nat) (Option.some Jvm.ClassFile.FieldType.int)).before a0 Z = true := hw _ (List.mem_of_getElem? (i := 80) rfl)
theorem ow81 {Z : State} {a0 : Array Value} (hw : ∀ d ∈ tables_1, d.before a0 Z = true) : (Jvm.Cond.classLink "java/util/ArrayList" (7 : Nat) "java/lang/Object").before a0 Z = true := hw _ (List.mem_of_getElem? (i := 81) rfl)
theorem ow82 {Z : State} {a0 : Array Value} (hw : ∀ d ∈ tables_1, d.before a0 Z = true) : (Jvm.Cond.arrayOver (Jvm.ClassFile.FieldType.object "java/lang/Object")).before a0 Z = true := hw _ (List.mem_of_getElem? (i := 82) rfl)
theorem ow83 {Z : State} {a0 : Array Value} (hw : ∀ d ∈ tables_1, d.before a0 Z = true) : (Jvm.Cond.castable "com/example/hydromeme/hydromeme/Network$Junction" "java/lang/Object").before a0 Z = true := hw _ (List.mem_of_getElem? (i := 83) rfl)
theorem ow84 {Z : State} {a0 : Array Value} (hw : ∀ d ∈ tables_1, d.before a0 Z = true) : (Jvm.Cond.stringLink "com/example/hydromeme/hydromeme/EvaluationFeasiblePinLaw" (21 : Nat) "b").before a0 Z = true := hw _ (List.mem_of_getElem? (i := 84) rfl)
theorem ow85 {Z : State} {a0 : Array Value} (hw : ∀ d ∈ tables_1, d.before a0 Z = true) : (Jvm.Cond.methodLink "com/example/hydromeme/hydromeme/EvaluationFeasiblePinLaw" (23 : Nat) ({ cls := "com/example/hydromeme/hydromeme/Evaluation", name := "of", desc := "(D[D[DLjava/util/List;[D)Lcom/example/hydromeme/hydromeme/Evaluation;" } : Jvm.MethodName)).before a0 Z = true := hw _ (List.mem_of_getElem? (i := 85) rfl)
theorem ow86 {Z : State} {a0 : Array Value} (hw : ∀ d ∈ tables_1, d.before a0 Z = true) : (Jvm.Cond.static ({ cls := "com/example/hydromeme/hydromeme/Evaluation", name := "of", desc := "(D[D[DLjava/util/List;[D)Lcom/example/hydromeme/hydromeme/Evaluation;" } : Jvm.MethodName)).before a0 Z = true := hw _ (List.mem_of_getElem? (i := 86) rfl)
theorem ow87 {Z : State} {a0 : Array Value} (hw : ∀ d ∈ tables_1, d.before a0 Z = true) : (Jvm.Cond.initialized "com/example/hydromeme/hydromeme/Evaluation").before a0 Z = true := hw _ (List.mem_of_getElem? (i := 87) rfl)
theorem ow88 {Z : State} {a0 : Array Value} (hw : ∀ d ∈ tables_1, d.before a0 Z = true) : (Jvm.Cond.code ({ cls := "com/example/hydromeme/hydromeme/Evaluation", name := "of", desc := "(D[D[DLjava/util/List;[D)Lcom/example/hydromeme/hydromeme/Evaluation;" } : Jvm.MethodName) prog_9_method_2_code (12 : Nat) (Option.some (Jvm.ClassFile.FieldType.object "com/example/hydromeme/hydromeme/Evaluation"))).before a0 Z = true := hw _ (List.mem_of_getElem? (i := 88) rfl)
theorem ow89 {Z : State} {a0 : Array Value} (hw : ∀ d ∈ tables_1, d.before a0 Z = true) : (Jvm.Cond.methodLink "com/example/hydromeme/hydromeme/Evaluation" (33 : Nat) ({ cls := "java/util/List", name := "get", desc := "(I)Ljava/lang/Object;" } : Jvm.MethodName)).before a0 Z = true := hw _ (List.mem_of_getElem? (i := 89) rfl)
theorem ow90 {Z : State} {a0 : Array Value} (hw : ∀ d ∈ tables_1, d.before a0 Z = true) : (Jvm.Cond.declares ({ cls := "java/util/List", name := "get", desc := "(I)Ljava/lang/Object;" } : Jvm.MethodName)).before a0 Z = true := hw _ (List.mem_of_getElem? (i := 90) rfl)
theorem ow91 {Z : State} {a0 : Array Value} (hw : ∀ d ∈ tables_1, d.before a0 Z = true) : (Jvm.Cond.interfaceMethod "java/util/List" "java/util/List" "get" "(I)Ljava/lang/Object;").before a0 Z = true := hw _ (List.mem_of_getElem? (i := 91) rfl)
theorem ow92 {Z : State} {a0 : Array Value} (hw : ∀ d ∈ tables_1, d.before a0 Z = true) : (Jvm.Cond.selects "java/util/ArrayList" ({ cls := "java/util/List", name := "get", desc := "(I)Ljava/lang/Object;" } : Jvm.MethodName) ({ cls := "java/util/ArrayList", name := "get", desc := "(I)Ljava/lang/Object;" } : Jvm.MethodName)).before a0 Z = true := hw _ (List.mem_of_getElem? (i := 92) rfl)
theorem ow93 {Z : State} {a0 : Array Value} (hw : ∀ d ∈ tables_1, d.before a0 Z = true) : (Jvm.Cond.instanceMethod ({ cls := "java/util/ArrayList", name := "get", desc := "(I)Ljava/lang/Object;" } : Jvm.MethodName)).before a0 Z = true := hw _ (List.mem_of_getElem? (i := 93) rfl)
theorem ow94 {Z : State} {a0 : Array Value} (hw : ∀ d ∈ tables_1, d.before a0 Z = true) : (Jvm.Cond.publicMethod ({ cls := "java/util/ArrayList", name := "get", desc := "(I)Ljava/lang/Object;" } : Jvm.MethodName)).before a0 Z = true := hw _ (List.mem_of_getElem? (i := 94) rfl)
theorem ow95 {Z : State} {a0 : Array Value} (hw : ∀ d ∈ tables_1, d.before a0 Z = true) : (Jvm.Cond.unhidden "java/util/ArrayList" "get" "(I)Ljava/lang/Object;").before a0 Z = true := hw _ (List.mem_of_getElem? (i := 95) rfl)
theorem ow96 {Z : State} {a0 : Array Value} (hw : ∀ d ∈ tables_1, d.before a0 Z = true) : (Jvm.Cond.castable "java/util/ArrayList" "java/util/List").before a0 Z = true := hw _ (List.mem_of_getElem? (i := 96) rfl)
theorem ow97 {Z : State} {a0 : Array Value} (hw : ∀ d ∈ tables_1, d.before a0 Z = true) : (Jvm.Cond.code ({ cls := "java/util/ArrayList", name := "get", desc := "(I)Ljava/lang/Object;" } : Jvm.MethodName) jdk_38_method_20_code (2 : Nat) (Option.some (Jvm.ClassFile.FieldType.object "java/lang/Object"))).before a0 Z = true := hw _ (List.mem_of_getElem? (i := 97) rfl)
theorem ow98 {Z : State} {a0 : Array Value} (hw : ∀ d ∈ tables_1, d.before a0 Z = true) : (Jvm.Cond.methodLink "java/util/ArrayList" (118 : Nat) ({ cls := "java/util/Objects", name := "checkIndex", desc := "(II)I" } : Jvm.MethodName)).before a0 Z = true := hw _ (List.mem_of_getElem? (i := 98) rfl)
theorem ow99 {Z : State} {a0 : Array Value} (hw : ∀ d ∈ tables_1, d.before a0 Z = true) : (Jvm.Cond.static ({ cls := "java/util/Objects", name := "checkIndex", desc := "(II)I" } : Jvm.MethodName)).before a0 Z = true := hw _ (List.mem_of_getElem? (i := 99) rfl)
theorem ow100 {Z : State} {a0 : Array Value} (hw : ∀ d ∈ tables_1, d.before a0 Z = true) : (Jvm.Cond.initialized "java/util/Objects").before a0 Z = true := hw _ (List.mem_of_getElem? (i := 100) rfl)
theorem ow101 {Z : State} {a0 : Array Value} (hw : ∀ d ∈ tables_1, d.before a0 Z = true) : (Jvm.Cond.code ({ cls := "java/util/Objects", name := "checkIndex", desc := "(II)I" } : Jvm.MethodName) jdk_31_method_17_code (2 : Nat) (Option.some Jvm.ClassFile.FieldType.int)).before a0 Z = true := hw _ (List.mem_of_getElem? (i := 101) rfl)
theorem ow102 {Z : State} {a0 : Array Value} (hw : ∀ d ∈ tables_1, d.before a0 Z = true) : (Jvm.Cond.methodLink "java/util/Objects" (105 : Nat) ({ cls := "jdk/internal/util/Preconditions", name := "checkIndex", desc := "(IILjava/util/function/BiFunction;)I" } : Jvm.MethodName)).before a0 Z = true := hw _ (List.mem_of_getElem? (i := 102) rfl)
theorem ow103 {Z : State} {a0 : Array Value} (hw : ∀ d ∈ tables_1, d.before a0 Z = true) : (Jvm.Cond.static ({ cls := "jdk/internal/util/Preconditions", name := "checkIndex", desc := "(IILjava/util/function/BiFunction;)I" } : Jvm.MethodName)).before a0 Z = true := hw _ (List.mem_of_getElem? (i := 103) rfl)
theorem ow104 {Z : State} {a0 : Array Value} (hw : ∀ d ∈ tables_1, d.before a0 Z = true) : (Jvm.Cond.initialized "jdk/internal/util/Preconditions").before a0 Z = true := hw _ (List.mem_of_getElem? (i := 104) rfl)
theorem ow105 {Z : State} {a0 : Array Value} (hw : ∀ d ∈ tables_1, d.before a0 Z = true) : (Jvm.Cond.code ({ cls := "jdk/internal/util/Preconditions", name := "checkIndex", desc := "(IILjava/util/function/BiFunction;)I" } : Jvm.MethodName) jdk_41_method_11_code (3 : Nat) (Option.some Jvm.ClassFile.FieldType.int)).before a0 Z = true := hw _ (List.mem_of_getElem? (i := 105) rfl)
theorem ow106 {Z : State} {a0 : Array Value} (hw : ∀ d ∈ tables_1, d.before a0 Z = true) : (Jvm.Cond.methodLink "java/util/ArrayList" (123 : Nat) ({ cls := "java/util/ArrayList", name := "elementData", desc := "(I)Ljava/lang/Object;" } : Jvm.MethodName)).before a0 Z = true := hw _ (List.mem_of_getElem? (i := 106) rfl)
theorem ow107 {Z : State} {a0 : Array Value} (hw : ∀ d ∈ tables_1, d.before a0 Z = true) : (Jvm.Cond.declares ({ cls := "java/util/ArrayList", name := "elementData", desc := "(I)Ljava/lang/Object;" } : Jvm.MethodName)).before a0 Z = true := hw _ (List.mem_of_getElem? (i := 107) rfl)
theorem ow108 {Z : State} {a0 : Array Value} (hw : ∀ d ∈ tables_1, d.before a0 Z = true) : (Jvm.Cond.instanceMethod ({ cls := "java/util/ArrayList", name := "elementData", desc := "(I)Ljava/lang/Object;" } : Jvm.MethodName)).before a0 Z = true := hw _ (List.mem_of_getElem? (i := 108) rfl)
theorem ow109 {Z : State} {a0 : Array Value} (hw : ∀ d ∈ tables_1, d.before a0 Z = true) : (Jvm.Cond.selects "java/util/ArrayList" ({ cls := "java/util/ArrayList", name := "elementData", desc := "(I)Ljava/lang/Object;" } : Jvm.MethodName) ({ cls := "java/util/ArrayList", name := "elementData", desc := "(I)Ljava/lang/Object;" } : Jvm.MethodName)).before a0 Z = true := hw _ (List.mem_of_getElem? (i := 109) rfl)
theorem ow110 {Z : State} {a0 : Array Value} (hw : ∀ d ∈ tables_1, d.before a0 Z = true) : (Jvm.Cond.code ({ cls := "java/util/ArrayList", name := "elementData", desc := "(I)Ljava/lang/Object;" } : Jvm.MethodName) jdk_38_method_18_code (2 : Nat) (Option.some (Jvm.ClassFile.FieldType.object "java/lang/Object"))).before a0 Z = true := hw _ (List.mem_of_getElem? (i := 110) rfl)
theorem ow111 {Z : State} {a0 : Array Value} (hw : ∀ d ∈ tables_1, d.before a0 Z = true) : (Jvm.Cond.classLink "com/example/hydromeme/hydromeme/Evaluation" (39 : Nat) "com/example/hydromeme/hydromeme/Network$Junction").before a0 Z = true := hw _ (List.mem_of_getElem? (i := 111) rfl)
theorem ow113 {Z : State} {a0 : Array Value} (hw : ∀ d ∈ tables_1, d.before a0 Z = true) : (Jvm.Cond.methodLink "com/example/hydromeme/hydromeme/Evaluation" (41 : Nat) ({ cls := "com/example/hydromeme/hydromeme/Network$Junction", name := "elevation", desc := "()D" } : Jvm.MethodName)).before a0 Z = true := hw _ (List.mem_of_getElem? (i := 113) rfl)
theorem ow114 {Z : State} {a0 : Array Value} (hw : ∀ d ∈ tables_1, d.before a0 Z = true) : (Jvm.Cond.declares ({ cls := "com/example/hydromeme/hydromeme/Network$Junction", name := "elevation", desc := "()D" } : Jvm.MethodName)).before a0 Z = true := hw _ (List.mem_of_getElem? (i := 114) rfl)
theorem ow115 {Z : State} {a0 : Array Value} (hw : ∀ d ∈ tables_1, d.before a0 Z = true) : (Jvm.Cond.instanceMethod ({ cls := "com/example/hydromeme/hydromeme/Network$Junction", name := "elevation", desc := "()D" } : Jvm.MethodName)).before a0 Z = true := hw _ (List.mem_of_getElem? (i := 115) rfl)
theorem ow116 {Z : State} {a0 : Array Value} (hw : ∀ d ∈ tables_1, d.before a0 Z = true) : (Jvm.Cond.selects "com/example/hydromeme/hydromeme/Network$Junction" ({ cls := "com/example/hydromeme/hydromeme/Network$Junction", name := "elevation", desc := "()D" } : Jvm.MethodName) ({ cls := "com/example/hydromeme/hydromeme/Network$Junction", name := "elevation", desc := "()D" } : Jvm.MethodName)).before a0 Z = true := hw _ (List.mem_of_getElem? (i := 116) rfl)
theorem ow117 {Z : State} {a0 : Array Value} (hw : ∀ d ∈ tables_1, d.before a0 Z = true) : (Jvm.Cond.code ({ cls := "com/example/hydromeme/hydromeme/Network$Junction", name := "elevation", desc := "()D" } : Jvm.MethodName) prog_35_method_6_code (1 : Nat) (Option.some Jvm.ClassFile.FieldType.double)).before a0 Z = true := hw _ (List.mem_of_getElem? (i := 117) rfl)
theorem ow118 {Z : State} {a0 : Array Value} (hw : ∀ d ∈ tables_1, d.before a0 Z = true) : (Jvm.Cond.methodLink "com/example/hydromeme/hydromeme/Evaluation" (45 : Nat) ({ cls := "java/lang/Math", name := "max", desc := "(DD)D" } : Jvm.MethodName)).before a0 Z = true := hw _ (List.mem_of_getElem? (i := 118) rfl)
theorem ow119 {Z : State} {a0 : Array Value} (hw : ∀ d ∈ tables_1, d.before a0 Z = true) : (Jvm.Cond.static ({ cls := "java/lang/Math", name := "max", desc := "(DD)D" } : Jvm.MethodName)).before a0 Z = true := hw _ (List.mem_of_getElem? (i := 119) rfl)
theorem ow120 {Z : State} {a0 : Array Value} (hw : ∀ d ∈ tables_1, d.before a0 Z = true) : (Jvm.Cond.code ({ cls := "java/lang/Math", name := "max", desc := "(DD)D" } : Jvm.MethodName) jdk_29_method_68_code (4 : Nat) (Option.some Jvm.ClassFile.FieldType.double)).before a0 Z = true := hw _ (List.mem_of_getElem? (i := 120) rfl)
theorem ow121 {Z : State} {a0 : Array Value} (hw : ∀ d ∈ tables_1, d.before a0 Z = true) : (Jvm.Cond.classLink "com/example/hydromeme/hydromeme/Evaluation" (8 : Nat) "com/example/hydromeme/hydromeme/Evaluation").before a0 Z = true := hw _ (List.mem_of_getElem? (i := 121) rfl)
theorem ow122 {Z : State} {a0 : Array Value} (hw : ∀ d ∈ tables_1, d.before a0 Z = true) : (Jvm.Cond.instantiable "com/example/hydromeme/hydromeme/Evaluation" (7 : Nat)).before a0 Z = true := hw _ (List.mem_of_getElem? (i := 122) rfl)
theorem ow123 {Z : State} {a0 : Array Value} (hw : ∀ d ∈ tables_1, d.before a0 Z = true) : (Jvm.Cond.methodLink "com/example/hydromeme/hydromeme/Evaluation" (51 : Nat) ({ cls := "com/example/hydromeme/hydromeme/Evaluation", name := "<init>", desc := "(D[D[D[D[DID)V" } : Jvm.MethodName)).before a0 Z = true := hw _ (List.mem_of_getElem? (i := 123) rfl)
theorem ow124 {Z : State} {a0 : Array Value} (hw : ∀ d ∈ tables_1, d.before a0 Z = true) : (Jvm.Cond.instanceMethod ({ cls := "com/example/hydromeme/hydromeme/Evaluation", name := "<init>", desc := "(D[D[D[D[DID)V" } : Jvm.MethodName)).before a0 Z = true := hw _ (List.mem_of_getElem? (i := 124) rfl)
theorem ow125 {Z : State} {a0 : Array Value} (hw : ∀ d ∈ tables_1, d.before a0 Z = true) : (Jvm.Cond.code ({ cls := "com/example/hydromeme/hydromeme/Evaluation", name := "<init>", desc := "(D[D[D[D[DID)V" } : Jvm.MethodName) prog_9_method_1_code (10 : Nat) (Option.none : Option Jvm.ClassFile.FieldType)).before a0 Z = true := hw _ (List.mem_of_getElem? (i := 125) rfl)
theorem ow126 {Z : State} {a0 : Array Value} (hw : ∀ d ∈ tables_1, d.before a0 Z = true) : (Jvm.Cond.methodLink "com/example/hydromeme/hydromeme/Evaluation" (1 : Nat) ({ cls := "java/lang/Record", name := "<init>", desc := "()V" } : Jvm.MethodName)).before a0 Z = true := hw _ (List.mem_of_getElem? (i := 126) rfl)
theorem ow127 {Z : State} {a0 : Array Value} (hw : ∀ d ∈ tables_1, d.before a0 Z = true) : (Jvm.Cond.fieldLink "com/example/hydromeme/hydromeme/Evaluation" (7 : Nat) "com/example/hydromeme/hydromeme/Evaluation" "cost" "D").before a0 Z = true := hw _ (List.mem_of_getElem? (i := 127) rfl)
theorem ow128 {Z : State} {a0 : Array Value} (hw : ∀ d ∈ tables_1, d.before a0 Z = true) : (Jvm.Cond.laysFinal "com/example/hydromeme/hydromeme/Evaluation" "com/example/hydromeme/hydromeme/Evaluation" "cost" "D").before a0 Z = true := hw _ (List.mem_of_getElem? (i := 128) rfl)
theorem ow129 {Z : State} {a0 : Array Value} (hw : ∀ d ∈ tables_1, d.before a0 Z = true) : (Jvm.Cond.fieldLink "com/example/hydromeme/hydromeme/Evaluation" (13 : Nat) "com/example/hydromeme/hydromeme/Evaluation" "heads" "[D").before a0 Z = true := hw _ (List.mem_of_getElem? (i := 129) rfl)
theorem ow130 {Z : State} {a0 : Array Value} (hw : ∀ d ∈ tables_1, d.before a0 Z = true) : (Jvm.Cond.laysFinal "com/example/hydromeme/hydromeme/Evaluation" "com/example/hydromeme/hydromeme/Evaluation" "heads" "[D").before a0 Z = true := hw _ (List.mem_of_getElem? (i := 130) rfl)
theorem ow131 {Z : State} {a0 : Array Value} (hw : ∀ d ∈ tables_1, d.before a0 Z = true) : (Jvm.Cond.fieldLink "com/example/hydromeme/hydromeme/Evaluation" (17 : Nat) "com/example/hydromeme/hydromeme/Evaluation" "pressures" "[D").before a0 Z = true := hw _ (List.mem_of_getElem? (i := 131) rfl)
theorem ow132 {Z : State} {a0 : Array Value} (hw : ∀ d ∈ tables_1, d.before a0 Z = true) : (Jvm.Cond.laysFinal "com/example/hydromeme/hydromeme/Evaluation" "com/example/hydromeme/hydromeme/Evaluation" "pressures" "[D").before a0 Z = true := hw _ (List.mem_of_getElem? (i := 132) rfl)
theorem ow133 {Z : State} {a0 : Array Value} (hw : ∀ d ∈ tables_1, d.before a0 Z = true) : (Jvm.Cond.fieldLink "com/example/hydromeme/hydromeme/Evaluation" (20 : Nat) "com/example/hydromeme/hydromeme/Evaluation" "margins" "[D").before a0 Z = true := hw _ (List.mem_of_getElem? (i := 133) rfl)
theorem ow134 {Z : State} {a0 : Array Value} (hw : ∀ d ∈ tables_1, d.before a0 Z = true) : (Jvm.Cond.laysFinal "com/example/hydromeme/hydromeme/Evaluation" "com/example/hydromeme/hydromeme/Evaluation" "margins" "[D").before a0 Z = true := hw _ (List.mem_of_getElem? (i := 134) rfl)
theorem ow135 {Z : State} {a0 : Array Value} (hw : ∀ d ∈ tables_1, d.before a0 Z = true) : (Jvm.Cond.fieldLink "com/example/hydromeme/hydromeme/Evaluation" (23 : Nat) "com/example/hydromeme/hydromeme/Evaluation" "flows" "[D").before a0 Z = true := hw _ (List.mem_of_getElem? (i := 135) rfl)
theorem ow136 {Z : State} {a0 : Array Value} (hw : ∀ d ∈ tables_1, d.before a0 Z = true) : (Jvm.Cond.laysFinal "com/example/hydromeme/hydromeme/Evaluation" "com/example/hydromeme/hydromeme/Evaluation" "flows" "[D").before a0 Z = true := hw _ (List.mem_of_getElem? (i := 136) rfl)
theorem ow137 {Z : State} {a0 : Array Value} (hw : ∀ d ∈ tables_1, d.before a0 Z = true) : (Jvm.Cond.fieldLink "com/example/hydromeme/hydromeme/Evaluation" (26 : Nat) "com/example/hydromeme/hydromeme/Evaluation" "critical" "I").before a0 Z = true := hw _ (List.mem_of_getElem? (i := 137) rfl)
theorem ow138 {Z : State} {a0 : Array Value} (hw : ∀ d ∈ tables_1, d.before a0 Z = true) : (Jvm.Cond.laysFinal "com/example/hydromeme/hydromeme/Evaluation" "com/example/hydromeme/hydromeme/Evaluation" "critical" "I").before a0 Z = true := hw _ (List.mem_of_getElem? (i := 138) rfl)
theorem ow139 {Z : State} {a0 : Array Value} (hw : ∀ d ∈ tables_1, d.before a0 Z = true) : (Jvm.Cond.fieldLink "com/example/hydromeme/hydromeme/Evaluation" (30 : Nat) "com/example/hydromeme/hydromeme/Evaluation" "deficit" "D").before a0 Z = true := hw _ (List.mem_of_getElem? (i := 139) rfl)
theorem ow140 {Z : State} {a0 : Array Value} (hw : ∀ d ∈ tables_1, d.before a0 Z = true) : (Jvm.Cond.laysFinal "com/example/hydromeme/hydromeme/Evaluation" "com/example/hydromeme/hydromeme/Evaluation" "deficit" "D").before a0 Z = true := hw _ (List.mem_of_getElem? (i := 140) rfl)
theorem ow141 {Z : State} {a0 : Array Value} (hw : ∀ d ∈ tables_1, d.before a0 Z = true) : (Jvm.Cond.methodLink "com/example/hydromeme/hydromeme/EvaluationFeasiblePinLaw" (29 : Nat) ({ cls := "com/example/hydromeme/hydromeme/Evaluation", name := "feasible", desc := "()Z" } : Jvm.MethodName)).before a0 Z = true := hw _ (List.mem_of_getElem? (i := 141) rfl)
theorem ow142 {Z : State} {a0 : Array Value} (hw : ∀ d ∈ tables_1, d.before a0 Z = true) : (Jvm.Cond.declares ({ cls := "com/example/hydromeme/hydromeme/Evaluation", name := "feasible", desc := "()Z" } : Jvm.MethodName)).before a0 Z = true := hw _ (List.mem_of_getElem? (i := 142) rfl)
theorem ow143 {Z : State} {a0 : Array Value} (hw : ∀ d ∈ tables_1, d.before a0 Z = true) : (Jvm.Cond.instanceMethod ({ cls := "com/example/hydromeme/hydromeme/Evaluation", name := "feasible", desc := "()Z" } : Jvm.MethodName)).before a0 Z = true := hw _ (List.mem_of_getElem? (i := 143) rfl)
theorem ow144 {Z : State} {a0 : Array Value} (hw : ∀ d ∈ tables_1, d.before a0 Z = true) : (Jvm.Cond.selects "com/example/hydromeme/hydromeme/Evaluation" ({ cls := "com/example/hydromeme/hydromeme/Evaluation", name := "feasible", desc := "()Z" } : Jvm.MethodName) ({ cls := "com/example/hydromeme/hydromeme/Evaluation", name := "feasible", desc := "()Z" } : Jvm.MethodName)).before a0 Z = true := hw _ (List.mem_of_getElem? (i := 144) rfl)
theorem ow145 {Z : State} {a0 : Array Value} (hw : ∀ d ∈ tables_1, d.before a0 Z = true) : (Jvm.Cond.code ({ cls := "com/example/hydromeme/hydromeme/Evaluation", name := "feasible", desc := "()Z" } : Jvm.MethodName) prog_9_method_4_code (1 : Nat) (Option.some Jvm.ClassFile.FieldType.boolean)).before a0 Z = true := hw _ (List.mem_of_getElem? (i := 145) rfl)
def own_EL : List (String × Nat) := []
theorem own_EW {Z : State} {a0 : Array Value} (hw : ∀ d ∈ tables_1, d.before a0 Z = true) : EW Z a0 own_EL := EW.nil
theorem own_sA {Z : State} {a0 : Array Value} (hw : ∀ d ∈ tables_1, d.before a0 Z = true) : ∀ a ∈ Bundle.stringAtoms, a.before a0 Z = true := by
  intro a ha
  simp only [Bundle.stringAtoms, List.mem_cons, List.not_mem_nil, or_false] at ha
  rcases ha with rfl | rfl | rfl | rfl | rfl | rfl | rfl
  · exact (ow31 hw)
  · exact (ow32 hw)
  · exact (ow33 hw)
  · exact (ow34 hw)
  · exact (ow35 hw)
  · exact (ow36 hw)
  · exact (ow37 hw)

def own_f (d : Int64) : Int32 := if d = 0 then 1 else 0
def own_def (a0 b0 c0 a1 b1 c1 : Int64) : Int64 := (((0 : Int64) + (own_mx ((a0 - b0) - c0))) + (own_mx ((a1 - b1) - c1)))
theorem own_rem (x : Int32) : -1000 < (x % (1000 : Int32)).toInt ∧ (x % (1000 : Int32)).toInt < 1000 := by
  rw [Int32.toInt_mod]
  have e : (1000 : Int32).toInt = 1000 := by decide
  rw [e]
  exact ⟨by have := Int.lt_tmod_of_pos x.toInt (show (0 : Int) < 1000 by decide); omega, Int.tmod_lt_of_pos _ (by decide)⟩
theorem own_bdI (x : Int32) : own_Bd 999 ((x % (1000 : Int32)).toInt64) := by
  have q := own_rem x
  unfold own_Bd; rw [Int32.toInt_toInt64]; omega
theorem own_sub3 {a b c : Int32} (ha : -1000 < a.toInt ∧ a.toInt < 1000) (hb : -1000 < b.toInt ∧ b.toInt < 1000) : (a - b).toInt = a.toInt - b.toInt := by
  rw [Int32.toInt_sub]; exact Int.bmod_eq_of_le (by omega) (by omega)
theorem own_g {a b c : Int32} (ha : -1000 < a.toInt ∧ a.toInt < 1000) (hb : -1000 < b.toInt ∧ b.toInt < 1000) (hc : -1000 < c.toInt ∧ c.toInt < 1000) : own_Bd 2997 ((a.toInt64 - b.toInt64) - c.toInt64) ∧ ((a.toInt64 - b.toInt64) - c.toInt64).toInt = a.toInt - b.toInt - c.toInt ∧ (a - b < c ↔ a.toInt - b.toInt - c.toInt < 0) := by
  have ba : own_Bd 999 a.toInt64 := by unfold own_Bd; rw [Int32.toInt_toInt64]; omega
  have bb : own_Bd 999 b.toInt64 := by unfold own_Bd; rw [Int32.toInt_toInt64]; omega
  have bc : own_Bd 999 c.toInt64 := by unfold own_Bd; rw [Int32.toInt_toInt64]; omega
  have b1 := own_bdS ba bb (by decide)
  have b2 := own_bdS b1 bc (by decide)
  have e1 := sub64 (ba.b (by decide)) (bb.b (by decide))
  have e2 := sub64 (b1.b (by decide)) (bc.b (by decide))
  rw [e1, Int32.toInt_toInt64, Int32.toInt_toInt64, Int32.toInt_toInt64] at e2
  refine ⟨b2, e2, ?_⟩
  rw [Int32.lt_iff_toInt_lt, own_sub3 (c := c) ha hb]; omega
theorem own_law {a0 b0 c0 a1 b1 c1 : Int32} (h1 : -1000 < a0.toInt ∧ a0.toInt < 1000) (h2 : -1000 < b0.toInt ∧ b0.toInt < 1000) (h3 : -1000 < c0.toInt ∧ c0.toInt < 1000) (h4 : -1000 < a1.toInt ∧ a1.toInt < 1000) (h5 : -1000 < b1.toInt ∧ b1.toInt < 1000) (h6 : -1000 < c1.toInt ∧ c1.toInt < 1000) :
    own_f (own_def a0.toInt64 b0.toInt64 c0.toInt64 a1.toInt64 b1.toInt64 c1.toInt64) = if a0 - b0 < c0 then 0 else if a1 - b1 < c1 then 0 else 1 := by
  obtain ⟨B0, e0, k0⟩ := own_g h1 h2 h3
  obtain ⟨B1, e1, k1⟩ := own_g h4 h5 h6
  have m0 := own_mxv B0 (by decide)
  have m1 := own_mxv B1 (by decide)
  have x0 := own_bdX B0 (by decide)
  have x1 := own_bdX B1 (by decide)
  have s0 := own_bdA own_bd0 x0 (by decide)
  have t0 := add64 (own_bd0.b (by decide)) (x0.b (by decide))
  have t1 := add64 (s0.b (by decide)) (x1.b (by decide))
  have z : (0 : Int64).toInt = 0 := by decide
  rw [t0, z, m0, m1, e0, e1] at t1
  have key : own_def a0.toInt64 b0.toInt64 c0.toInt64 a1.toInt64 b1.toInt64 c1.toInt64 = 0 ↔ ¬ (a0 - b0 < c0) ∧ ¬ (a1 - b1 < c1) := by
    rw [← Int64.toInt_inj, z]; unfold own_def; rw [t1, k0, k1]
    split <;> split <;> omega
  unfold own_f
  by_cases q0 : a0 - b0 < c0
  · rw [if_neg (fun w => (key.mp w).1 q0), if_pos q0]
  · by_cases q1 : a1 - b1 < c1
    · rw [if_neg (fun w => (key.mp w).2 q1), if_neg q0, if_pos q1]
    · rw [if_pos (key.mpr ⟨q0, q1⟩), if_neg q0, if_neg q1]
theorem own_lawR (x0 x1 x2 x3 x4 x5 : Int32) : own_f (own_def (x0 % (1000 : Int32)).toInt64 (x2 % (1000 : Int32)).toInt64 (x4 % (1000 : Int32)).toInt64 (x1 % (1000 : Int32)).toInt64 (x3 % (1000 : Int32)).toInt64 (x5 % (1000 : Int32)).toInt64) = if (x0 % (1000 : Int32)) - (x2 % (1000 : Int32)) < (x4 % (1000 : Int32)) then 0 else if (x1 % (1000 : Int32)) - (x3 % (1000 : Int32)) < (x5 % (1000 : Int32)) then 0 else 1 :=
  own_law (own_rem x0) (own_rem x2) (own_rem x4) (own_rem x1) (own_rem x3) (own_rem x5)

theorem pn0 : plainName "java/util/AbstractCollection" = true := by first | (simp [plainName, overriddenIn]; done) | decide +kernel
theorem d3_0 : decode jdk_22_method_1_code 0 = .ok (.aload_n 0, 1) := by decide +kernel
theorem d3_1 : decode jdk_22_method_1_code 1 = .ok (.invokespecial 1, 3) := by decide +kernel
theorem d3_4 : decode jdk_22_method_1_code 4 = .ok (.return_, 1) := by decide +kernel
theorem ef_rliabc (m : MethodId) (x0 : Addr) : entryFrame m #[(.ref x0)] 1 = mkF m 0 #[.val (.ref x0)] [] := by first | (simp [entryFrame, mkF, argsToLocals, Value.category]; done) | rfl
def Q_rliabc (Z : State) (a : Addr) (h0 : Heap) (n0 : Nat) (v : Option Value) (h : Heap) (L : List Loc) : Prop := v = none ∧ Fr n0 L ∧ h = h0
set_option maxRecDepth 65536 in
set_option maxHeartbeats 40000000 in
theorem rliabc (l : Launch) (Z : State) (a0 : Array Value) (hw : ∀ d ∈ tables_1, d.before a0 Z = true) (ws : List Jvm.Cond) (a : Addr) (h0 : Heap) (n0 : Nat) (Z0 : n0 ≤ h0.size)  :
    OCon l Z (⟨"java/util/AbstractCollection", "<init>", "()V"⟩ : MethodName) jdk_22_method_1_code 1 none ws ({ frames := 1, cells := 0, slots := 0, locals := 12 } : Room) #[(.ref a)] h0 (Q_rliabc Z a h0 n0) := by
  refine OCon.of (plainFor_of_name pn0) ?_
  intro p e s m below meth c s₁ Φ X0 hx hby hml hown hnm hret hlk hZ e0 hΦ
  have N0 := Fr.nil n0
  refine os (fun _ z => castTop (ef_rliabc m a) z) ?_
  show OG p e below Φ s₁ m 0 #[rv a] []
  refine os (fun _ z => XS.aloadN X0.here hx rfl (hb hby d3_0) rfl rfl z) ?_
  show OG p e below Φ s₁ m 1 #[rv a] [(.ref a)]
  obtain ⟨T1, X1, e1, st1⟩ := initO X0 hx hZ hown (ow19 hw) (ow20 hw) (ow21 hw) e0 (g := (mkF m 1 #[rv a] [(.ref a)])) rfl (by rw [hml]; rfl) rfl (hb hby d3_1) (by decide) (W := 0) (Nat.le_of_eq rfl) (by decide)
  refine os st1 ?_
  show OG p e below Φ T1 m 4 #[rv a] []
  refine OGo.fin X1 hlk (v := none) (fun _ => rfl) (by decide) (by decide) (fun fs hr => X1.returnOut hx hret (hb hby d3_4) hr) fun U eU hF => hΦ _ _ _ ?_ hF
  rw [eU, e1]
  show Q_rliabc Z a h0 n0 _ _ _
  exact ⟨rfl, N0, rfl⟩

theorem pn1 : plainName "java/util/AbstractList" = true := by first | (simp [plainName, overriddenIn]; done) | decide +kernel
theorem d2_0 : decode jdk_39_method_1_code 0 = .ok (.aload_n 0, 1) := by decide +kernel
theorem d2_1 : decode jdk_39_method_1_code 1 = .ok (.invokespecial 1, 3) := by decide +kernel
theorem pd0 : parseMethodDescriptor "()V" = some ⟨[], none⟩ := by decide +kernel
theorem d2_4 : decode jdk_39_method_1_code 4 = .ok (.aload_n 0, 1) := by decide +kernel
theorem d2_5 : decode jdk_39_method_1_code 5 = .ok (.iconst 0, 1) := by decide +kernel
theorem d2_6 : decode jdk_39_method_1_code 6 = .ok (.putfield 7, 3) := by decide +kernel
theorem d2_9 : decode jdk_39_method_1_code 9 = .ok (.return_, 1) := by decide +kernel
theorem ef_rliabl (m : MethodId) (x0 : Addr) : entryFrame m #[(.ref x0)] 1 = mkF m 0 #[.val (.ref x0)] [] := by first | (simp [entryFrame, mkF, argsToLocals, Value.category]; done) | rfl
def Q_rliabl (Z : State) (a : Addr) (h0 : Heap) (n0 : Nat) (v : Option Value) (h : Heap) (L : List Loc) : Prop := v = none ∧ Fr n0 L ∧ Keep h0 h [a] ∧ Exa Z h a "java/util/ArrayList" ∧ Fld Z h a "java/util/AbstractList" "modCount" "I" (.int (0 : Int32)) ∧ Fld Z h a "java/util/ArrayList" "size" "I" (.int (0 : Int32)) ∧ Fld Z h a "java/util/ArrayList" "elementData" "[Ljava/lang/Object;" .null
set_option maxRecDepth 65536 in
set_option maxHeartbeats 40000000 in
theorem rliabl (l : Launch) (Z : State) (a0 : Array Value) (hw : ∀ d ∈ tables_1, d.before a0 Z = true) (ws : List Jvm.Cond) (a : Addr) (h0 : Heap) (n0 : Nat) (Z0 : n0 ≤ h0.size) (E_a : Exa Z h0 a "java/util/ArrayList") (g_a : n0 ≤ a) (F_m : Fld Z h0 a "java/util/AbstractList" "modCount" "I" (.int (0 : Int32))) (F_s : Fld Z h0 a "java/util/ArrayList" "size" "I" (.int (0 : Int32))) (F_e : Fld Z h0 a "java/util/ArrayList" "elementData" "[Ljava/lang/Object;" .null) :
    OCon l Z (⟨"java/util/AbstractList", "<init>", "()V"⟩ : MethodName) jdk_39_method_1_code 1 none ws ({ frames := 2, cells := 0, slots := 0, locals := 24 } : Room) #[(.ref a)] h0 (Q_rliabl Z a h0 n0) := by
  refine OCon.of (plainFor_of_name pn1) ?_
  intro p e s m below meth c s₁ Φ X0 hx hby hml hown hnm hret hlk hZ e0 hΦ
  have N0 := Fr.nil n0
  refine os (fun _ z => castTop (ef_rliabl m a) z) ?_
  have K0 := Keep.refl h0 [a]
  show OG p e below Φ s₁ m 0 #[rv a] []
  refine os (fun _ z => XS.aloadN X0.here hx rfl (hb hby d2_0) rfl rfl z) ?_
  show OG p e below Φ s₁ m 1 #[rv a] [(.ref a)]
  obtain ⟨_, T1, L1, X1, hQ1, st1⟩ := own_callSp X0 hx hZ rfl hown (ow13 hw) (ow14 hw) (ow17 hw) (ow18 hw) (by decide) (rliabc l Z a0 hw [] a h0 n0 Z0 ) e0 (W := 0) (by decide) (by decide) (by decide) (by decide) (pc := 1) (ls := #[rv a]) (stk := [(.ref a)]) (by rw [hml]; rfl) (a := a) (argsL := []) (rest := []) (lenOf pd0 rfl) rfl rfl (Nat.le_of_eq rfl) (hb hby d2_1)
  obtain ⟨rfl, Nq1, e1⟩ := hQ1
  have N1 := Fr.app N0 Nq1
  refine os st1 ?_
  show OG p e below Φ T1 m 4 #[rv a] []
  refine os (fun _ z => XS.aloadN X1.here hx rfl (hb hby d2_4) rfl rfl z) ?_
  show OG p e below Φ T1 m 5 #[rv a] [(.ref a)]
  refine os (fun _ z => XS.iconst X1.here hx rfl (hb hby d2_5) z) ?_
  show OG p e below Φ T1 m 6 #[rv a] [(.int 0), (.ref a)]
  obtain ⟨T2, h2, X2, e2, W2, st2⟩ := putF X1 hx hZ hown (host := "") (Or.inl (ow22 hw)) Via.refl e1 F_m E_a (Or.inl (ow23 hw)) (ow2 hw) (ty := .int) (by decide) rfl rfl (g := (mkF m 6 #[rv a] [(.int 0), (.ref a)])) rfl rfl (hb hby d2_6)
  have F3 := E_a.wr W2
  have F4 := F_m.same W2
  have F5 := F_s.other W2 (Or.inr (slot_ne (Or.inl (ow61 hw)) (Or.inl (ow23 hw)) (by decide) (t := .int) (t' := .int) (by decide) (by decide)))
  have F6 := F_e.other W2 (Or.inr (slot_ne (Or.inl (ow26 hw)) (Or.inl (ow23 hw)) (by decide) (t := (.array (.object "java/lang/Object"))) (t' := .int) (by decide) (by decide)))
  have K2 := K0.wr W2 (Or.inl (List.mem_of_getElem? (i := 0) rfl))
  have N2 := Fr.snoc X2 N1 g_a
  have Zs2 : n0 ≤ h2.size := by rw [W2.size]; exact Z0
  refine os st2 ?_
  show OG p e below Φ T2 m 9 #[rv a] []
  refine OGo.fin X2 hlk (v := none) (fun _ => rfl) (by decide) (by decide) (fun fs hr => X2.returnOut hx hret (hb hby d2_9) hr) fun U eU hF => hΦ _ _ _ ?_ hF
  rw [eU, e2]
  show Q_rliabl Z a h0 n0 _ _ _
  exact ⟨rfl, N2, K2, F3, F4, F5, F6⟩

theorem pn2 : plainName "java/util/ArrayList" = true := by first | (simp [plainName, overriddenIn]; done) | decide +kernel
theorem d1_0 : decode jdk_38_method_2_code 0 = .ok (.aload_n 0, 1) := by decide +kernel
theorem d1_1 : decode jdk_38_method_2_code 1 = .ok (.invokespecial 1, 3) := by decide +kernel
theorem d1_4 : decode jdk_38_method_2_code 4 = .ok (.aload_n 0, 1) := by decide +kernel
theorem d1_5 : decode jdk_38_method_2_code 5 = .ok (.getstatic 39, 3) := by decide +kernel
theorem d1_8 : decode jdk_38_method_2_code 8 = .ok (.putfield 9, 3) := by decide +kernel
theorem d1_11 : decode jdk_38_method_2_code 11 = .ok (.return_, 1) := by decide +kernel
theorem ef_rliali (m : MethodId) (x0 : Addr) : entryFrame m #[(.ref x0)] 1 = mkF m 0 #[.val (.ref x0)] [] := by first | (simp [entryFrame, mkF, argsToLocals, Value.category]; done) | rfl
def Q_rliali (Z : State) (a : Addr) (dz : Addr) (h0 : Heap) (n0 : Nat) (v : Option Value) (h : Heap) (L : List Loc) : Prop := v = none ∧ Fr n0 L ∧ Keep h0 h [a] ∧ Exa Z h a "java/util/ArrayList" ∧ Fld Z h a "java/util/AbstractList" "modCount" "I" (.int (0 : Int32)) ∧ Fld Z h a "java/util/ArrayList" "size" "I" (.int (0 : Int32)) ∧ Fld Z h a "java/util/ArrayList" "elementData" "[Ljava/lang/Object;" (.ref dz)
set_option maxRecDepth 65536 in
set_option maxHeartbeats 40000000 in
theorem rliali (l : Launch) (Z : State) (a0 : Array Value) (hw : ∀ d ∈ tables_1, d.before a0 Z = true) (ws : List Jvm.Cond) (a : Addr) (dz : Addr) (h0 : Heap) (n0 : Nat) (Z0 : n0 ≤ h0.size) (E_a : Exa Z h0 a "java/util/ArrayList") (g_a : n0 ≤ a) (F_m : Fld Z h0 a "java/util/AbstractList" "modCount" "I" (.int (0 : Int32))) (F_s : Fld Z h0 a "java/util/ArrayList" "size" "I" (.int (0 : Int32))) (F_e : Fld Z h0 a "java/util/ArrayList" "elementData" "[Ljava/lang/Object;" .null) (O_0 : Old Z n0 h0) (S_d : Sta Z Z.heap "java/util/ArrayList" "DEFAULTCAPACITY_EMPTY_ELEMENTDATA" "[Ljava/lang/Object;" (.ref dz)) :
    OCon l Z (⟨"java/util/ArrayList", "<init>", "()V"⟩ : MethodName) jdk_38_method_2_code 1 none ws ({ frames := 3, cells := 0, slots := 0, locals := 36 } : Room) #[(.ref a)] h0 (Q_rliali Z a dz h0 n0) := by
  refine OCon.of (plainFor_of_name pn2) ?_
  intro p e s m below meth c s₁ Φ X0 hx hby hml hown hnm hret hlk hZ e0 hΦ
  have N0 := Fr.nil n0
  refine os (fun _ z => castTop (ef_rliali m a) z) ?_
  have K0 := Keep.refl h0 [a]
  show OG p e below Φ s₁ m 0 #[rv a] []
  refine os (fun _ z => XS.aloadN X0.here hx rfl (hb hby d1_0) rfl rfl z) ?_
  show OG p e below Φ s₁ m 1 #[rv a] [(.ref a)]
  obtain ⟨_, T1, L1, X1, hQ1, st1⟩ := own_callSp X0 hx hZ rfl hown (ow7 hw) (ow8 hw) (ow11 hw) (ow12 hw) (by decide) (rliabl l Z a0 hw [] a h0 n0 Z0 E_a g_a F_m F_s F_e) e0 (W := 0) (by decide) (by decide) (by decide) (by decide) (pc := 1) (ls := #[rv a]) (stk := [(.ref a)]) (by rw [hml]; rfl) (a := a) (argsL := []) (rest := []) (lenOf pd0 rfl) rfl rfl (Nat.le_of_eq rfl) (hb hby d1_1)
  obtain ⟨rfl, Nq1, Kq1, Eq1, Fm1, Fs1, Fe1⟩ := hQ1
  have N1 := Fr.app N0 Nq1
  have Zs1 : n0 ≤ T1.heap.size := Nat.le_trans Z0 Kq1.1
  have F2 := O_0.keep Kq1 (allS g_a all0)
  have K1 := K0.trans Kq1 (allS (Or.inl (List.mem_of_getElem? (i := 0) rfl)) all0)
  refine os st1 ?_
  show OG p e below Φ T1 m 4 #[rv a] []
  refine os (fun _ z => XS.aloadN X1.here hx rfl (hb hby d1_4) rfl rfl z) ?_
  show OG p e below Φ T1 m 5 #[rv a] [(.ref a)]
  have Sq := S_d.ext F2.2
  obtain ⟨T3, X3, e3, st3⟩ := getS2 X1 hx hZ hown (host := "") (Or.inl (ow24 hw)) Via.refl rfl Sq (g := (mkF m 5 #[rv a] [(.ref a)])) rfl (hb hby d1_5)
  refine os st3 ?_
  show OG p e below Φ T3 m 8 #[rv a] [(.ref dz), (.ref a)]
  obtain ⟨T4, h4, X4, e4, W4, st4⟩ := putF X3 hx hZ hown (host := "") (Or.inl (ow25 hw)) Via.refl e3 Fe1 Eq1 (Or.inl (ow26 hw)) (ow2 hw) (ty := (.array (.object "java/lang/Object"))) (by decide) rfl rfl (g := (mkF m 8 #[rv a] [(.ref dz), (.ref a)])) rfl rfl (hb hby d1_8)
  have F5 := F2.wr W4 g_a
  have F6 := Eq1.wr W4
  have F7 := Fm1.other W4 (Or.inr (slot_ne (Or.inl (ow23 hw)) (Or.inl (ow26 hw)) (by decide) (t := .int) (t' := (.array (.object "java/lang/Object"))) (by decide) (by decide)))
  have F8 := Fs1.other W4 (Or.inr (slot_ne (Or.inl (ow61 hw)) (Or.inl (ow26 hw)) (by decide) (t := .int) (t' := (.array (.object "java/lang/Object"))) (by decide) (by decide)))
  have F9 := Fe1.same W4
  have F10 := Sq.wr W4
  have K4 := K1.wr W4 (Or.inl (List.mem_of_getElem? (i := 0) rfl))
  have N4 := Fr.snoc X4 N1 g_a
  have Zs4 : n0 ≤ h4.size := by rw [W4.size]; exact Zs1
  refine os st4 ?_
  show OG p e below Φ T4 m 11 #[rv a] []
  refine OGo.fin X4 hlk (v := none) (fun _ => rfl) (by decide) (by decide) (fun fs hr => X4.returnOut hx hret (hb hby d1_11) hr) fun U eU hF => hΦ _ _ _ ?_ hF
  rw [eU, e4]
  show Q_rliali Z a dz h0 n0 _ _ _
  exact ⟨rfl, N4, K4, F6, F7, F8, F9⟩

theorem pf_rla0mx : plainFor (⟨"java/lang/Math", "max", "(II)I"⟩ : MethodName) = true := by decide +kernel
theorem d11_0 : decode jdk_29_method_65_code 0 = .ok (.iload_n 0, 1) := by decide +kernel
theorem d11_1 : decode jdk_29_method_65_code 1 = .ok (.iload_n 1, 1) := by decide +kernel
theorem d11_2 : decode jdk_29_method_65_code 2 = .ok (.if_icmp .lt 7, 3) := by decide +kernel
theorem d11_5 : decode jdk_29_method_65_code 5 = .ok (.iload_n 0, 1) := by decide +kernel
theorem d11_6 : decode jdk_29_method_65_code 6 = .ok (.goto 4, 3) := by decide +kernel
theorem d11_10 : decode jdk_29_method_65_code 10 = .ok (.ireturn, 1) := by decide +kernel
theorem ef_rla0mx (m : MethodId) (x0 : Int32) (x1 : Int32) : entryFrame m #[(.int x0), (.int x1)] 2 = mkF m 0 #[.val (.int x0), .val (.int x1)] [] := by first | (simp [entryFrame, mkF, argsToLocals, Value.category]; done) | rfl
def Q_rla0mx (Z : State)  (h0 : Heap) (n0 : Nat) (v : Option Value) (h : Heap) (L : List Loc) : Prop := v = some (.int (10 : Int32)) ∧ Fr n0 L ∧ h = h0
set_option maxRecDepth 65536 in
set_option maxHeartbeats 40000000 in
theorem rla0mx (l : Launch) (Z : State) (a0 : Array Value) (hw : ∀ d ∈ tables_1, d.before a0 Z = true) (ws : List Jvm.Cond)  (h0 : Heap) (n0 : Nat) (Z0 : n0 ≤ h0.size)  :
    OCon l Z (⟨"java/lang/Math", "max", "(II)I"⟩ : MethodName) jdk_29_method_65_code 2 (some .int) ws ({ frames := 0, cells := 0, slots := 0, locals := 0 } : Room) #[(.int (10 : Int32)), (.int (1 : Int32))] h0 (Q_rla0mx Z  h0 n0) := by
  refine OCon.of pf_rla0mx ?_
  intro p e s m below meth c s₁ Φ X0 hx hby hml hown hnm hret hlk hZ e0 hΦ
  have N0 := Fr.nil n0
  refine os (fun _ z => castTop (ef_rla0mx m (10 : Int32) (1 : Int32)) z) ?_
  show OG p e below Φ s₁ m 0 #[iv 10, iv 1] []
  refine os (fun _ z => XS.iloadN X0.here hx rfl (hb hby d11_0) rfl z) ?_
  show OG p e below Φ s₁ m 1 #[iv 10, iv 1] [(.int 10)]
  refine os (fun _ z => XS.iloadN X0.here hx rfl (hb hby d11_1) rfl z) ?_
  show OG p e below Φ s₁ m 2 #[iv 10, iv 1] [(.int 1), (.int 10)]
  refine os (fun _ z => XS.icmpNo X0.here hx rfl (hb hby d11_2) rfl (XT.ii_lt_f (by decide)) z) ?_
  show OG p e below Φ s₁ m 5 #[iv 10, iv 1] []
  refine os (fun _ z => XS.iloadN X0.here hx rfl (hb hby d11_5) rfl z) ?_
  show OG p e below Φ s₁ m 6 #[iv 10, iv 1] [(.int 10)]
  refine os (fun _ z => XS.goto X0.here hx rfl (pc0 := 6) (pc' := 10) rfl (hb hby d11_6) (by decide) (by decide) z) ?_
  show OG p e below Φ s₁ m 10 #[iv 10, iv 1] [(.int 10)]
  refine OGo.fin X0 hlk (v := (some (.int 10))) (fun h => by rw [hret] at h; cases h) (by decide) (by decide) (fun fs hr => X0.ireturnOut hx hret rfl (by simp) (hb hby d11_10) hr) fun U eU hF => hΦ _ _ _ ?_ hF
  rw [eU, e0]
  show Q_rla0mx Z  h0 n0 _ _ _
  exact ⟨rfl, N0, rfl⟩

theorem d10_0 : decode jdk_38_method_6_code 0 = .ok (.aload_n 0, 1) := by decide +kernel
theorem d10_1 : decode jdk_38_method_6_code 1 = .ok (.getfield 9, 3) := by decide +kernel
theorem d10_4 : decode jdk_38_method_6_code 4 = .ok (.arraylength, 1) := by decide +kernel
theorem d10_5 : decode jdk_38_method_6_code 5 = .ok (.istore_n 2, 1) := by decide +kernel
theorem d10_6 : decode jdk_38_method_6_code 6 = .ok (.iload_n 2, 1) := by decide +kernel
theorem d10_7 : decode jdk_38_method_6_code 7 = .ok (.ifCond .gt 13, 3) := by decide +kernel
theorem d10_10 : decode jdk_38_method_6_code 10 = .ok (.aload_n 0, 1) := by decide +kernel
theorem d10_11 : decode jdk_38_method_6_code 11 = .ok (.getfield 9, 3) := by decide +kernel
theorem d10_14 : decode jdk_38_method_6_code 14 = .ok (.getstatic 39, 3) := by decide +kernel
theorem d10_17 : decode jdk_38_method_6_code 17 = .ok (.if_acmp .eq 28, 3) := by decide +kernel
theorem d10_45 : decode jdk_38_method_6_code 45 = .ok (.aload_n 0, 1) := by decide +kernel
theorem d10_46 : decode jdk_38_method_6_code 46 = .ok (.bipush 10, 2) := by decide +kernel
theorem d10_48 : decode jdk_38_method_6_code 48 = .ok (.iload_n 1, 1) := by decide +kernel
theorem d10_49 : decode jdk_38_method_6_code 49 = .ok (.invokestatic 79, 3) := by decide +kernel
theorem pd1 : parseMethodDescriptor "(II)I" = some ⟨[.int, .int], some .int⟩ := by decide +kernel
theorem d10_52 : decode jdk_38_method_6_code 52 = .ok (.anewarray 7, 3) := by decide +kernel
theorem d10_55 : decode jdk_38_method_6_code 55 = .ok (.dup_x1, 1) := by decide +kernel
theorem d10_56 : decode jdk_38_method_6_code 56 = .ok (.putfield 9, 3) := by decide +kernel
theorem d10_59 : decode jdk_38_method_6_code 59 = .ok (.areturn, 1) := by decide +kernel
theorem ef_rla0gI (m : MethodId) (x0 : Addr) (x1 : Int32) : entryFrame m #[(.ref x0), (.int x1)] 4 = mkF m 0 #[.val (.ref x0), .val (.int x1), .unset, .unset] [] := by first | (simp [entryFrame, mkF, argsToLocals, Value.category]; done) | rfl
def Q_rla0gI (Z : State) (a : Addr) (mc : Int32) (dz : Addr) (cz : ClassId) (h0 : Heap) (n0 : Nat) (v : Option Value) (h : Heap) (L : List Loc) : Prop := ∃ b cb, v = some (.ref b) ∧ Fr n0 L ∧ Keep h0 h [a] ∧ Exa Z h a "java/util/ArrayList" ∧ Fld Z h a "java/util/AbstractList" "modCount" "I" (.int mc) ∧ Fld Z h a "java/util/ArrayList" "size" "I" (.int (0 : Int32)) ∧ Fld Z h a "java/util/ArrayList" "elementData" "[Ljava/lang/Object;" (.ref b) ∧ Arv Z h b cb (.object "java/lang/Object") (10 : Int32) [.null, .null, .null, .null, .null, .null, .null, .null, .null, .null] .null ∧ Exa Z h b "[Ljava/lang/Object;" ∧ Ovr Z cb "java/lang/Object" ∧ h0.size ≤ b
set_option maxRecDepth 65536 in
set_option maxHeartbeats 40000000 in
theorem rla0gI (l : Launch) (Z : State) (a0 : Array Value) (hw : ∀ d ∈ tables_1, d.before a0 Z = true) (ws : List Jvm.Cond) (a : Addr) (mc : Int32) (dz : Addr) (cz : ClassId) (h0 : Heap) (n0 : Nat) (Z0 : n0 ≤ h0.size) (E_a : Exa Z h0 a "java/util/ArrayList") (g_a : n0 ≤ a) (F_m : Fld Z h0 a "java/util/AbstractList" "modCount" "I" (.int mc)) (F_s : Fld Z h0 a "java/util/ArrayList" "size" "I" (.int (0 : Int32))) (F_e : Fld Z h0 a "java/util/ArrayList" "elementData" "[Ljava/lang/Object;" (.ref dz)) (V_z : Arv Z h0 dz cz (.object "java/lang/Object") (0 : Int32) [] .null) (n_z : dz ≠ a) (S_d : Sta Z h0 "java/util/ArrayList" "DEFAULTCAPACITY_EMPTY_ELEMENTDATA" "[Ljava/lang/Object;" (.ref dz)) :
    OCon l Z (⟨"java/util/ArrayList", "grow", "(I)[Ljava/lang/Object;"⟩ : MethodName) jdk_38_method_6_code 4 (some (.array (.object "java/lang/Object"))) ws ({ frames := 1, cells := 1, slots := 10, locals := 14 } : Room) #[(.ref a), (.int (1 : Int32))] h0 (Q_rla0gI Z a mc dz cz h0 n0) := by
  refine OCon.of (plainFor_of_name pn2) ?_
  intro p e s m below meth c s₁ Φ X0 hx hby hml hown hnm hret hlk hZ e0 hΦ
  have N0 := Fr.nil n0
  refine os (fun _ z => castTop (ef_rla0gI m a (1 : Int32)) z) ?_
  have K0 := Keep.refl h0 [a]
  show OG p e below Φ s₁ m 0 #[rv a, iv 1, .unset, .unset] []
  refine os (fun _ z => XS.aloadN X0.here hx rfl (hb hby d10_0) rfl rfl z) ?_
  show OG p e below Φ s₁ m 1 #[rv a, iv 1, .unset, .unset] [(.ref a)]
  obtain ⟨T1, X1, e1, st1⟩ := getF X0 hx hZ hown (host := "") (Or.inl (ow25 hw)) Via.refl e0 F_e (g := (mkF m 1 #[rv a, iv 1, .unset, .unset] [(.ref a)])) rfl rfl (hb hby d10_1)
  refine os st1 ?_
  show OG p e below Φ T1 m 4 #[rv a, iv 1, .unset, .unset] [(.ref dz)]
  obtain ⟨cl2, Aq2, -, S2, M2, -, -⟩ := id V_z
  refine os (fun _ z => X1.arraylength hx (by rw [e1]; exact Aq2.1) (oia hZ Aq2.2.1) (g := (mkF m 4 #[rv a, iv 1, .unset, .unset] [(.ref dz)])) rfl rfl (hb hby d10_4) _ z) ?_
  rw [len_of S2 M2]
  show OG p e below Φ T1 m 5 #[rv a, iv 1, .unset, .unset] [(.int 0)]
  refine os (fun _ z => XS.istoreN X1.here hx rfl (hb hby d10_5) rfl (l' := #[rv a, iv 1, iv 0, .unset]) rfl z) ?_
  show OG p e below Φ T1 m 6 #[rv a, iv 1, iv 0, .unset] []
  refine os (fun _ z => XS.iloadN X1.here hx rfl (hb hby d10_6) rfl z) ?_
  show OG p e below Φ T1 m 7 #[rv a, iv 1, iv 0, .unset] [(.int 0)]
  refine os (fun _ z => XS.ifNo X1.here hx rfl (hb hby d10_7) rfl (XT.i0_gt_f (by decide)) z) ?_
  show OG p e below Φ T1 m 10 #[rv a, iv 1, iv 0, .unset] []
  refine os (fun _ z => XS.aloadN X1.here hx rfl (hb hby d10_10) rfl rfl z) ?_
  show OG p e below Φ T1 m 11 #[rv a, iv 1, iv 0, .unset] [(.ref a)]
  obtain ⟨T3, X3, e3, st3⟩ := getF X1 hx hZ hown (host := "") (Or.inl (ow25 hw)) Via.refl e1 F_e (g := (mkF m 11 #[rv a, iv 1, iv 0, .unset] [(.ref a)])) rfl rfl (hb hby d10_11)
  refine os st3 ?_
  show OG p e below Φ T3 m 14 #[rv a, iv 1, iv 0, .unset] [(.ref dz)]
  obtain ⟨T4, X4, e4, st4⟩ := getS2 X3 hx hZ hown (host := "") (Or.inl (ow24 hw)) Via.refl e3 S_d (g := (mkF m 14 #[rv a, iv 1, iv 0, .unset] [(.ref dz)])) rfl (hb hby d10_14)
  refine os st4 ?_
  show OG p e below Φ T4 m 17 #[rv a, iv 1, iv 0, .unset] [(.ref dz), (.ref dz)]
  refine os (fun _ z => XT.acmpYes X4.here hx rfl (pc0 := 17) (pc' := 45) rfl (hb hby d10_17) rfl rfl rfl (XT.aa_eq_t rfl) (by decide) (by decide) z) ?_
  show OG p e below Φ T4 m 45 #[rv a, iv 1, iv 0, .unset] []
  refine os (fun _ z => XS.aloadN X4.here hx rfl (hb hby d10_45) rfl rfl z) ?_
  show OG p e below Φ T4 m 46 #[rv a, iv 1, iv 0, .unset] [(.ref a)]
  refine os (fun _ z => XS.bipush X4.here hx rfl (hb hby d10_46) z) ?_
  show OG p e below Φ T4 m 48 #[rv a, iv 1, iv 0, .unset] [(.int 10), (.ref a)]
  refine os (fun _ z => XS.iloadN X4.here hx rfl (hb hby d10_48) rfl z) ?_
  show OG p e below Φ T4 m 49 #[rv a, iv 1, iv 0, .unset] [(.int 1), (.int 10), (.ref a)]
  obtain ⟨_, T5, L5, X5, hQ5, st5⟩ := own_callSt X4 hx hZ hown (ow77 hw) (ow78 hw) (ow79 hw) (ow80 hw) (by decide) (rla0mx l Z a0 hw []  h0 n0 Z0 ) e4 (W := 1) (by decide) (by decide) (by decide) (by decide) (pc := 49) (ls := #[rv a, iv 1, iv 0, .unset]) (stk := [(.int 1), (.int 10), (.ref a)]) (by rw [hml]; rfl) (argsL := [(.int 10), (.int 1)]) (rest := [(.ref a)]) (lenOf pd1 rfl) rfl rfl (Nat.le_of_eq rfl) (hb hby d10_49)
  obtain ⟨rfl, Nq5, e5⟩ := hQ5
  have N5 := Fr.app N0 Nq5
  refine os st5 ?_
  show OG p e below Φ T5 m 52 #[rv a, iv 1, iv 0, .unset] [(.int 10), (.ref a)]
  obtain ⟨T6, h6, c6, X6, e6, E6, Ar6, Ex6, Ov6, st6⟩ := newRE X5 hx hZ hown (ow81 hw) (ow82 hw) e5 (g := (mkF m 52 #[rv a, iv 1, iv 0, .unset] [(.int 10), (.ref a)])) rfl (hb hby d10_52) rfl (by decide) (cap := 10) (by decide) (by decide) (by decide) (by decide) (ad := "[Ljava/lang/Object;") (by decide)
  obtain ⟨b6, g6⟩ : ∃ z, z = h0.size := ⟨_, rfl⟩
  rw [← g6] at Ar6 Ex6 st6
  have ne6_a : a ≠ b6 := by rw [g6]; exact Nat.ne_of_lt E_a.lt
  have ne6_dz : dz ≠ b6 := by rw [g6]; exact Nat.ne_of_lt V_z.lt
  have F7 := E_a.ext E6
  have F8 := F_m.ext E6
  have F9 := F_s.ext E6
  have F10 := F_e.ext E6
  have F11 := V_z.ext E6
  have F12 := S_d.ext E6
  have gb6 : n0 ≤ b6 := Nat.le_trans Z0 (Nat.le_of_eq g6.symm)
  have sz6 : h0.size ≤ b6 := Nat.le_trans K0.1 (Nat.le_of_eq g6.symm)
  have K6 := K0.ext E6
  have Zs6 : n0 ≤ h6.size := Nat.le_trans Z0 E6.1
  have V6 : Arv Z h6 b6 c6 (.object "java/lang/Object") (10 : Int32) [.null, .null, .null, .null, .null, .null, .null, .null, .null, .null] .null := (Arv.new Ar6 (by decide)).pad (pad_rep [] _ 10)
  refine os st6 ?_
  show OG p e below Φ T6 m 55 #[rv a, iv 1, iv 0, .unset] [(.ref b6), (.ref a)]
  refine os (fun _ z => XT.dupX1 X6.here hx rfl (hb hby d10_55) rfl rfl rfl z) ?_
  show OG p e below Φ T6 m 56 #[rv a, iv 1, iv 0, .unset] [(.ref b6), (.ref a), (.ref b6)]
  obtain ⟨T13, h13, X13, e13, W13, st13⟩ := putF X6 hx hZ hown (host := "") (Or.inl (ow25 hw)) Via.refl e6 F10 F7 (Or.inl (ow26 hw)) (ow2 hw) (ty := (.array (.object "java/lang/Object"))) (by decide) rfl rfl (g := (mkF m 56 #[rv a, iv 1, iv 0, .unset] [(.ref b6), (.ref a), (.ref b6)])) rfl rfl (hb hby d10_56)
  have F14 := F7.wr W13
  have F15 := F8.other W13 (Or.inr (slot_ne (Or.inl (ow23 hw)) (Or.inl (ow26 hw)) (by decide) (t := .int) (t' := (.array (.object "java/lang/Object"))) (by decide) (by decide)))
  have F16 := F9.other W13 (Or.inr (slot_ne (Or.inl (ow61 hw)) (Or.inl (ow26 hw)) (by decide) (t := .int) (t' := (.array (.object "java/lang/Object"))) (by decide) (by decide)))
  have F17 := F10.same W13
  have F18 := F11.other W13 n_z
  have F19 := F12.wr W13
  have F20 := V6.other W13 (Ne.symm ne6_a)
  have F21 := Ex6.wr W13
  have K13 := K6.wr W13 (Or.inl (List.mem_of_getElem? (i := 0) rfl))
  have N13 := Fr.snoc X13 N5 g_a
  have Zs13 : n0 ≤ h13.size := by rw [W13.size]; exact Zs6
  refine os st13 ?_
  show OG p e below Φ T13 m 59 #[rv a, iv 1, iv 0, .unset] [(.ref b6)]
  refine OGo.fin X13 hlk (v := (some (.ref b6))) (fun h => by rw [hret] at h; cases h) (by decide) (by decide) (fun fs hr => X13.areturnOut hx rfl hret rfl (hb hby d10_59) hr) fun U eU hF => hΦ _ _ _ ?_ hF
  rw [eU, e13]
  show Q_rla0gI Z a mc dz cz h0 n0 _ _ _
  exact ⟨_, _, rfl, N13, K13, F14, F15, F16, F17, F20, F21, Ov6, sz6⟩

theorem d9_0 : decode jdk_38_method_7_code 0 = .ok (.aload_n 0, 1) := by decide +kernel
theorem d9_1 : decode jdk_38_method_7_code 1 = .ok (.aload_n 0, 1) := by decide +kernel
theorem d9_2 : decode jdk_38_method_7_code 2 = .ok (.getfield 48, 3) := by decide +kernel
theorem d9_5 : decode jdk_38_method_7_code 5 = .ok (.iconst 1, 1) := by decide +kernel
theorem d9_6 : decode jdk_38_method_7_code 6 = .ok (.iadd, 1) := by decide +kernel
theorem d9_7 : decode jdk_38_method_7_code 7 = .ok (.invokevirtual 69, 3) := by decide +kernel
theorem pd2 : parseMethodDescriptor "(I)[Ljava/lang/Object;" = some ⟨[.int], some (.array (.object "java/lang/Object"))⟩ := by decide +kernel
theorem d9_10 : decode jdk_38_method_7_code 10 = .ok (.areturn, 1) := by decide +kernel
theorem ef_rla0g0 (m : MethodId) (x0 : Addr) : entryFrame m #[(.ref x0)] 1 = mkF m 0 #[.val (.ref x0)] [] := by first | (simp [entryFrame, mkF, argsToLocals, Value.category]; done) | rfl
def Q_rla0g0 (Z : State) (a : Addr) (mc : Int32) (dz : Addr) (cz : ClassId) (h0 : Heap) (n0 : Nat) (v : Option Value) (h : Heap) (L : List Loc) : Prop := ∃ b cb, v = some (.ref b) ∧ Fr n0 L ∧ Keep h0 h [a] ∧ Exa Z h a "java/util/ArrayList" ∧ Fld Z h a "java/util/AbstractList" "modCount" "I" (.int mc) ∧ Fld Z h a "java/util/ArrayList" "size" "I" (.int (0 : Int32)) ∧ Fld Z h a "java/util/ArrayList" "elementData" "[Ljava/lang/Object;" (.ref b) ∧ Arv Z h b cb (.object "java/lang/Object") (10 : Int32) [.null, .null, .null, .null, .null, .null, .null, .null, .null, .null] .null ∧ Exa Z h b "[Ljava/lang/Object;" ∧ Ovr Z cb "java/lang/Object" ∧ h0.size ≤ b
set_option maxRecDepth 65536 in
set_option maxHeartbeats 40000000 in
theorem rla0g0 (l : Launch) (Z : State) (a0 : Array Value) (hw : ∀ d ∈ tables_1, d.before a0 Z = true) (ws : List Jvm.Cond) (a : Addr) (mc : Int32) (dz : Addr) (cz : ClassId) (h0 : Heap) (n0 : Nat) (Z0 : n0 ≤ h0.size) (E_a : Exa Z h0 a "java/util/ArrayList") (g_a : n0 ≤ a) (F_m : Fld Z h0 a "java/util/AbstractList" "modCount" "I" (.int mc)) (F_s : Fld Z h0 a "java/util/ArrayList" "size" "I" (.int (0 : Int32))) (F_e : Fld Z h0 a "java/util/ArrayList" "elementData" "[Ljava/lang/Object;" (.ref dz)) (V_z : Arv Z h0 dz cz (.object "java/lang/Object") (0 : Int32) [] .null) (n_z : dz ≠ a) (S_d : Sta Z h0 "java/util/ArrayList" "DEFAULTCAPACITY_EMPTY_ELEMENTDATA" "[Ljava/lang/Object;" (.ref dz)) :
    OCon l Z (⟨"java/util/ArrayList", "grow", "()[Ljava/lang/Object;"⟩ : MethodName) jdk_38_method_7_code 1 (some (.array (.object "java/lang/Object"))) ws ({ frames := 2, cells := 1, slots := 10, locals := 29 } : Room) #[(.ref a)] h0 (Q_rla0g0 Z a mc dz cz h0 n0) := by
  refine OCon.of (plainFor_of_name pn2) ?_
  intro p e s m below meth c s₁ Φ X0 hx hby hml hown hnm hret hlk hZ e0 hΦ
  have N0 := Fr.nil n0
  refine os (fun _ z => castTop (ef_rla0g0 m a) z) ?_
  have K0 := Keep.refl h0 [a]
  show OG p e below Φ s₁ m 0 #[rv a] []
  refine os (fun _ z => XS.aloadN X0.here hx rfl (hb hby d9_0) rfl rfl z) ?_
  show OG p e below Φ s₁ m 1 #[rv a] [(.ref a)]
  refine os (fun _ z => XS.aloadN X0.here hx rfl (hb hby d9_1) rfl rfl z) ?_
  show OG p e below Φ s₁ m 2 #[rv a] [(.ref a), (.ref a)]
  obtain ⟨T1, X1, e1, st1⟩ := getF X0 hx hZ hown (host := "") (Or.inl (ow60 hw)) Via.refl e0 F_s (g := (mkF m 2 #[rv a] [(.ref a), (.ref a)])) rfl rfl (hb hby d9_2)
  refine os st1 ?_
  show OG p e below Φ T1 m 5 #[rv a] [(.int 0), (.ref a)]
  refine os (fun _ z => XS.iconst X1.here hx rfl (hb hby d9_5) z) ?_
  show OG p e below Φ T1 m 6 #[rv a] [(.int 1), (.int 0), (.ref a)]
  refine os (fun _ z => XS.iadd X1.here hx rfl (hb hby d9_6) rfl z) ?_
  show OG p e below Φ T1 m 7 #[rv a] [(.int 1), (.ref a)]
  obtain ⟨_, T2, L2, X2, hQ2, st2⟩ := own_callPr X1 hx hZ hown (ow72 hw) (ow73 hw) (ow75 hw) (ow74 hw) (ow3 hw) (ow76 hw) (by decide) (rla0gI l Z a0 hw [] a mc dz cz h0 n0 Z0 E_a g_a F_m F_s F_e V_z n_z S_d) e1 (W := 0) (by decide) (by decide) (by decide) (by decide) E_a (pc := 7) (ls := #[rv a]) (stk := [(.int 1), (.ref a)]) (by rw [hml]; rfl) (argsL := [(.int 1)]) (rest := []) (lenOf pd2 rfl) rfl rfl (Nat.le_of_eq rfl) (hb hby d9_7)
  obtain ⟨b2, cb2, rfl, Nq2, Kq2, Eq2, Fm2, Fs2, Fe2, Vq2, Ex2, Ov2, hz2⟩ := hQ2
  have nq2_a : a ≠ b2 := Nat.ne_of_lt (Nat.lt_of_lt_of_le E_a.lt hz2)
  have nq2_dz : dz ≠ b2 := Nat.ne_of_lt (Nat.lt_of_lt_of_le V_z.lt hz2)
  have gq2 : n0 ≤ b2 := Nat.le_trans Z0 hz2
  have sq2 : h0.size ≤ b2 := Nat.le_trans K0.1 hz2
  have N2 := Fr.app N0 Nq2
  have Zs2 : n0 ≤ T2.heap.size := Nat.le_trans Z0 Kq2.1
  have F3 := V_z.keep Kq2 (ninS n_z nin0)
  have K2 := K0.trans Kq2 (allS (Or.inl (List.mem_of_getElem? (i := 0) rfl)) all0)
  refine os st2 ?_
  show OG p e below Φ T2 m 10 #[rv a] [(.ref b2)]
  refine OGo.fin X2 hlk (v := (some (.ref b2))) (fun h => by rw [hret] at h; cases h) (by decide) (by decide) (fun fs hr => X2.areturnOut hx rfl hret rfl (hb hby d9_10) hr) fun U eU hF => hΦ _ _ _ ?_ hF
  rw [eU]
  show Q_rla0g0 Z a mc dz cz h0 n0 _ _ _
  exact ⟨_, _, rfl, N2, K2, Eq2, Fm2, Fs2, Fe2, Vq2, Ex2, Ov2, sq2⟩

theorem d8_0 : decode jdk_38_method_24_code 0 = .ok (.iload_n 3, 1) := by decide +kernel
theorem d8_1 : decode jdk_38_method_24_code 1 = .ok (.aload_n 2, 1) := by decide +kernel
theorem d8_2 : decode jdk_38_method_24_code 2 = .ok (.arraylength, 1) := by decide +kernel
theorem d8_3 : decode jdk_38_method_24_code 3 = .ok (.if_icmp .ne 8, 3) := by decide +kernel
theorem d8_6 : decode jdk_38_method_24_code 6 = .ok (.aload_n 0, 1) := by decide +kernel
theorem d8_7 : decode jdk_38_method_24_code 7 = .ok (.invokevirtual 129, 3) := by decide +kernel
theorem pd3 : parseMethodDescriptor "()[Ljava/lang/Object;" = some ⟨[], some (.array (.object "java/lang/Object"))⟩ := by decide +kernel
theorem d8_10 : decode jdk_38_method_24_code 10 = .ok (.astore_n 2, 1) := by decide +kernel
theorem d8_11 : decode jdk_38_method_24_code 11 = .ok (.aload_n 2, 1) := by decide +kernel
theorem d8_12 : decode jdk_38_method_24_code 12 = .ok (.iload_n 3, 1) := by decide +kernel
theorem d8_13 : decode jdk_38_method_24_code 13 = .ok (.aload_n 1, 1) := by decide +kernel
theorem d8_14 : decode jdk_38_method_24_code 14 = .ok (.aastore, 1) := by decide +kernel
theorem d8_15 : decode jdk_38_method_24_code 15 = .ok (.aload_n 0, 1) := by decide +kernel
theorem d8_16 : decode jdk_38_method_24_code 16 = .ok (.iload_n 3, 1) := by decide +kernel
theorem d8_17 : decode jdk_38_method_24_code 17 = .ok (.iconst 1, 1) := by decide +kernel
theorem d8_18 : decode jdk_38_method_24_code 18 = .ok (.iadd, 1) := by decide +kernel
theorem d8_19 : decode jdk_38_method_24_code 19 = .ok (.putfield 48, 3) := by decide +kernel
theorem d8_22 : decode jdk_38_method_24_code 22 = .ok (.return_, 1) := by decide +kernel
theorem ef_rla0a3 (m : MethodId) (x0 : Addr) (x1 : Addr) (x2 : Addr) (x3 : Int32) : entryFrame m #[(.ref x0), (.ref x1), (.ref x2), (.int x3)] 4 = mkF m 0 #[.val (.ref x0), .val (.ref x1), .val (.ref x2), .val (.int x3)] [] := by first | (simp [entryFrame, mkF, argsToLocals, Value.category]; done) | rfl
def Q_rla0a3 (Z : State) (a : Addr) (mc : Int32) (dz : Addr) (cz : ClassId) (y : Addr) (h0 : Heap) (n0 : Nat) (v : Option Value) (h : Heap) (L : List Loc) : Prop := v = none ∧ Fr n0 L ∧ Keep h0 h [a] ∧ Exa Z h a "java/util/ArrayList" ∧ Fld Z h a "java/util/AbstractList" "modCount" "I" (.int mc) ∧ Fld Z h a "java/util/ArrayList" "size" "I" (.int (1 : Int32)) ∧ ∃ b cb, Fld Z h a "java/util/ArrayList" "elementData" "[Ljava/lang/Object;" (.ref b) ∧ Arv Z h b cb (.object "java/lang/Object") (10 : Int32) [(.ref y), .null, .null, .null, .null, .null, .null, .null, .null, .null] .null ∧ Exa Z h b "[Ljava/lang/Object;" ∧ Ovr Z cb "java/lang/Object" ∧ h0.size ≤ b
set_option maxRecDepth 65536 in
set_option maxHeartbeats 40000000 in
theorem rla0a3 (l : Launch) (Z : State) (a0 : Array Value) (hw : ∀ d ∈ tables_1, d.before a0 Z = true) (ws : List Jvm.Cond) (a : Addr) (mc : Int32) (dz : Addr) (cz : ClassId) (y : Addr) (h0 : Heap) (n0 : Nat) (Z0 : n0 ≤ h0.size) (E_a : Exa Z h0 a "java/util/ArrayList") (g_a : n0 ≤ a) (F_m : Fld Z h0 a "java/util/AbstractList" "modCount" "I" (.int mc)) (F_s : Fld Z h0 a "java/util/ArrayList" "size" "I" (.int (0 : Int32))) (F_e : Fld Z h0 a "java/util/ArrayList" "elementData" "[Ljava/lang/Object;" (.ref dz)) (V_z : Arv Z h0 dz cz (.object "java/lang/Object") (0 : Int32) [] .null) (n_z : dz ≠ a) (S_d : Sta Z h0 "java/util/ArrayList" "DEFAULTCAPACITY_EMPTY_ELEMENTDATA" "[Ljava/lang/Object;" (.ref dz)) (E_y : Exa Z h0 y "com/example/hydromeme/hydromeme/Network$Junction") :
    OCon l Z (⟨"java/util/ArrayList", "add", "(Ljava/lang/Object;[Ljava/lang/Object;I)V"⟩ : MethodName) jdk_38_method_24_code 4 none ws ({ frames := 3, cells := 1, slots := 10, locals := 41 } : Room) #[(.ref a), (.ref y), (.ref dz), (.int (0 : Int32))] h0 (Q_rla0a3 Z a mc dz cz y h0 n0) := by
  refine OCon.of (plainFor_of_name pn2) ?_
  intro p e s m below meth c s₁ Φ X0 hx hby hml hown hnm hret hlk hZ e0 hΦ
  have N0 := Fr.nil n0
  refine os (fun _ z => castTop (ef_rla0a3 m a y dz (0 : Int32)) z) ?_
  have K0 := Keep.refl h0 [a]
  show OG p e below Φ s₁ m 0 #[rv a, rv y, rv dz, iv 0] []
  refine os (fun _ z => XS.iloadN X0.here hx rfl (hb hby d8_0) rfl z) ?_
  show OG p e below Φ s₁ m 1 #[rv a, rv y, rv dz, iv 0] [(.int 0)]
  refine os (fun _ z => XS.aloadN X0.here hx rfl (hb hby d8_1) rfl rfl z) ?_
  show OG p e below Φ s₁ m 2 #[rv a, rv y, rv dz, iv 0] [(.ref dz), (.int 0)]
  obtain ⟨cl1, Aq1, -, S1, M1, -, -⟩ := id V_z
  refine os (fun _ z => X0.arraylength hx (by rw [e0]; exact Aq1.1) (oia hZ Aq1.2.1) (g := (mkF m 2 #[rv a, rv y, rv dz, iv 0] [(.ref dz), (.int 0)])) rfl rfl (hb hby d8_2) _ z) ?_
  rw [len_of S1 M1]
  show OG p e below Φ s₁ m 3 #[rv a, rv y, rv dz, iv 0] [(.int 0), (.int 0)]
  refine os (fun _ z => XS.icmpNo X0.here hx rfl (hb hby d8_3) rfl (XT.ii_ne_f (by decide)) z) ?_
  show OG p e below Φ s₁ m 6 #[rv a, rv y, rv dz, iv 0] []
  refine os (fun _ z => XS.aloadN X0.here hx rfl (hb hby d8_6) rfl rfl z) ?_
  show OG p e below Φ s₁ m 7 #[rv a, rv y, rv dz, iv 0] [(.ref a)]
  obtain ⟨_, T2, L2, X2, hQ2, st2⟩ := own_callPr X0 hx hZ hown (ow67 hw) (ow68 hw) (ow70 hw) (ow69 hw) (ow3 hw) (ow71 hw) (by decide) (rla0g0 l Z a0 hw [] a mc dz cz h0 n0 Z0 E_a g_a F_m F_s F_e V_z n_z S_d) e0 (W := 0) (by decide) (by decide) (by decide) (by decide) E_a (pc := 7) (ls := #[rv a, rv y, rv dz, iv 0]) (stk := [(.ref a)]) (by rw [hml]; rfl) (argsL := []) (rest := []) (lenOf pd3 rfl) rfl rfl (Nat.le_of_eq rfl) (hb hby d8_7)
  obtain ⟨b2, cb2, rfl, Nq2, Kq2, Eq2, Fm2, Fs2, Fe2, Vq2, Ex2, Ov2, hz2⟩ := hQ2
  have nq2_a : a ≠ b2 := Nat.ne_of_lt (Nat.lt_of_lt_of_le E_a.lt hz2)
  have nq2_dz : dz ≠ b2 := Nat.ne_of_lt (Nat.lt_of_lt_of_le V_z.lt hz2)
  have nq2_y : y ≠ b2 := Nat.ne_of_lt (Nat.lt_of_lt_of_le E_y.lt hz2)
  have gq2 : n0 ≤ b2 := Nat.le_trans Z0 hz2
  have sq2 : h0.size ≤ b2 := Nat.le_trans K0.1 hz2
  have N2 := Fr.app N0 Nq2
  have Zs2 : n0 ≤ T2.heap.size := Nat.le_trans Z0 Kq2.1
  have F3 := V_z.keep Kq2 (ninS n_z nin0)
  have F4 := E_y.keep Kq2
  have K2 := K0.trans Kq2 (allS (Or.inl (List.mem_of_getElem? (i := 0) rfl)) all0)
  refine os st2 ?_
  show OG p e below Φ T2 m 10 #[rv a, rv y, rv dz, iv 0] [(.ref b2)]
  refine os (fun _ z => XS.astoreN X2.here hx rfl (hb hby d8_10) rfl rfl (l' := #[rv a, rv y, rv b2, iv 0]) rfl z) ?_
  show OG p e below Φ T2 m 11 #[rv a, rv y, rv b2, iv 0] []
  refine os (fun _ z => XS.aloadN X2.here hx rfl (hb hby d8_11) rfl rfl z) ?_
  show OG p e below Φ T2 m 12 #[rv a, rv y, rv b2, iv 0] [(.ref b2)]
  refine os (fun _ z => XS.iloadN X2.here hx rfl (hb hby d8_12) rfl z) ?_
  show OG p e below Φ T2 m 13 #[rv a, rv y, rv b2, iv 0] [(.int 0), (.ref b2)]
  refine os (fun _ z => XS.aloadN X2.here hx rfl (hb hby d8_13) rfl rfl z) ?_
  show OG p e below Φ T2 m 14 #[rv a, rv y, rv b2, iv 0] [(.ref y), (.int 0), (.ref b2)]
  obtain ⟨cl5, Aq5, Cq5, S5, M5, H5, G5⟩ := id Vq2
  have in5 : ¬ ((0 : Int32) < 0 ∨ cl5.slots.size ≤ (0 : Int32).toNatClampNeg) := inb_of S5 ⟨by decide, by decide⟩
  obtain ⟨T5, h5, X5, e5, W5, st5⟩ := stR X2 hx hZ rfl Aq5 in5 rfl (Sto.ofV Aq5 Cq5 Ov2 (Ins.of_exa F4 (ow83 hw))) (g := (mkF m 14 #[rv a, rv y, rv b2, iv 0] [(.ref y), (.int 0), (.ref b2)])) rfl rfl (hb hby d8_14)
  have F6 := F3.other W5 nq2_dz
  have F7 := F4.wr W5
  have F8 := Eq2.wr W5
  have F9 := Fm2.other W5 (Or.inl nq2_a)
  have F10 := Fs2.other W5 (Or.inl nq2_a)
  have F11 := Fe2.other W5 (Or.inl nq2_a)
  have F12 := Ex2.wr W5
  have V5 : Arv Z h5 b2 cb2 (.object "java/lang/Object") (10 : Int32) [(.ref y), .null, .null, .null, .null, .null, .null, .null, .null, .null] .null := Arv.set Aq5 Cq5 S5 M5 H5 G5 rfl W5 0 (by decide) (by show 0 < 10; decide)
  have K5 := K2.wr W5 (Or.inr sq2)
  have N5 := Fr.snoc X5 N2 gq2
  have Zs5 : n0 ≤ h5.size := by rw [W5.size]; exact Zs2
  refine os st5 ?_
  show OG p e below Φ T5 m 15 #[rv a, rv y, rv b2, iv 0] []
  refine os (fun _ z => XS.aloadN X5.here hx rfl (hb hby d8_15) rfl rfl z) ?_
  show OG p e below Φ T5 m 16 #[rv a, rv y, rv b2, iv 0] [(.ref a)]
  refine os (fun _ z => XS.iloadN X5.here hx rfl (hb hby d8_16) rfl z) ?_
  show OG p e below Φ T5 m 17 #[rv a, rv y, rv b2, iv 0] [(.int 0), (.ref a)]
  refine os (fun _ z => XS.iconst X5.here hx rfl (hb hby d8_17) z) ?_
  show OG p e below Φ T5 m 18 #[rv a, rv y, rv b2, iv 0] [(.int 1), (.int 0), (.ref a)]
  refine os (fun _ z => XS.iadd X5.here hx rfl (hb hby d8_18) rfl z) ?_
  show OG p e below Φ T5 m 19 #[rv a, rv y, rv b2, iv 0] [(.int 1), (.ref a)]
  obtain ⟨T13, h13, X13, e13, W13, st13⟩ := putF X5 hx hZ hown (host := "") (Or.inl (ow60 hw)) Via.refl e5 F10 F8 (Or.inl (ow61 hw)) (ow2 hw) (ty := .int) (by decide) rfl rfl (g := (mkF m 19 #[rv a, rv y, rv b2, iv 0] [(.int 1), (.ref a)])) rfl rfl (hb hby d8_19)
  have F14 := F6.other W13 n_z
  have F15 := F7.wr W13
  have F16 := F8.wr W13
  have F17 := F9.other W13 (Or.inr (slot_ne (Or.inl (ow23 hw)) (Or.inl (ow61 hw)) (by decide) (t := .int) (t' := .int) (by decide) (by decide)))
  have F18 := F10.same W13
  have F19 := F11.other W13 (Or.inr (slot_ne (Or.inl (ow26 hw)) (Or.inl (ow61 hw)) (by decide) (t := (.array (.object "java/lang/Object"))) (t' := .int) (by decide) (by decide)))
  have F20 := F12.wr W13
  have F21 := V5.other W13 (Ne.symm nq2_a)
  have K13 := K5.wr W13 (Or.inl (List.mem_of_getElem? (i := 0) rfl))
  have N13 := Fr.snoc X13 N5 g_a
  have Zs13 : n0 ≤ h13.size := by rw [W13.size]; exact Zs5
  refine os st13 ?_
  show OG p e below Φ T13 m 22 #[rv a, rv y, rv b2, iv 0] []
  refine OGo.fin X13 hlk (v := none) (fun _ => rfl) (by decide) (by decide) (fun fs hr => X13.returnOut hx hret (hb hby d8_22) hr) fun U eU hF => hΦ _ _ _ ?_ hF
  rw [eU, e13]
  show Q_rla0a3 Z a mc dz cz y h0 n0 _ _ _
  exact ⟨rfl, N13, K13, F16, F17, F18, _, _, F19, F21, F20, Ov2, sq2⟩

theorem d7_0 : decode jdk_38_method_25_code 0 = .ok (.aload_n 0, 1) := by decide +kernel
theorem d7_1 : decode jdk_38_method_25_code 1 = .ok (.dup, 1) := by decide +kernel
theorem d7_2 : decode jdk_38_method_25_code 2 = .ok (.getfield 63, 3) := by decide +kernel
theorem d7_5 : decode jdk_38_method_25_code 5 = .ok (.iconst 1, 1) := by decide +kernel
theorem d7_6 : decode jdk_38_method_25_code 6 = .ok (.iadd, 1) := by decide +kernel
theorem d7_7 : decode jdk_38_method_25_code 7 = .ok (.putfield 63, 3) := by decide +kernel
theorem d7_10 : decode jdk_38_method_25_code 10 = .ok (.aload_n 0, 1) := by decide +kernel
theorem d7_11 : decode jdk_38_method_25_code 11 = .ok (.aload_n 1, 1) := by decide +kernel
theorem d7_12 : decode jdk_38_method_25_code 12 = .ok (.aload_n 0, 1) := by decide +kernel
theorem d7_13 : decode jdk_38_method_25_code 13 = .ok (.getfield 9, 3) := by decide +kernel
theorem d7_16 : decode jdk_38_method_25_code 16 = .ok (.aload_n 0, 1) := by decide +kernel
theorem d7_17 : decode jdk_38_method_25_code 17 = .ok (.getfield 48, 3) := by decide +kernel
theorem d7_20 : decode jdk_38_method_25_code 20 = .ok (.invokevirtual 131, 3) := by decide +kernel
theorem pd4 : parseMethodDescriptor "(Ljava/lang/Object;[Ljava/lang/Object;I)V" = some ⟨[(.object "java/lang/Object"), (.array (.object "java/lang/Object")), .int], none⟩ := by decide +kernel
theorem d7_23 : decode jdk_38_method_25_code 23 = .ok (.iconst 1, 1) := by decide +kernel
theorem d7_24 : decode jdk_38_method_25_code 24 = .ok (.ireturn, 1) := by decide +kernel
theorem ef_rla0a1 (m : MethodId) (x0 : Addr) (x1 : Addr) : entryFrame m #[(.ref x0), (.ref x1)] 2 = mkF m 0 #[.val (.ref x0), .val (.ref x1)] [] := by first | (simp [entryFrame, mkF, argsToLocals, Value.category]; done) | rfl
def Q_rla0a1 (Z : State) (a : Addr) (mc : Int32) (dz : Addr) (cz : ClassId) (y : Addr) (h0 : Heap) (n0 : Nat) (v : Option Value) (h : Heap) (L : List Loc) : Prop := v = some (.int (1 : Int32)) ∧ Fr n0 L ∧ Keep h0 h [a] ∧ Exa Z h a "java/util/ArrayList" ∧ Fld Z h a "java/util/AbstractList" "modCount" "I" (.int (mc + (1 : Int32))) ∧ Fld Z h a "java/util/ArrayList" "size" "I" (.int (1 : Int32)) ∧ ∃ b cb, Fld Z h a "java/util/ArrayList" "elementData" "[Ljava/lang/Object;" (.ref b) ∧ Arv Z h b cb (.object "java/lang/Object") (10 : Int32) [(.ref y), .null, .null, .null, .null, .null, .null, .null, .null, .null] .null ∧ Exa Z h b "[Ljava/lang/Object;" ∧ Ovr Z cb "java/lang/Object" ∧ h0.size ≤ b
set_option maxRecDepth 65536 in
set_option maxHeartbeats 40000000 in
theorem rla0a1 (l : Launch) (Z : State) (a0 : Array Value) (hw : ∀ d ∈ tables_1, d.before a0 Z = true) (ws : List Jvm.Cond) (a : Addr) (mc : Int32) (dz : Addr) (cz : ClassId) (y : Addr) (h0 : Heap) (n0 : Nat) (Z0 : n0 ≤ h0.size) (E_a : Exa Z h0 a "java/util/ArrayList") (g_a : n0 ≤ a) (F_m : Fld Z h0 a "java/util/AbstractList" "modCount" "I" (.int mc)) (F_s : Fld Z h0 a "java/util/ArrayList" "size" "I" (.int (0 : Int32))) (F_e : Fld Z h0 a "java/util/ArrayList" "elementData" "[Ljava/lang/Object;" (.ref dz)) (V_z : Arv Z h0 dz cz (.object "java/lang/Object") (0 : Int32) [] .null) (n_z : dz ≠ a) (S_d : Sta Z h0 "java/util/ArrayList" "DEFAULTCAPACITY_EMPTY_ELEMENTDATA" "[Ljava/lang/Object;" (.ref dz)) (E_y : Exa Z h0 y "com/example/hydromeme/hydromeme/Network$Junction") :
    OCon l Z (⟨"java/util/ArrayList", "add", "(Ljava/lang/Object;)Z"⟩ : MethodName) jdk_38_method_25_code 2 (some .boolean) ws ({ frames := 4, cells := 1, slots := 10, locals := 56 } : Room) #[(.ref a), (.ref y)] h0 (Q_rla0a1 Z a mc dz cz y h0 n0) := by
  refine OCon.of (plainFor_of_name pn2) ?_
  intro p e s m below meth c s₁ Φ X0 hx hby hml hown hnm hret hlk hZ e0 hΦ
  have N0 := Fr.nil n0
  refine os (fun _ z => castTop (ef_rla0a1 m a y) z) ?_
  have K0 := Keep.refl h0 [a]
  show OG p e below Φ s₁ m 0 #[rv a, rv y] []
  refine os (fun _ z => XS.aloadN X0.here hx rfl (hb hby d7_0) rfl rfl z) ?_
  show OG p e below Φ s₁ m 1 #[rv a, rv y] [(.ref a)]
  refine os (fun _ z => XS.dup X0.here hx rfl (hb hby d7_1) rfl rfl z) ?_
  show OG p e below Φ s₁ m 2 #[rv a, rv y] [(.ref a), (.ref a)]
  obtain ⟨T1, X1, e1, st1⟩ := getF X0 hx hZ hown (host := "") (Or.inl (ow58 hw)) (Via.of (ow59 hw)) e0 F_m (g := (mkF m 2 #[rv a, rv y] [(.ref a), (.ref a)])) rfl rfl (hb hby d7_2)
  refine os st1 ?_
  show OG p e below Φ T1 m 5 #[rv a, rv y] [(.int mc), (.ref a)]
  refine os (fun _ z => XS.iconst X1.here hx rfl (hb hby d7_5) z) ?_
  show OG p e below Φ T1 m 6 #[rv a, rv y] [(.int 1), (.int mc), (.ref a)]
  refine os (fun _ z => XS.iadd X1.here hx rfl (hb hby d7_6) rfl z) ?_
  show OG p e below Φ T1 m 7 #[rv a, rv y] [(.int (mc + (1 : Int32))), (.ref a)]
  obtain ⟨T2, h2, X2, e2, W2, st2⟩ := putF X1 hx hZ hown (host := "") (Or.inl (ow58 hw)) (Via.of (ow59 hw)) e1 F_m E_a (Or.inl (ow23 hw)) (ow2 hw) (ty := .int) (by decide) rfl rfl (g := (mkF m 7 #[rv a, rv y] [(.int (mc + (1 : Int32))), (.ref a)])) rfl rfl (hb hby d7_7)
  have F3 := E_a.wr W2
  have F4 := F_m.same W2
  have F5 := F_s.other W2 (Or.inr (slot_ne (Or.inl (ow61 hw)) (Or.inl (ow23 hw)) (by decide) (t := .int) (t' := .int) (by decide) (by decide)))
  have F6 := F_e.other W2 (Or.inr (slot_ne (Or.inl (ow26 hw)) (Or.inl (ow23 hw)) (by decide) (t := (.array (.object "java/lang/Object"))) (t' := .int) (by decide) (by decide)))
  have F7 := V_z.other W2 n_z
  have F8 := S_d.wr W2
  have F9 := E_y.wr W2
  have K2 := K0.wr W2 (Or.inl (List.mem_of_getElem? (i := 0) rfl))
  have N2 := Fr.snoc X2 N0 g_a
  have Zs2 : n0 ≤ h2.size := by rw [W2.size]; exact Z0
  refine os st2 ?_
  show OG p e below Φ T2 m 10 #[rv a, rv y] []
  refine os (fun _ z => XS.aloadN X2.here hx rfl (hb hby d7_10) rfl rfl z) ?_
  show OG p e below Φ T2 m 11 #[rv a, rv y] [(.ref a)]
  refine os (fun _ z => XS.aloadN X2.here hx rfl (hb hby d7_11) rfl rfl z) ?_
  show OG p e below Φ T2 m 12 #[rv a, rv y] [(.ref y), (.ref a)]
  refine os (fun _ z => XS.aloadN X2.here hx rfl (hb hby d7_12) rfl rfl z) ?_
  show OG p e below Φ T2 m 13 #[rv a, rv y] [(.ref a), (.ref y), (.ref a)]
  obtain ⟨T10, X10, e10, st10⟩ := getF X2 hx hZ hown (host := "") (Or.inl (ow25 hw)) Via.refl e2 F6 (g := (mkF m 13 #[rv a, rv y] [(.ref a), (.ref y), (.ref a)])) rfl rfl (hb hby d7_13)
  refine os st10 ?_
  show OG p e below Φ T10 m 16 #[rv a, rv y] [(.ref dz), (.ref y), (.ref a)]
  refine os (fun _ z => XS.aloadN X10.here hx rfl (hb hby d7_16) rfl rfl z) ?_
  show OG p e below Φ T10 m 17 #[rv a, rv y] [(.ref a), (.ref dz), (.ref y), (.ref a)]
  obtain ⟨T11, X11, e11, st11⟩ := getF X10 hx hZ hown (host := "") (Or.inl (ow60 hw)) Via.refl e10 F5 (g := (mkF m 17 #[rv a, rv y] [(.ref a), (.ref dz), (.ref y), (.ref a)])) rfl rfl (hb hby d7_17)
  refine os st11 ?_
  show OG p e below Φ T11 m 20 #[rv a, rv y] [(.int 0), (.ref dz), (.ref y), (.ref a)]
  obtain ⟨_, T12, L12, X12, hQ12, st12⟩ := own_callPr X11 hx hZ hown (ow62 hw) (ow63 hw) (ow65 hw) (ow64 hw) (ow3 hw) (ow66 hw) (by decide) (rla0a3 l Z a0 hw [] a (mc + (1 : Int32)) dz cz y h2 n0 Zs2 F3 g_a F4 F5 F6 F7 n_z F8 F9) e11 (W := 0) (by decide) (by decide) (by decide) (by decide) F3 (pc := 20) (ls := #[rv a, rv y]) (stk := [(.int 0), (.ref dz), (.ref y), (.ref a)]) (by rw [hml]; rfl) (argsL := [(.ref y), (.ref dz), (.int 0)]) (rest := []) (lenOf pd4 rfl) rfl rfl (Nat.le_of_eq rfl) (hb hby d7_20)
  obtain ⟨rfl, Nq12, Kq12, Eq12, Fm12, Fs12, b12, cb12, Fe12, Vq12, Ex12, Ov12, hz12⟩ := hQ12
  have nq12_a : a ≠ b12 := Nat.ne_of_lt (Nat.lt_of_lt_of_le F3.lt hz12)
  have nq12_dz : dz ≠ b12 := Nat.ne_of_lt (Nat.lt_of_lt_of_le F7.lt hz12)
  have nq12_y : y ≠ b12 := Nat.ne_of_lt (Nat.lt_of_lt_of_le F9.lt hz12)
  have gq12 : n0 ≤ b12 := Nat.le_trans Zs2 hz12
  have sq12 : h0.size ≤ b12 := Nat.le_trans K2.1 hz12
  have N12 := Fr.app N2 Nq12
  have Zs12 : n0 ≤ T12.heap.size := Nat.le_trans Zs2 Kq12.1
  have F13 := F7.keep Kq12 (ninS n_z nin0)
  have F14 := F9.keep Kq12
  have K12 := K2.trans Kq12 (allS (Or.inl (List.mem_of_getElem? (i := 0) rfl)) all0)
  refine os st12 ?_
  show OG p e below Φ T12 m 23 #[rv a, rv y] []
  refine os (fun _ z => XS.iconst X12.here hx rfl (hb hby d7_23) z) ?_
  show OG p e below Φ T12 m 24 #[rv a, rv y] [(.int 1)]
  refine OGo.fin X12 hlk (v := (some (.int 1))) (fun h => by rw [hret] at h; cases h) (by decide) (by decide) (fun fs hr => X12.ireturnOut hx hret rfl (by simp) (hb hby d7_24) hr) fun U eU hF => hΦ _ _ _ ?_ hF
  rw [eU]
  show Q_rla0a1 Z a mc dz cz y h0 n0 _ _ _
  exact ⟨rfl, N12, K12, Eq12, Fm12, Fs12, _, _, Fe12, Vq12, Ex12, Ov12, sq12⟩

theorem ef_rla1a3 (m : MethodId) (x0 : Addr) (x1 : Addr) (x2 : Addr) (x3 : Int32) : entryFrame m #[(.ref x0), (.ref x1), (.ref x2), (.int x3)] 4 = mkF m 0 #[.val (.ref x0), .val (.ref x1), .val (.ref x2), .val (.int x3)] [] := by first | (simp [entryFrame, mkF, argsToLocals, Value.category]; done) | rfl
def Q_rla1a3 (Z : State) (a : Addr) (mc : Int32) (d : Addr) (cd : ClassId) (y : Addr) (y0_ : Addr) (h0 : Heap) (n0 : Nat) (v : Option Value) (h : Heap) (L : List Loc) : Prop := v = none ∧ Fr n0 L ∧ Keep h0 h [a, d] ∧ Exa Z h a "java/util/ArrayList" ∧ Fld Z h a "java/util/AbstractList" "modCount" "I" (.int mc) ∧ Fld Z h a "java/util/ArrayList" "size" "I" (.int (2 : Int32)) ∧ Fld Z h a "java/util/ArrayList" "elementData" "[Ljava/lang/Object;" (.ref d) ∧ Arv Z h d cd (.object "java/lang/Object") (10 : Int32) [(.ref y0_), (.ref y), .null, .null, .null, .null, .null, .null, .null, .null] .null ∧ Exa Z h d "[Ljava/lang/Object;"
set_option maxRecDepth 65536 in
set_option maxHeartbeats 40000000 in
theorem rla1a3 (l : Launch) (Z : State) (a0 : Array Value) (hw : ∀ d ∈ tables_1, d.before a0 Z = true) (ws : List Jvm.Cond) (a : Addr) (mc : Int32) (d : Addr) (cd : ClassId) (y : Addr) (y0_ : Addr) (h0 : Heap) (n0 : Nat) (Z0 : n0 ≤ h0.size) (E_a : Exa Z h0 a "java/util/ArrayList") (g_a : n0 ≤ a) (F_m : Fld Z h0 a "java/util/AbstractList" "modCount" "I" (.int mc)) (F_s : Fld Z h0 a "java/util/ArrayList" "size" "I" (.int (1 : Int32))) (F_e : Fld Z h0 a "java/util/ArrayList" "elementData" "[Ljava/lang/Object;" (.ref d)) (V_d : Arv Z h0 d cd (.object "java/lang/Object") (10 : Int32) [(.ref y0_), .null, .null, .null, .null, .null, .null, .null, .null, .null] .null) (E_d : Exa Z h0 d "[Ljava/lang/Object;") (o_d : Ovr Z cd "java/lang/Object") (g_d : n0 ≤ d) (n_d : a ≠ d) (E_y : Exa Z h0 y "com/example/hydromeme/hydromeme/Network$Junction") :
    OCon l Z (⟨"java/util/ArrayList", "add", "(Ljava/lang/Object;[Ljava/lang/Object;I)V"⟩ : MethodName) jdk_38_method_24_code 4 none ws ({ frames := 0, cells := 0, slots := 0, locals := 0 } : Room) #[(.ref a), (.ref y), (.ref d), (.int (1 : Int32))] h0 (Q_rla1a3 Z a mc d cd y y0_ h0 n0) := by
  refine OCon.of (plainFor_of_name pn2) ?_
  intro p e s m below meth c s₁ Φ X0 hx hby hml hown hnm hret hlk hZ e0 hΦ
  have N0 := Fr.nil n0
  refine os (fun _ z => castTop (ef_rla1a3 m a y d (1 : Int32)) z) ?_
  have K0 := Keep.refl h0 [a, d]
  show OG p e below Φ s₁ m 0 #[rv a, rv y, rv d, iv 1] []
  refine os (fun _ z => XS.iloadN X0.here hx rfl (hb hby d8_0) rfl z) ?_
  show OG p e below Φ s₁ m 1 #[rv a, rv y, rv d, iv 1] [(.int 1)]
  refine os (fun _ z => XS.aloadN X0.here hx rfl (hb hby d8_1) rfl rfl z) ?_
  show OG p e below Φ s₁ m 2 #[rv a, rv y, rv d, iv 1] [(.ref d), (.int 1)]
  obtain ⟨cl1, Aq1, -, S1, M1, -, -⟩ := id V_d
  refine os (fun _ z => X0.arraylength hx (by rw [e0]; exact Aq1.1) (oia hZ Aq1.2.1) (g := (mkF m 2 #[rv a, rv y, rv d, iv 1] [(.ref d), (.int 1)])) rfl rfl (hb hby d8_2) _ z) ?_
  rw [len_of S1 M1]
  show OG p e below Φ s₁ m 3 #[rv a, rv y, rv d, iv 1] [(.int 10), (.int 1)]
  refine os (fun _ z => XS.icmpYes X0.here hx rfl (pc0 := 3) (pc' := 11) rfl (hb hby d8_3) rfl (XT.ii_ne_t (by decide)) (by decide) (by decide) z) ?_
  show OG p e below Φ s₁ m 11 #[rv a, rv y, rv d, iv 1] []
  refine os (fun _ z => XS.aloadN X0.here hx rfl (hb hby d8_11) rfl rfl z) ?_
  show OG p e below Φ s₁ m 12 #[rv a, rv y, rv d, iv 1] [(.ref d)]
  refine os (fun _ z => XS.iloadN X0.here hx rfl (hb hby d8_12) rfl z) ?_
  show OG p e below Φ s₁ m 13 #[rv a, rv y, rv d, iv 1] [(.int 1), (.ref d)]
  refine os (fun _ z => XS.aloadN X0.here hx rfl (hb hby d8_13) rfl rfl z) ?_
  show OG p e below Φ s₁ m 14 #[rv a, rv y, rv d, iv 1] [(.ref y), (.int 1), (.ref d)]
  obtain ⟨cl2, Aq2, Cq2, S2, M2, H2, G2⟩ := id V_d
  have in2 : ¬ ((1 : Int32) < 0 ∨ cl2.slots.size ≤ (1 : Int32).toNatClampNeg) := inb_of S2 ⟨by decide, by decide⟩
  obtain ⟨T2, h2, X2, e2, W2, st2⟩ := stR X0 hx hZ e0 Aq2 in2 rfl (Sto.ofV Aq2 Cq2 o_d (Ins.of_exa E_y (ow83 hw))) (g := (mkF m 14 #[rv a, rv y, rv d, iv 1] [(.ref y), (.int 1), (.ref d)])) rfl rfl (hb hby d8_14)
  have F3 := E_a.wr W2
  have F4 := F_m.other W2 (Or.inl n_d)
  have F5 := F_s.other W2 (Or.inl n_d)
  have F6 := F_e.other W2 (Or.inl n_d)
  have F7 := E_d.wr W2
  have F8 := E_y.wr W2
  have V2 : Arv Z h2 d cd (.object "java/lang/Object") (10 : Int32) [(.ref y0_), (.ref y), .null, .null, .null, .null, .null, .null, .null, .null] .null := Arv.set Aq2 Cq2 S2 M2 H2 G2 rfl W2 1 (by decide) (by show 1 < 10; decide)
  have K2 := K0.wr W2 (Or.inl (List.mem_of_getElem? (i := 1) rfl))
  have N2 := Fr.snoc X2 N0 g_d
  have Zs2 : n0 ≤ h2.size := by rw [W2.size]; exact Z0
  refine os st2 ?_
  show OG p e below Φ T2 m 15 #[rv a, rv y, rv d, iv 1] []
  refine os (fun _ z => XS.aloadN X2.here hx rfl (hb hby d8_15) rfl rfl z) ?_
  show OG p e below Φ T2 m 16 #[rv a, rv y, rv d, iv 1] [(.ref a)]
  refine os (fun _ z => XS.iloadN X2.here hx rfl (hb hby d8_16) rfl z) ?_
  show OG p e below Φ T2 m 17 #[rv a, rv y, rv d, iv 1] [(.int 1), (.ref a)]
  refine os (fun _ z => XS.iconst X2.here hx rfl (hb hby d8_17) z) ?_
  show OG p e below Φ T2 m 18 #[rv a, rv y, rv d, iv 1] [(.int 1), (.int 1), (.ref a)]
  refine os (fun _ z => XS.iadd X2.here hx rfl (hb hby d8_18) rfl z) ?_
  show OG p e below Φ T2 m 19 #[rv a, rv y, rv d, iv 1] [(.int 2), (.ref a)]
  obtain ⟨T9, h9, X9, e9, W9, st9⟩ := putF X2 hx hZ hown (host := "") (Or.inl (ow60 hw)) Via.refl e2 F5 F3 (Or.inl (ow61 hw)) (ow2 hw) (ty := .int) (by decide) rfl rfl (g := (mkF m 19 #[rv a, rv y, rv d, iv 1] [(.int 2), (.ref a)])) rfl rfl (hb hby d8_19)
  have F10 := F3.wr W9
  have F11 := F4.other W9 (Or.inr (slot_ne (Or.inl (ow23 hw)) (Or.inl (ow61 hw)) (by decide) (t := .int) (t' := .int) (by decide) (by decide)))
  have F12 := F5.same W9
  have F13 := F6.other W9 (Or.inr (slot_ne (Or.inl (ow26 hw)) (Or.inl (ow61 hw)) (by decide) (t := (.array (.object "java/lang/Object"))) (t' := .int) (by decide) (by decide)))
  have F14 := F7.wr W9
  have F15 := F8.wr W9
  have F16 := V2.other W9 (Ne.symm n_d)
  have K9 := K2.wr W9 (Or.inl (List.mem_of_getElem? (i := 0) rfl))
  have N9 := Fr.snoc X9 N2 g_a
  have Zs9 : n0 ≤ h9.size := by rw [W9.size]; exact Zs2
  refine os st9 ?_
  show OG p e below Φ T9 m 22 #[rv a, rv y, rv d, iv 1] []
  refine OGo.fin X9 hlk (v := none) (fun _ => rfl) (by decide) (by decide) (fun fs hr => X9.returnOut hx hret (hb hby d8_22) hr) fun U eU hF => hΦ _ _ _ ?_ hF
  rw [eU, e9]
  show Q_rla1a3 Z a mc d cd y y0_ h0 n0 _ _ _
  exact ⟨rfl, N9, K9, F10, F11, F12, F13, F16, F14⟩

theorem ef_rla1a1 (m : MethodId) (x0 : Addr) (x1 : Addr) : entryFrame m #[(.ref x0), (.ref x1)] 2 = mkF m 0 #[.val (.ref x0), .val (.ref x1)] [] := by first | (simp [entryFrame, mkF, argsToLocals, Value.category]; done) | rfl
def Q_rla1a1 (Z : State) (a : Addr) (mc : Int32) (d : Addr) (cd : ClassId) (y : Addr) (y0_ : Addr) (h0 : Heap) (n0 : Nat) (v : Option Value) (h : Heap) (L : List Loc) : Prop := v = some (.int (1 : Int32)) ∧ Fr n0 L ∧ Keep h0 h [a, d] ∧ Exa Z h a "java/util/ArrayList" ∧ Fld Z h a "java/util/AbstractList" "modCount" "I" (.int (mc + (1 : Int32))) ∧ Fld Z h a "java/util/ArrayList" "size" "I" (.int (2 : Int32)) ∧ Fld Z h a "java/util/ArrayList" "elementData" "[Ljava/lang/Object;" (.ref d) ∧ Arv Z h d cd (.object "java/lang/Object") (10 : Int32) [(.ref y0_), (.ref y), .null, .null, .null, .null, .null, .null, .null, .null] .null ∧ Exa Z h d "[Ljava/lang/Object;"
set_option maxRecDepth 65536 in
set_option maxHeartbeats 40000000 in
theorem rla1a1 (l : Launch) (Z : State) (a0 : Array Value) (hw : ∀ d ∈ tables_1, d.before a0 Z = true) (ws : List Jvm.Cond) (a : Addr) (mc : Int32) (d : Addr) (cd : ClassId) (y : Addr) (y0_ : Addr) (h0 : Heap) (n0 : Nat) (Z0 : n0 ≤ h0.size) (E_a : Exa Z h0 a "java/util/ArrayList") (g_a : n0 ≤ a) (F_m : Fld Z h0 a "java/util/AbstractList" "modCount" "I" (.int mc)) (F_s : Fld Z h0 a "java/util/ArrayList" "size" "I" (.int (1 : Int32))) (F_e : Fld Z h0 a "java/util/ArrayList" "elementData" "[Ljava/lang/Object;" (.ref d)) (V_d : Arv Z h0 d cd (.object "java/lang/Object") (10 : Int32) [(.ref y0_), .null, .null, .null, .null, .null, .null, .null, .null, .null] .null) (E_d : Exa Z h0 d "[Ljava/lang/Object;") (o_d : Ovr Z cd "java/lang/Object") (g_d : n0 ≤ d) (n_d : a ≠ d) (E_y : Exa Z h0 y "com/example/hydromeme/hydromeme/Network$Junction") :
    OCon l Z (⟨"java/util/ArrayList", "add", "(Ljava/lang/Object;)Z"⟩ : MethodName) jdk_38_method_25_code 2 (some .boolean) ws ({ frames := 1, cells := 0, slots := 0, locals := 15 } : Room) #[(.ref a), (.ref y)] h0 (Q_rla1a1 Z a mc d cd y y0_ h0 n0) := by
  refine OCon.of (plainFor_of_name pn2) ?_
  intro p e s m below meth c s₁ Φ X0 hx hby hml hown hnm hret hlk hZ e0 hΦ
  have N0 := Fr.nil n0
  refine os (fun _ z => castTop (ef_rla1a1 m a y) z) ?_
  have K0 := Keep.refl h0 [a, d]
  show OG p e below Φ s₁ m 0 #[rv a, rv y] []
  refine os (fun _ z => XS.aloadN X0.here hx rfl (hb hby d7_0) rfl rfl z) ?_
  show OG p e below Φ s₁ m 1 #[rv a, rv y] [(.ref a)]
  refine os (fun _ z => XS.dup X0.here hx rfl (hb hby d7_1) rfl rfl z) ?_
  show OG p e below Φ s₁ m 2 #[rv a, rv y] [(.ref a), (.ref a)]
  obtain ⟨T1, X1, e1, st1⟩ := getF X0 hx hZ hown (host := "") (Or.inl (ow58 hw)) (Via.of (ow59 hw)) e0 F_m (g := (mkF m 2 #[rv a, rv y] [(.ref a), (.ref a)])) rfl rfl (hb hby d7_2)
  refine os st1 ?_
  show OG p e below Φ T1 m 5 #[rv a, rv y] [(.int mc), (.ref a)]
  refine os (fun _ z => XS.iconst X1.here hx rfl (hb hby d7_5) z) ?_
  show OG p e below Φ T1 m 6 #[rv a, rv y] [(.int 1), (.int mc), (.ref a)]
  refine os (fun _ z => XS.iadd X1.here hx rfl (hb hby d7_6) rfl z) ?_
  show OG p e below Φ T1 m 7 #[rv a, rv y] [(.int (mc + (1 : Int32))), (.ref a)]
  obtain ⟨T2, h2, X2, e2, W2, st2⟩ := putF X1 hx hZ hown (host := "") (Or.inl (ow58 hw)) (Via.of (ow59 hw)) e1 F_m E_a (Or.inl (ow23 hw)) (ow2 hw) (ty := .int) (by decide) rfl rfl (g := (mkF m 7 #[rv a, rv y] [(.int (mc + (1 : Int32))), (.ref a)])) rfl rfl (hb hby d7_7)
  have F3 := E_a.wr W2
  have F4 := F_m.same W2
  have F5 := F_s.other W2 (Or.inr (slot_ne (Or.inl (ow61 hw)) (Or.inl (ow23 hw)) (by decide) (t := .int) (t' := .int) (by decide) (by decide)))
  have F6 := F_e.other W2 (Or.inr (slot_ne (Or.inl (ow26 hw)) (Or.inl (ow23 hw)) (by decide) (t := (.array (.object "java/lang/Object"))) (t' := .int) (by decide) (by decide)))
  have F7 := V_d.other W2 (Ne.symm n_d)
  have F8 := E_d.wr W2
  have F9 := E_y.wr W2
  have K2 := K0.wr W2 (Or.inl (List.mem_of_getElem? (i := 0) rfl))
  have N2 := Fr.snoc X2 N0 g_a
  have Zs2 : n0 ≤ h2.size := by rw [W2.size]; exact Z0
  refine os st2 ?_
  show OG p e below Φ T2 m 10 #[rv a, rv y] []
  refine os (fun _ z => XS.aloadN X2.here hx rfl (hb hby d7_10) rfl rfl z) ?_
  show OG p e below Φ T2 m 11 #[rv a, rv y] [(.ref a)]
  refine os (fun _ z => XS.aloadN X2.here hx rfl (hb hby d7_11) rfl rfl z) ?_
  show OG p e below Φ T2 m 12 #[rv a, rv y] [(.ref y), (.ref a)]
  refine os (fun _ z => XS.aloadN X2.here hx rfl (hb hby d7_12) rfl rfl z) ?_
  show OG p e below Φ T2 m 13 #[rv a, rv y] [(.ref a), (.ref y), (.ref a)]
  obtain ⟨T10, X10, e10, st10⟩ := getF X2 hx hZ hown (host := "") (Or.inl (ow25 hw)) Via.refl e2 F6 (g := (mkF m 13 #[rv a, rv y] [(.ref a), (.ref y), (.ref a)])) rfl rfl (hb hby d7_13)
  refine os st10 ?_
  show OG p e below Φ T10 m 16 #[rv a, rv y] [(.ref d), (.ref y), (.ref a)]
  refine os (fun _ z => XS.aloadN X10.here hx rfl (hb hby d7_16) rfl rfl z) ?_
  show OG p e below Φ T10 m 17 #[rv a, rv y] [(.ref a), (.ref d), (.ref y), (.ref a)]
  obtain ⟨T11, X11, e11, st11⟩ := getF X10 hx hZ hown (host := "") (Or.inl (ow60 hw)) Via.refl e10 F5 (g := (mkF m 17 #[rv a, rv y] [(.ref a), (.ref d), (.ref y), (.ref a)])) rfl rfl (hb hby d7_17)
  refine os st11 ?_
  show OG p e below Φ T11 m 20 #[rv a, rv y] [(.int 1), (.ref d), (.ref y), (.ref a)]
  obtain ⟨_, T12, L12, X12, hQ12, st12⟩ := own_callPr X11 hx hZ hown (ow62 hw) (ow63 hw) (ow65 hw) (ow64 hw) (ow3 hw) (ow66 hw) (by decide) (rla1a3 l Z a0 hw [] a (mc + (1 : Int32)) d cd y y0_ h2 n0 Zs2 F3 g_a F4 F5 F6 F7 F8 o_d g_d n_d F9) e11 (W := 0) (by decide) (by decide) (by decide) (by decide) F3 (pc := 20) (ls := #[rv a, rv y]) (stk := [(.int 1), (.ref d), (.ref y), (.ref a)]) (by rw [hml]; rfl) (argsL := [(.ref y), (.ref d), (.int 1)]) (rest := []) (lenOf pd4 rfl) rfl rfl (Nat.le_of_eq rfl) (hb hby d7_20)
  obtain ⟨rfl, Nq12, Kq12, Eq12, Fm12, Fs12, Fe12, Vq12, Ex12⟩ := hQ12
  have N12 := Fr.app N2 Nq12
  have Zs12 : n0 ≤ T12.heap.size := Nat.le_trans Zs2 Kq12.1
  have F13 := F9.keep Kq12
  have K12 := K2.trans Kq12 (allS (Or.inl (List.mem_of_getElem? (i := 0) rfl)) (allS (Or.inl (List.mem_of_getElem? (i := 1) rfl)) all0))
  refine os st12 ?_
  show OG p e below Φ T12 m 23 #[rv a, rv y] []
  refine os (fun _ z => XS.iconst X12.here hx rfl (hb hby d7_23) z) ?_
  show OG p e below Φ T12 m 24 #[rv a, rv y] [(.int 1)]
  refine OGo.fin X12 hlk (v := (some (.int 1))) (fun h => by rw [hret] at h; cases h) (by decide) (by decide) (fun fs hr => X12.ireturnOut hx hret rfl (by simp) (hb hby d7_24) hr) fun U eU hF => hΦ _ _ _ ?_ hF
  rw [eU]
  show Q_rla1a1 Z a mc d cd y y0_ h0 n0 _ _ _
  exact ⟨rfl, N12, K12, Eq12, Fm12, Fs12, Fe12, Vq12, Ex12⟩

theorem pn3 : plainName "jdk/internal/util/Preconditions" = true := by first | (simp [plainName, overriddenIn]; done) | decide +kernel
theorem d15_0 : decode jdk_41_method_11_code 0 = .ok (.iload_n 0, 1) := by decide +kernel
theorem d15_1 : decode jdk_41_method_11_code 1 = .ok (.ifCond .lt 8, 3) := by decide +kernel
theorem d15_4 : decode jdk_41_method_11_code 4 = .ok (.iload_n 0, 1) := by decide +kernel
theorem d15_5 : decode jdk_41_method_11_code 5 = .ok (.iload_n 1, 1) := by decide +kernel
theorem d15_6 : decode jdk_41_method_11_code 6 = .ok (.if_icmp .lt 10, 3) := by decide +kernel
theorem d15_16 : decode jdk_41_method_11_code 16 = .ok (.iload_n 0, 1) := by decide +kernel
theorem d15_17 : decode jdk_41_method_11_code 17 = .ok (.ireturn, 1) := by decide +kernel
theorem ef_rlcpi (m : MethodId) (x0 : Int32) (x1 : Int32) : entryFrame m #[(.int x0), (.int x1), .null] 3 = mkF m 0 #[.val (.int x0), .val (.int x1), .val .null] [] := by first | (simp [entryFrame, mkF, argsToLocals, Value.category]; done) | rfl
def Q_rlcpi (Z : State) (xi : Int32) (xn : Int32) (h0 : Heap) (n0 : Nat) (v : Option Value) (h : Heap) (L : List Loc) : Prop := v = some (.int xi) ∧ Fr n0 L ∧ h = h0
set_option maxRecDepth 65536 in
set_option maxHeartbeats 40000000 in
theorem rlcpi (l : Launch) (Z : State) (a0 : Array Value) (hw : ∀ d ∈ tables_1, d.before a0 Z = true) (ws : List Jvm.Cond) (xi : Int32) (xn : Int32) (h0 : Heap) (n0 : Nat) (Z0 : n0 ≤ h0.size) (q0 : ¬ xi < 0) (q1 : xi < xn) :
    OCon l Z (⟨"jdk/internal/util/Preconditions", "checkIndex", "(IILjava/util/function/BiFunction;)I"⟩ : MethodName) jdk_41_method_11_code 3 (some .int) ws ({ frames := 0, cells := 0, slots := 0, locals := 0 } : Room) #[(.int xi), (.int xn), .null] h0 (Q_rlcpi Z xi xn h0 n0) := by
  refine OCon.of (plainFor_of_name pn3) ?_
  intro p e s m below meth c s₁ Φ X0 hx hby hml hown hnm hret hlk hZ e0 hΦ
  have N0 := Fr.nil n0
  refine os (fun _ z => castTop (ef_rlcpi m xi xn) z) ?_
  show OG p e below Φ s₁ m 0 #[iv xi, iv xn, .val .null] []
  refine os (fun _ z => XS.iloadN X0.here hx rfl (hb hby d15_0) rfl z) ?_
  show OG p e below Φ s₁ m 1 #[iv xi, iv xn, .val .null] [(.int xi)]
  refine os (fun _ z => XS.ifNo X0.here hx rfl (hb hby d15_1) rfl (XT.i0_lt_f q0) z) ?_
  show OG p e below Φ s₁ m 4 #[iv xi, iv xn, .val .null] []
  refine os (fun _ z => XS.iloadN X0.here hx rfl (hb hby d15_4) rfl z) ?_
  show OG p e below Φ s₁ m 5 #[iv xi, iv xn, .val .null] [(.int xi)]
  refine os (fun _ z => XS.iloadN X0.here hx rfl (hb hby d15_5) rfl z) ?_
  show OG p e below Φ s₁ m 6 #[iv xi, iv xn, .val .null] [(.int xn), (.int xi)]
  refine os (fun _ z => XS.icmpYes X0.here hx rfl (pc0 := 6) (pc' := 16) rfl (hb hby d15_6) rfl (XT.ii_lt_t q1) (by decide) (by decide) z) ?_
  show OG p e below Φ s₁ m 16 #[iv xi, iv xn, .val .null] []
  refine os (fun _ z => XS.iloadN X0.here hx rfl (hb hby d15_16) rfl z) ?_
  show OG p e below Φ s₁ m 17 #[iv xi, iv xn, .val .null] [(.int xi)]
  refine OGo.fin X0 hlk (v := (some (.int xi))) (fun h => by rw [hret] at h; cases h) (by decide) (by decide) (fun fs hr => X0.ireturnOut hx hret rfl (by simp) (hb hby d15_17) hr) fun U eU hF => hΦ _ _ _ ?_ hF
  rw [eU, e0]
  show Q_rlcpi Z xi xn h0 n0 _ _ _
  exact ⟨rfl, N0, rfl⟩

theorem pn4 : plainName "java/util/Objects" = true := by first | (simp [plainName, overriddenIn]; done) | decide +kernel
theorem d14_0 : decode jdk_31_method_17_code 0 = .ok (.iload_n 0, 1) := by decide +kernel
theorem d14_1 : decode jdk_31_method_17_code 1 = .ok (.iload_n 1, 1) := by decide +kernel
theorem d14_2 : decode jdk_31_method_17_code 2 = .ok (.aconst_null, 1) := by decide +kernel
theorem d14_3 : decode jdk_31_method_17_code 3 = .ok (.invokestatic 105, 3) := by decide +kernel
theorem pd5 : parseMethodDescriptor "(IILjava/util/function/BiFunction;)I" = some ⟨[.int, .int, (.object "java/util/function/BiFunction")], some .int⟩ := by decide +kernel
theorem d14_6 : decode jdk_31_method_17_code 6 = .ok (.ireturn, 1) := by decide +kernel
theorem ef_rlcoi (m : MethodId) (x0 : Int32) (x1 : Int32) : entryFrame m #[(.int x0), (.int x1)] 2 = mkF m 0 #[.val (.int x0), .val (.int x1)] [] := by first | (simp [entryFrame, mkF, argsToLocals, Value.category]; done) | rfl
def Q_rlcoi (Z : State) (xi : Int32) (xn : Int32) (h0 : Heap) (n0 : Nat) (v : Option Value) (h : Heap) (L : List Loc) : Prop := v = some (.int xi) ∧ Fr n0 L ∧ h = h0
set_option maxRecDepth 65536 in
set_option maxHeartbeats 40000000 in
theorem rlcoi (l : Launch) (Z : State) (a0 : Array Value) (hw : ∀ d ∈ tables_1, d.before a0 Z = true) (ws : List Jvm.Cond) (xi : Int32) (xn : Int32) (h0 : Heap) (n0 : Nat) (Z0 : n0 ≤ h0.size) (q0 : ¬ xi < 0) (q1 : xi < xn) :
    OCon l Z (⟨"java/util/Objects", "checkIndex", "(II)I"⟩ : MethodName) jdk_31_method_17_code 2 (some .int) ws ({ frames := 1, cells := 0, slots := 0, locals := 14 } : Room) #[(.int xi), (.int xn)] h0 (Q_rlcoi Z xi xn h0 n0) := by
  refine OCon.of (plainFor_of_name pn4) ?_
  intro p e s m below meth c s₁ Φ X0 hx hby hml hown hnm hret hlk hZ e0 hΦ
  have N0 := Fr.nil n0
  refine os (fun _ z => castTop (ef_rlcoi m xi xn) z) ?_
  show OG p e below Φ s₁ m 0 #[iv xi, iv xn] []
  refine os (fun _ z => XS.iloadN X0.here hx rfl (hb hby d14_0) rfl z) ?_
  show OG p e below Φ s₁ m 1 #[iv xi, iv xn] [(.int xi)]
  refine os (fun _ z => XS.iloadN X0.here hx rfl (hb hby d14_1) rfl z) ?_
  show OG p e below Φ s₁ m 2 #[iv xi, iv xn] [(.int xn), (.int xi)]
  refine os (fun _ z => XS.aconstNull X0.here hx rfl (hb hby d14_2) z) ?_
  show OG p e below Φ s₁ m 3 #[iv xi, iv xn] [.null, (.int xn), (.int xi)]
  obtain ⟨_, T1, L1, X1, hQ1, st1⟩ := own_callSt X0 hx hZ hown (ow102 hw) (ow103 hw) (ow104 hw) (ow105 hw) (by decide) (rlcpi l Z a0 hw [] xi xn h0 n0 Z0 q0 q1) e0 (W := 0) (by decide) (by decide) (by decide) (by decide) (pc := 3) (ls := #[iv xi, iv xn]) (stk := [.null, (.int xn), (.int xi)]) (by rw [hml]; rfl) (argsL := [(.int xi), (.int xn), .null]) (rest := []) (lenOf pd5 rfl) rfl rfl (Nat.le_of_eq rfl) (hb hby d14_3)
  obtain ⟨rfl, Nq1, e1⟩ := hQ1
  have N1 := Fr.app N0 Nq1
  refine os st1 ?_
  show OG p e below Φ T1 m 6 #[iv xi, iv xn] [(.int xi)]
  refine OGo.fin X1 hlk (v := (some (.int xi))) (fun h => by rw [hret] at h; cases h) (by decide) (by decide) (fun fs hr => X1.ireturnOut hx hret rfl (by simp) (hb hby d14_6) hr) fun U eU hF => hΦ _ _ _ ?_ hF
  rw [eU, e1]
  show Q_rlcoi Z xi xn h0 n0 _ _ _
  exact ⟨rfl, N1, rfl⟩

theorem d16_0 : decode jdk_38_method_18_code 0 = .ok (.aload_n 0, 1) := by decide +kernel
theorem d16_1 : decode jdk_38_method_18_code 1 = .ok (.getfield 9, 3) := by decide +kernel
theorem d16_4 : decode jdk_38_method_18_code 4 = .ok (.iload_n 1, 1) := by decide +kernel
theorem d16_5 : decode jdk_38_method_18_code 5 = .ok (.aaload, 1) := by decide +kernel
theorem d16_6 : decode jdk_38_method_18_code 6 = .ok (.areturn, 1) := by decide +kernel
theorem ef_rlg0el (m : MethodId) (x0 : Addr) (x1 : Int32) : entryFrame m #[(.ref x0), (.int x1)] 2 = mkF m 0 #[.val (.ref x0), .val (.int x1)] [] := by first | (simp [entryFrame, mkF, argsToLocals, Value.category]; done) | rfl
def Q_rlg0el (Z : State) (a : Addr) (mc : Int32) (d : Addr) (cd : ClassId) (y0_ : Addr) (y1_ : Addr) (h0 : Heap) (n0 : Nat) (v : Option Value) (h : Heap) (L : List Loc) : Prop := v = some (.ref y0_) ∧ Fr n0 L ∧ h = h0
set_option maxRecDepth 65536 in
set_option maxHeartbeats 40000000 in
theorem rlg0el (l : Launch) (Z : State) (a0 : Array Value) (hw : ∀ d ∈ tables_1, d.before a0 Z = true) (ws : List Jvm.Cond) (a : Addr) (mc : Int32) (d : Addr) (cd : ClassId) (y0_ : Addr) (y1_ : Addr) (h0 : Heap) (n0 : Nat) (Z0 : n0 ≤ h0.size) (E_a : Exa Z h0 a "java/util/ArrayList") (F_m : Fld Z h0 a "java/util/AbstractList" "modCount" "I" (.int mc)) (F_s : Fld Z h0 a "java/util/ArrayList" "size" "I" (.int (2 : Int32))) (F_e : Fld Z h0 a "java/util/ArrayList" "elementData" "[Ljava/lang/Object;" (.ref d)) (V_d : Arv Z h0 d cd (.object "java/lang/Object") (10 : Int32) [(.ref y0_), (.ref y1_), .null, .null, .null, .null, .null, .null, .null, .null] .null) :
    OCon l Z (⟨"java/util/ArrayList", "elementData", "(I)Ljava/lang/Object;"⟩ : MethodName) jdk_38_method_18_code 2 (some (.object "java/lang/Object")) ws ({ frames := 0, cells := 0, slots := 0, locals := 0 } : Room) #[(.ref a), (.int (0 : Int32))] h0 (Q_rlg0el Z a mc d cd y0_ y1_ h0 n0) := by
  refine OCon.of (plainFor_of_name pn2) ?_
  intro p e s m below meth c s₁ Φ X0 hx hby hml hown hnm hret hlk hZ e0 hΦ
  have N0 := Fr.nil n0
  refine os (fun _ z => castTop (ef_rlg0el m a (0 : Int32)) z) ?_
  show OG p e below Φ s₁ m 0 #[rv a, iv 0] []
  refine os (fun _ z => XS.aloadN X0.here hx rfl (hb hby d16_0) rfl rfl z) ?_
  show OG p e below Φ s₁ m 1 #[rv a, iv 0] [(.ref a)]
  obtain ⟨T1, X1, e1, st1⟩ := getF X0 hx hZ hown (host := "") (Or.inl (ow25 hw)) Via.refl e0 F_e (g := (mkF m 1 #[rv a, iv 0] [(.ref a)])) rfl rfl (hb hby d16_1)
  refine os st1 ?_
  show OG p e below Φ T1 m 4 #[rv a, iv 0] [(.ref d)]
  refine os (fun _ z => XS.iloadN X1.here hx rfl (hb hby d16_4) rfl z) ?_
  show OG p e below Φ T1 m 5 #[rv a, iv 0] [(.int 0), (.ref d)]
  obtain ⟨cl2, Aq2, -, S2, M2, H2, -⟩ := id V_d
  have in2 : ¬ ((0 : Int32) < 0 ∨ cl2.slots.size ≤ (0 : Int32).toNatClampNeg) := inb_of S2 ⟨by decide, by decide⟩
  have at2 : cl2.slots[(0 : Int32).toNatClampNeg]? = some (.ref y0_) := H2.at in2 rfl
  refine os (fun _ z => X1.aaload hx (by rw [e1]; exact Aq2.1) (oia hZ Aq2.2.1) rfl Aq2.2.2 in2 at2 (g := (mkF m 5 #[rv a, iv 0] [(.int 0), (.ref d)])) rfl rfl (hb hby d16_5) _ z) ?_
  show OG p e below Φ T1 m 6 #[rv a, iv 0] [(.ref y0_)]
  refine OGo.fin X1 hlk (v := (some (.ref y0_))) (fun h => by rw [hret] at h; cases h) (by decide) (by decide) (fun fs hr => X1.areturnOut hx rfl hret rfl (hb hby d16_6) hr) fun U eU hF => hΦ _ _ _ ?_ hF
  rw [eU, e1]
  show Q_rlg0el Z a mc d cd y0_ y1_ h0 n0 _ _ _
  exact ⟨rfl, N0, rfl⟩

theorem d13_0 : decode jdk_38_method_20_code 0 = .ok (.iload_n 1, 1) := by decide +kernel
theorem d13_1 : decode jdk_38_method_20_code 1 = .ok (.aload_n 0, 1) := by decide +kernel
theorem d13_2 : decode jdk_38_method_20_code 2 = .ok (.getfield 48, 3) := by decide +kernel
theorem d13_5 : decode jdk_38_method_20_code 5 = .ok (.invokestatic 118, 3) := by decide +kernel
theorem d13_8 : decode jdk_38_method_20_code 8 = .ok (.pop, 1) := by decide +kernel
theorem d13_9 : decode jdk_38_method_20_code 9 = .ok (.aload_n 0, 1) := by decide +kernel
theorem d13_10 : decode jdk_38_method_20_code 10 = .ok (.iload_n 1, 1) := by decide +kernel
theorem d13_11 : decode jdk_38_method_20_code 11 = .ok (.invokevirtual 123, 3) := by decide +kernel
theorem pd6 : parseMethodDescriptor "(I)Ljava/lang/Object;" = some ⟨[.int], some (.object "java/lang/Object")⟩ := by decide +kernel
theorem d13_14 : decode jdk_38_method_20_code 14 = .ok (.areturn, 1) := by decide +kernel
theorem ef_rlg0get (m : MethodId) (x0 : Addr) (x1 : Int32) : entryFrame m #[(.ref x0), (.int x1)] 2 = mkF m 0 #[.val (.ref x0), .val (.int x1)] [] := by first | (simp [entryFrame, mkF, argsToLocals, Value.category]; done) | rfl
def Q_rlg0get (Z : State) (a : Addr) (mc : Int32) (d : Addr) (cd : ClassId) (y0_ : Addr) (y1_ : Addr) (h0 : Heap) (n0 : Nat) (v : Option Value) (h : Heap) (L : List Loc) : Prop := v = some (.ref y0_) ∧ Fr n0 L ∧ h = h0
set_option maxRecDepth 65536 in
set_option maxHeartbeats 40000000 in
theorem rlg0get (l : Launch) (Z : State) (a0 : Array Value) (hw : ∀ d ∈ tables_1, d.before a0 Z = true) (ws : List Jvm.Cond) (a : Addr) (mc : Int32) (d : Addr) (cd : ClassId) (y0_ : Addr) (y1_ : Addr) (h0 : Heap) (n0 : Nat) (Z0 : n0 ≤ h0.size) (E_a : Exa Z h0 a "java/util/ArrayList") (F_m : Fld Z h0 a "java/util/AbstractList" "modCount" "I" (.int mc)) (F_s : Fld Z h0 a "java/util/ArrayList" "size" "I" (.int (2 : Int32))) (F_e : Fld Z h0 a "java/util/ArrayList" "elementData" "[Ljava/lang/Object;" (.ref d)) (V_d : Arv Z h0 d cd (.object "java/lang/Object") (10 : Int32) [(.ref y0_), (.ref y1_), .null, .null, .null, .null, .null, .null, .null, .null] .null) :
    OCon l Z (⟨"java/util/ArrayList", "get", "(I)Ljava/lang/Object;"⟩ : MethodName) jdk_38_method_20_code 2 (some (.object "java/lang/Object")) ws ({ frames := 2, cells := 0, slots := 0, locals := 27 } : Room) #[(.ref a), (.int (0 : Int32))] h0 (Q_rlg0get Z a mc d cd y0_ y1_ h0 n0) := by
  refine OCon.of (plainFor_of_name pn2) ?_
  intro p e s m below meth c s₁ Φ X0 hx hby hml hown hnm hret hlk hZ e0 hΦ
  have N0 := Fr.nil n0
  refine os (fun _ z => castTop (ef_rlg0get m a (0 : Int32)) z) ?_
  show OG p e below Φ s₁ m 0 #[rv a, iv 0] []
  refine os (fun _ z => XS.iloadN X0.here hx rfl (hb hby d13_0) rfl z) ?_
  show OG p e below Φ s₁ m 1 #[rv a, iv 0] [(.int 0)]
  refine os (fun _ z => XS.aloadN X0.here hx rfl (hb hby d13_1) rfl rfl z) ?_
  show OG p e below Φ s₁ m 2 #[rv a, iv 0] [(.ref a), (.int 0)]
  obtain ⟨T1, X1, e1, st1⟩ := getF X0 hx hZ hown (host := "") (Or.inl (ow60 hw)) Via.refl e0 F_s (g := (mkF m 2 #[rv a, iv 0] [(.ref a), (.int 0)])) rfl rfl (hb hby d13_2)
  refine os st1 ?_
  show OG p e below Φ T1 m 5 #[rv a, iv 0] [(.int 2), (.int 0)]
  obtain ⟨_, T2, L2, X2, hQ2, st2⟩ := own_callSt X1 hx hZ hown (ow98 hw) (ow99 hw) (ow100 hw) (ow101 hw) (by decide) (rlcoi l Z a0 hw [] (0 : Int32) (2 : Int32) h0 n0 Z0 (by decide) (by decide)) e1 (W := 0) (by decide) (by decide) (by decide) (by decide) (pc := 5) (ls := #[rv a, iv 0]) (stk := [(.int 2), (.int 0)]) (by rw [hml]; rfl) (argsL := [(.int 0), (.int 2)]) (rest := []) (lenOf pd1 rfl) rfl rfl (Nat.le_of_eq rfl) (hb hby d13_5)
  obtain ⟨rfl, Nq2, e2⟩ := hQ2
  have N2 := Fr.app N0 Nq2
  refine os st2 ?_
  show OG p e below Φ T2 m 8 #[rv a, iv 0] [(.int 0)]
  refine os (fun _ z => XT.pop X2.here hx rfl (hb hby d13_8) rfl rfl z) ?_
  show OG p e below Φ T2 m 9 #[rv a, iv 0] []
  refine os (fun _ z => XS.aloadN X2.here hx rfl (hb hby d13_9) rfl rfl z) ?_
  show OG p e below Φ T2 m 10 #[rv a, iv 0] [(.ref a)]
  refine os (fun _ z => XS.iloadN X2.here hx rfl (hb hby d13_10) rfl z) ?_
  show OG p e below Φ T2 m 11 #[rv a, iv 0] [(.int 0), (.ref a)]
  obtain ⟨_, T3, L3, X3, hQ3, st3⟩ := own_callVi X2 hx hZ hown (ow106 hw) (ow107 hw) (notFace_of_selects (args := #[]) (mvT hZ (ow109 hw))) (ow109 hw) (ow108 hw) (ow3 hw) (ow110 hw) (by decide) (rlg0el l Z a0 hw [] a mc d cd y0_ y1_ h0 n0 Z0 E_a F_m F_s F_e V_d) e2 (W := 0) (by decide) (by decide) (by decide) (by decide) E_a (pc := 11) (ls := #[rv a, iv 0]) (stk := [(.int 0), (.ref a)]) (by rw [hml]; rfl) (argsL := [(.int 0)]) (rest := []) (lenOf pd6 rfl) rfl rfl (Nat.le_of_eq rfl) (hb hby d13_11)
  obtain ⟨rfl, Nq3, e3⟩ := hQ3
  have N3 := Fr.app N2 Nq3
  refine os st3 ?_
  show OG p e below Φ T3 m 14 #[rv a, iv 0] [(.ref y0_)]
  refine OGo.fin X3 hlk (v := (some (.ref y0_))) (fun h => by rw [hret] at h; cases h) (by decide) (by decide) (fun fs hr => X3.areturnOut hx rfl hret rfl (hb hby d13_14) hr) fun U eU hF => hΦ _ _ _ ?_ hF
  rw [eU, e3]
  show Q_rlg0get Z a mc d cd y0_ y1_ h0 n0 _ _ _
  exact ⟨rfl, N3, rfl⟩

theorem ef_rlg1el (m : MethodId) (x0 : Addr) (x1 : Int32) : entryFrame m #[(.ref x0), (.int x1)] 2 = mkF m 0 #[.val (.ref x0), .val (.int x1)] [] := by first | (simp [entryFrame, mkF, argsToLocals, Value.category]; done) | rfl
def Q_rlg1el (Z : State) (a : Addr) (mc : Int32) (d : Addr) (cd : ClassId) (y0_ : Addr) (y1_ : Addr) (h0 : Heap) (n0 : Nat) (v : Option Value) (h : Heap) (L : List Loc) : Prop := v = some (.ref y1_) ∧ Fr n0 L ∧ h = h0
set_option maxRecDepth 65536 in
set_option maxHeartbeats 40000000 in
theorem rlg1el (l : Launch) (Z : State) (a0 : Array Value) (hw : ∀ d ∈ tables_1, d.before a0 Z = true) (ws : List Jvm.Cond) (a : Addr) (mc : Int32) (d : Addr) (cd : ClassId) (y0_ : Addr) (y1_ : Addr) (h0 : Heap) (n0 : Nat) (Z0 : n0 ≤ h0.size) (E_a : Exa Z h0 a "java/util/ArrayList") (F_m : Fld Z h0 a "java/util/AbstractList" "modCount" "I" (.int mc)) (F_s : Fld Z h0 a "java/util/ArrayList" "size" "I" (.int (2 : Int32))) (F_e : Fld Z h0 a "java/util/ArrayList" "elementData" "[Ljava/lang/Object;" (.ref d)) (V_d : Arv Z h0 d cd (.object "java/lang/Object") (10 : Int32) [(.ref y0_), (.ref y1_), .null, .null, .null, .null, .null, .null, .null, .null] .null) :
    OCon l Z (⟨"java/util/ArrayList", "elementData", "(I)Ljava/lang/Object;"⟩ : MethodName) jdk_38_method_18_code 2 (some (.object "java/lang/Object")) ws ({ frames := 0, cells := 0, slots := 0, locals := 0 } : Room) #[(.ref a), (.int (1 : Int32))] h0 (Q_rlg1el Z a mc d cd y0_ y1_ h0 n0) := by
  refine OCon.of (plainFor_of_name pn2) ?_
  intro p e s m below meth c s₁ Φ X0 hx hby hml hown hnm hret hlk hZ e0 hΦ
  have N0 := Fr.nil n0
  refine os (fun _ z => castTop (ef_rlg1el m a (1 : Int32)) z) ?_
  show OG p e below Φ s₁ m 0 #[rv a, iv 1] []
  refine os (fun _ z => XS.aloadN X0.here hx rfl (hb hby d16_0) rfl rfl z) ?_
  show OG p e below Φ s₁ m 1 #[rv a, iv 1] [(.ref a)]
  obtain ⟨T1, X1, e1, st1⟩ := getF X0 hx hZ hown (host := "") (Or.inl (ow25 hw)) Via.refl e0 F_e (g := (mkF m 1 #[rv a, iv 1] [(.ref a)])) rfl rfl (hb hby d16_1)
  refine os st1 ?_
  show OG p e below Φ T1 m 4 #[rv a, iv 1] [(.ref d)]
  refine os (fun _ z => XS.iloadN X1.here hx rfl (hb hby d16_4) rfl z) ?_
  show OG p e below Φ T1 m 5 #[rv a, iv 1] [(.int 1), (.ref d)]
  obtain ⟨cl2, Aq2, -, S2, M2, H2, -⟩ := id V_d
  have in2 : ¬ ((1 : Int32) < 0 ∨ cl2.slots.size ≤ (1 : Int32).toNatClampNeg) := inb_of S2 ⟨by decide, by decide⟩
  have at2 : cl2.slots[(1 : Int32).toNatClampNeg]? = some (.ref y1_) := H2.at in2 rfl
  refine os (fun _ z => X1.aaload hx (by rw [e1]; exact Aq2.1) (oia hZ Aq2.2.1) rfl Aq2.2.2 in2 at2 (g := (mkF m 5 #[rv a, iv 1] [(.int 1), (.ref d)])) rfl rfl (hb hby d16_5) _ z) ?_
  show OG p e below Φ T1 m 6 #[rv a, iv 1] [(.ref y1_)]
  refine OGo.fin X1 hlk (v := (some (.ref y1_))) (fun h => by rw [hret] at h; cases h) (by decide) (by decide) (fun fs hr => X1.areturnOut hx rfl hret rfl (hb hby d16_6) hr) fun U eU hF => hΦ _ _ _ ?_ hF
  rw [eU, e1]
  show Q_rlg1el Z a mc d cd y0_ y1_ h0 n0 _ _ _
  exact ⟨rfl, N0, rfl⟩

theorem ef_rlg1get (m : MethodId) (x0 : Addr) (x1 : Int32) : entryFrame m #[(.ref x0), (.int x1)] 2 = mkF m 0 #[.val (.ref x0), .val (.int x1)] [] := by first | (simp [entryFrame, mkF, argsToLocals, Value.category]; done) | rfl
def Q_rlg1get (Z : State) (a : Addr) (mc : Int32) (d : Addr) (cd : ClassId) (y0_ : Addr) (y1_ : Addr) (h0 : Heap) (n0 : Nat) (v : Option Value) (h : Heap) (L : List Loc) : Prop := v = some (.ref y1_) ∧ Fr n0 L ∧ h = h0
set_option maxRecDepth 65536 in
set_option maxHeartbeats 40000000 in
theorem rlg1get (l : Launch) (Z : State) (a0 : Array Value) (hw : ∀ d ∈ tables_1, d.before a0 Z = true) (ws : List Jvm.Cond) (a : Addr) (mc : Int32) (d : Addr) (cd : ClassId) (y0_ : Addr) (y1_ : Addr) (h0 : Heap) (n0 : Nat) (Z0 : n0 ≤ h0.size) (E_a : Exa Z h0 a "java/util/ArrayList") (F_m : Fld Z h0 a "java/util/AbstractList" "modCount" "I" (.int mc)) (F_s : Fld Z h0 a "java/util/ArrayList" "size" "I" (.int (2 : Int32))) (F_e : Fld Z h0 a "java/util/ArrayList" "elementData" "[Ljava/lang/Object;" (.ref d)) (V_d : Arv Z h0 d cd (.object "java/lang/Object") (10 : Int32) [(.ref y0_), (.ref y1_), .null, .null, .null, .null, .null, .null, .null, .null] .null) :
    OCon l Z (⟨"java/util/ArrayList", "get", "(I)Ljava/lang/Object;"⟩ : MethodName) jdk_38_method_20_code 2 (some (.object "java/lang/Object")) ws ({ frames := 2, cells := 0, slots := 0, locals := 27 } : Room) #[(.ref a), (.int (1 : Int32))] h0 (Q_rlg1get Z a mc d cd y0_ y1_ h0 n0) := by
  refine OCon.of (plainFor_of_name pn2) ?_
  intro p e s m below meth c s₁ Φ X0 hx hby hml hown hnm hret hlk hZ e0 hΦ
  have N0 := Fr.nil n0
  refine os (fun _ z => castTop (ef_rlg1get m a (1 : Int32)) z) ?_
  show OG p e below Φ s₁ m 0 #[rv a, iv 1] []
  refine os (fun _ z => XS.iloadN X0.here hx rfl (hb hby d13_0) rfl z) ?_
  show OG p e below Φ s₁ m 1 #[rv a, iv 1] [(.int 1)]
  refine os (fun _ z => XS.aloadN X0.here hx rfl (hb hby d13_1) rfl rfl z) ?_
  show OG p e below Φ s₁ m 2 #[rv a, iv 1] [(.ref a), (.int 1)]
  obtain ⟨T1, X1, e1, st1⟩ := getF X0 hx hZ hown (host := "") (Or.inl (ow60 hw)) Via.refl e0 F_s (g := (mkF m 2 #[rv a, iv 1] [(.ref a), (.int 1)])) rfl rfl (hb hby d13_2)
  refine os st1 ?_
  show OG p e below Φ T1 m 5 #[rv a, iv 1] [(.int 2), (.int 1)]
  obtain ⟨_, T2, L2, X2, hQ2, st2⟩ := own_callSt X1 hx hZ hown (ow98 hw) (ow99 hw) (ow100 hw) (ow101 hw) (by decide) (rlcoi l Z a0 hw [] (1 : Int32) (2 : Int32) h0 n0 Z0 (by decide) (by decide)) e1 (W := 0) (by decide) (by decide) (by decide) (by decide) (pc := 5) (ls := #[rv a, iv 1]) (stk := [(.int 2), (.int 1)]) (by rw [hml]; rfl) (argsL := [(.int 1), (.int 2)]) (rest := []) (lenOf pd1 rfl) rfl rfl (Nat.le_of_eq rfl) (hb hby d13_5)
  obtain ⟨rfl, Nq2, e2⟩ := hQ2
  have N2 := Fr.app N0 Nq2
  refine os st2 ?_
  show OG p e below Φ T2 m 8 #[rv a, iv 1] [(.int 1)]
  refine os (fun _ z => XT.pop X2.here hx rfl (hb hby d13_8) rfl rfl z) ?_
  show OG p e below Φ T2 m 9 #[rv a, iv 1] []
  refine os (fun _ z => XS.aloadN X2.here hx rfl (hb hby d13_9) rfl rfl z) ?_
  show OG p e below Φ T2 m 10 #[rv a, iv 1] [(.ref a)]
  refine os (fun _ z => XS.iloadN X2.here hx rfl (hb hby d13_10) rfl z) ?_
  show OG p e below Φ T2 m 11 #[rv a, iv 1] [(.int 1), (.ref a)]
  obtain ⟨_, T3, L3, X3, hQ3, st3⟩ := own_callVi X2 hx hZ hown (ow106 hw) (ow107 hw) (notFace_of_selects (args := #[]) (mvT hZ (ow109 hw))) (ow109 hw) (ow108 hw) (ow3 hw) (ow110 hw) (by decide) (rlg1el l Z a0 hw [] a mc d cd y0_ y1_ h0 n0 Z0 E_a F_m F_s F_e V_d) e2 (W := 0) (by decide) (by decide) (by decide) (by decide) E_a (pc := 11) (ls := #[rv a, iv 1]) (stk := [(.int 1), (.ref a)]) (by rw [hml]; rfl) (argsL := [(.int 1)]) (rest := []) (lenOf pd6 rfl) rfl rfl (Nat.le_of_eq rfl) (hb hby d13_11)
  obtain ⟨rfl, Nq3, e3⟩ := hQ3
  have N3 := Fr.app N2 Nq3
  refine os st3 ?_
  show OG p e below Φ T3 m 14 #[rv a, iv 1] [(.ref y1_)]
  refine OGo.fin X3 hlk (v := (some (.ref y1_))) (fun h => by rw [hret] at h; cases h) (by decide) (by decide) (fun fs hr => X3.areturnOut hx rfl hret rfl (hb hby d13_14) hr) fun U eU hF => hΦ _ _ _ ?_ hF
  rw [eU, e3]
  show Q_rlg1get Z a mc d cd y0_ y1_ h0 n0 _ _ _
  exact ⟨rfl, N3, rfl⟩

theorem pn5 : plainName "java/lang/Record" = true := by first | (simp [plainName, overriddenIn]; done) | decide +kernel
theorem d6_0 : decode jdk_30_method_1_code 0 = .ok (.aload_n 0, 1) := by decide +kernel
theorem d6_1 : decode jdk_30_method_1_code 1 = .ok (.invokespecial 1, 3) := by decide +kernel
theorem d6_4 : decode jdk_30_method_1_code 4 = .ok (.return_, 1) := by decide +kernel
theorem ef_rrec (m : MethodId) (x0 : Addr) : entryFrame m #[(.ref x0)] 1 = mkF m 0 #[.val (.ref x0)] [] := by first | (simp [entryFrame, mkF, argsToLocals, Value.category]; done) | rfl
def Q_rrec (Z : State) (a : Addr) (h0 : Heap) (n0 : Nat) (v : Option Value) (h : Heap) (L : List Loc) : Prop := v = none ∧ Fr n0 L ∧ h = h0
set_option maxRecDepth 65536 in
set_option maxHeartbeats 40000000 in
theorem rrec (l : Launch) (Z : State) (a0 : Array Value) (hw : ∀ d ∈ tables_1, d.before a0 Z = true) (ws : List Jvm.Cond) (a : Addr) (h0 : Heap) (n0 : Nat) (Z0 : n0 ≤ h0.size)  :
    OCon l Z (⟨"java/lang/Record", "<init>", "()V"⟩ : MethodName) jdk_30_method_1_code 1 none ws ({ frames := 1, cells := 0, slots := 0, locals := 12 } : Room) #[(.ref a)] h0 (Q_rrec Z a h0 n0) := by
  refine OCon.of (plainFor_of_name pn5) ?_
  intro p e s m below meth c s₁ Φ X0 hx hby hml hown hnm hret hlk hZ e0 hΦ
  have N0 := Fr.nil n0
  refine os (fun _ z => castTop (ef_rrec m a) z) ?_
  show OG p e below Φ s₁ m 0 #[rv a] []
  refine os (fun _ z => XS.aloadN X0.here hx rfl (hb hby d6_0) rfl rfl z) ?_
  show OG p e below Φ s₁ m 1 #[rv a] [(.ref a)]
  obtain ⟨T1, X1, e1, st1⟩ := initO X0 hx hZ hown (ow46 hw) (ow20 hw) (ow21 hw) e0 (g := (mkF m 1 #[rv a] [(.ref a)])) rfl (by rw [hml]; rfl) rfl (hb hby d6_1) (by decide) (W := 0) (Nat.le_of_eq rfl) (by decide)
  refine os st1 ?_
  show OG p e below Φ T1 m 4 #[rv a] []
  refine OGo.fin X1 hlk (v := none) (fun _ => rfl) (by decide) (by decide) (fun fs hr => X1.returnOut hx hret (hb hby d6_4) hr) fun U eU hF => hΦ _ _ _ ?_ hF
  rw [eU, e1]
  show Q_rrec Z a h0 n0 _ _ _
  exact ⟨rfl, N0, rfl⟩

theorem pn6 : plainName "com/example/hydromeme/hydromeme/Network$Junction" = true := by first | (simp [plainName, overriddenIn]; done) | decide +kernel
theorem d5_0 : decode prog_35_method_1_code 0 = .ok (.aload_n 0, 1) := by decide +kernel
theorem d5_1 : decode prog_35_method_1_code 1 = .ok (.invokespecial 1, 3) := by decide +kernel
theorem d5_4 : decode prog_35_method_1_code 4 = .ok (.aload_n 0, 1) := by decide +kernel
theorem d5_5 : decode prog_35_method_1_code 5 = .ok (.aload_n 1, 1) := by decide +kernel
theorem d5_6 : decode prog_35_method_1_code 6 = .ok (.putfield 7, 3) := by decide +kernel
theorem d5_9 : decode prog_35_method_1_code 9 = .ok (.aload_n 0, 1) := by decide +kernel
theorem d5_10 : decode prog_35_method_1_code 10 = .ok (.dload_n 2, 1) := by decide +kernel
theorem d5_11 : decode prog_35_method_1_code 11 = .ok (.putfield 13, 3) := by decide +kernel
theorem d5_14 : decode prog_35_method_1_code 14 = .ok (.aload_n 0, 1) := by decide +kernel
theorem d5_15 : decode prog_35_method_1_code 15 = .ok (.dload 4, 2) := by decide +kernel
theorem d5_17 : decode prog_35_method_1_code 17 = .ok (.putfield 17, 3) := by decide +kernel
theorem d5_20 : decode prog_35_method_1_code 20 = .ok (.return_, 1) := by decide +kernel
theorem ef_rju (m : MethodId) (x0 : Addr) (x1 : Addr) (x2 : UInt64) (x3 : UInt64) : entryFrame m #[(.ref x0), (.ref x1), (.double x2), (.double x3)] 6 = mkF m 0 #[.val (.ref x0), .val (.ref x1), .val (.double x2), .second, .val (.double x3), .second] [] := by first | (simp [entryFrame, mkF, argsToLocals, Value.category]; done) | rfl
def Q_rju (Z : State) (a : Addr) (x1 : Addr) (x2 : UInt64) (x3 : UInt64) (u0 : Value) (u1 : Value) (u2 : Value) (h0 : Heap) (n0 : Nat) (v : Option Value) (h : Heap) (L : List Loc) : Prop := v = none ∧ Fr n0 L ∧ Keep h0 h [a] ∧ Exa Z h a "com/example/hydromeme/hydromeme/Network$Junction" ∧ Fld Z h a "com/example/hydromeme/hydromeme/Network$Junction" "id" "Ljava/lang/String;" (.ref x1) ∧ Fld Z h a "com/example/hydromeme/hydromeme/Network$Junction" "elevation" "D" (.double x2) ∧ Fld Z h a "com/example/hydromeme/hydromeme/Network$Junction" "demand" "D" (.double x3)
set_option maxRecDepth 65536 in
set_option maxHeartbeats 40000000 in
theorem rju (l : Launch) (Z : State) (a0 : Array Value) (hw : ∀ d ∈ tables_1, d.before a0 Z = true) (ws : List Jvm.Cond) (a : Addr) (x1 : Addr) (x2 : UInt64) (x3 : UInt64) (u0 : Value) (u1 : Value) (u2 : Value) (h0 : Heap) (n0 : Nat) (Z0 : n0 ≤ h0.size) (E_a : Exa Z h0 a "com/example/hydromeme/hydromeme/Network$Junction") (g_a : n0 ≤ a) (F_0 : Fld Z h0 a "com/example/hydromeme/hydromeme/Network$Junction" "id" "Ljava/lang/String;" u0) (F_1 : Fld Z h0 a "com/example/hydromeme/hydromeme/Network$Junction" "elevation" "D" u1) (F_2 : Fld Z h0 a "com/example/hydromeme/hydromeme/Network$Junction" "demand" "D" u2) :
    OCon l Z (⟨"com/example/hydromeme/hydromeme/Network$Junction", "<init>", "(Ljava/lang/String;DD)V"⟩ : MethodName) prog_35_method_1_code 6 none ws ({ frames := 2, cells := 0, slots := 0, locals := 24 } : Room) #[(.ref a), (.ref x1), (.double x2), (.double x3)] h0 (Q_rju Z a x1 x2 x3 u0 u1 u2 h0 n0) := by
  refine OCon.of (plainFor_of_name pn6) ?_
  intro p e s m below meth c s₁ Φ X0 hx hby hml hown hnm hret hlk hZ e0 hΦ
  have N0 := Fr.nil n0
  refine os (fun _ z => castTop (ef_rju m a x1 x2 x3) z) ?_
  have K0 := Keep.refl h0 [a]
  show OG p e below Φ s₁ m 0 #[rv a, rv x1, .val (.double x2), .second, .val (.double x3), .second] []
  refine os (fun _ z => XS.aloadN X0.here hx rfl (hb hby d5_0) rfl rfl z) ?_
  show OG p e below Φ s₁ m 1 #[rv a, rv x1, .val (.double x2), .second, .val (.double x3), .second] [(.ref a)]
  obtain ⟨_, T1, L1, X1, hQ1, st1⟩ := own_callSp X0 hx hZ rfl hown (ow41 hw) (ow42 hw) (ow44 hw) (ow45 hw) (by decide) (rrec l Z a0 hw [] a h0 n0 Z0 ) e0 (W := 0) (by decide) (by decide) (by decide) (by decide) (pc := 1) (ls := #[rv a, rv x1, .val (.double x2), .second, .val (.double x3), .second]) (stk := [(.ref a)]) (by rw [hml]; rfl) (a := a) (argsL := []) (rest := []) (lenOf pd0 rfl) rfl rfl (Nat.le_of_eq rfl) (hb hby d5_1)
  obtain ⟨rfl, Nq1, e1⟩ := hQ1
  have N1 := Fr.app N0 Nq1
  refine os st1 ?_
  show OG p e below Φ T1 m 4 #[rv a, rv x1, .val (.double x2), .second, .val (.double x3), .second] []
  refine os (fun _ z => XS.aloadN X1.here hx rfl (hb hby d5_4) rfl rfl z) ?_
  show OG p e below Φ T1 m 5 #[rv a, rv x1, .val (.double x2), .second, .val (.double x3), .second] [(.ref a)]
  refine os (fun _ z => XS.aloadN X1.here hx rfl (hb hby d5_5) rfl rfl z) ?_
  show OG p e below Φ T1 m 6 #[rv a, rv x1, .val (.double x2), .second, .val (.double x3), .second] [(.ref x1), (.ref a)]
  obtain ⟨T2, h2, X2, e2, W2, st2⟩ := putF X1 hx hZ hown (host := "") (Or.inl (ow47 hw)) Via.refl e1 F_0 E_a (Or.inr ⟨(ow48 hw), rfl, hnm⟩) (ow28 hw) (ty := (.object "java/lang/String")) (by decide) rfl rfl (g := (mkF m 6 #[rv a, rv x1, .val (.double x2), .second, .val (.double x3), .second] [(.ref x1), (.ref a)])) rfl rfl (hb hby d5_6)
  have F3 := E_a.wr W2
  have F4 := F_0.same W2
  have F5 := F_1.other W2 (Or.inr (slot_ne (Or.inr (ow50 hw)) (Or.inr (ow48 hw)) (by decide) (t := .double) (t' := (.object "java/lang/String")) (by decide) (by decide)))
  have F6 := F_2.other W2 (Or.inr (slot_ne (Or.inr (ow52 hw)) (Or.inr (ow48 hw)) (by decide) (t := .double) (t' := (.object "java/lang/String")) (by decide) (by decide)))
  have K2 := K0.wr W2 (Or.inl (List.mem_of_getElem? (i := 0) rfl))
  have N2 := Fr.snoc X2 N1 g_a
  have Zs2 : n0 ≤ h2.size := by rw [W2.size]; exact Z0
  refine os st2 ?_
  show OG p e below Φ T2 m 9 #[rv a, rv x1, .val (.double x2), .second, .val (.double x3), .second] []
  refine os (fun _ z => XS.aloadN X2.here hx rfl (hb hby d5_9) rfl rfl z) ?_
  show OG p e below Φ T2 m 10 #[rv a, rv x1, .val (.double x2), .second, .val (.double x3), .second] [(.ref a)]
  refine os (fun _ z => XS.dloadN X2.here hx rfl (hb hby d5_10) rfl z) ?_
  show OG p e below Φ T2 m 11 #[rv a, rv x1, .val (.double x2), .second, .val (.double x3), .second] [(.double x2), (.ref a)]
  obtain ⟨T7, h7, X7, e7, W7, st7⟩ := putF X2 hx hZ hown (host := "") (Or.inl (ow49 hw)) Via.refl e2 F5 F3 (Or.inr ⟨(ow50 hw), rfl, hnm⟩) (ow28 hw) (ty := .double) (by decide) rfl rfl (g := (mkF m 11 #[rv a, rv x1, .val (.double x2), .second, .val (.double x3), .second] [(.double x2), (.ref a)])) rfl rfl (hb hby d5_11)
  have F8 := F3.wr W7
  have F9 := F4.other W7 (Or.inr (slot_ne (Or.inr (ow48 hw)) (Or.inr (ow50 hw)) (by decide) (t := (.object "java/lang/String")) (t' := .double) (by decide) (by decide)))
  have F10 := F5.same W7
  have F11 := F6.other W7 (Or.inr (slot_ne (Or.inr (ow52 hw)) (Or.inr (ow50 hw)) (by decide) (t := .double) (t' := .double) (by decide) (by decide)))
  have K7 := K2.wr W7 (Or.inl (List.mem_of_getElem? (i := 0) rfl))
  have N7 := Fr.snoc X7 N2 g_a
  have Zs7 : n0 ≤ h7.size := by rw [W7.size]; exact Zs2
  refine os st7 ?_
  show OG p e below Φ T7 m 14 #[rv a, rv x1, .val (.double x2), .second, .val (.double x3), .second] []
  refine os (fun _ z => XS.aloadN X7.here hx rfl (hb hby d5_14) rfl rfl z) ?_
  show OG p e below Φ T7 m 15 #[rv a, rv x1, .val (.double x2), .second, .val (.double x3), .second] [(.ref a)]
  refine os (fun _ z => XS.dload X7.here hx rfl (hb hby d5_15) rfl z) ?_
  show OG p e below Φ T7 m 17 #[rv a, rv x1, .val (.double x2), .second, .val (.double x3), .second] [(.double x3), (.ref a)]
  obtain ⟨T12, h12, X12, e12, W12, st12⟩ := putF X7 hx hZ hown (host := "") (Or.inl (ow51 hw)) Via.refl e7 F11 F8 (Or.inr ⟨(ow52 hw), rfl, hnm⟩) (ow28 hw) (ty := .double) (by decide) rfl rfl (g := (mkF m 17 #[rv a, rv x1, .val (.double x2), .second, .val (.double x3), .second] [(.double x3), (.ref a)])) rfl rfl (hb hby d5_17)
  have F13 := F8.wr W12
  have F14 := F9.other W12 (Or.inr (slot_ne (Or.inr (ow48 hw)) (Or.inr (ow52 hw)) (by decide) (t := (.object "java/lang/String")) (t' := .double) (by decide) (by decide)))
  have F15 := F10.other W12 (Or.inr (slot_ne (Or.inr (ow50 hw)) (Or.inr (ow52 hw)) (by decide) (t := .double) (t' := .double) (by decide) (by decide)))
  have F16 := F11.same W12
  have K12 := K7.wr W12 (Or.inl (List.mem_of_getElem? (i := 0) rfl))
  have N12 := Fr.snoc X12 N7 g_a
  have Zs12 : n0 ≤ h12.size := by rw [W12.size]; exact Zs7
  refine os st12 ?_
  show OG p e below Φ T12 m 20 #[rv a, rv x1, .val (.double x2), .second, .val (.double x3), .second] []
  refine OGo.fin X12 hlk (v := none) (fun _ => rfl) (by decide) (by decide) (fun fs hr => X12.returnOut hx hret (hb hby d5_20) hr) fun U eU hF => hΦ _ _ _ ?_ hF
  rw [eU, e12]
  show Q_rju Z a x1 x2 x3 u0 u1 u2 h0 n0 _ _ _
  exact ⟨rfl, N12, K12, F13, F14, F15, F16⟩

theorem pn7 : plainName "com/example/hydromeme/hydromeme/Evaluation" = true := by first | (simp [plainName, overriddenIn]; done) | decide +kernel
theorem d19_0 : decode prog_9_method_1_code 0 = .ok (.aload_n 0, 1) := by decide +kernel
theorem d19_1 : decode prog_9_method_1_code 1 = .ok (.invokespecial 1, 3) := by decide +kernel
theorem d19_4 : decode prog_9_method_1_code 4 = .ok (.aload_n 0, 1) := by decide +kernel
theorem d19_5 : decode prog_9_method_1_code 5 = .ok (.dload_n 1, 1) := by decide +kernel
theorem d19_6 : decode prog_9_method_1_code 6 = .ok (.putfield 7, 3) := by decide +kernel
theorem d19_9 : decode prog_9_method_1_code 9 = .ok (.aload_n 0, 1) := by decide +kernel
theorem d19_10 : decode prog_9_method_1_code 10 = .ok (.aload_n 3, 1) := by decide +kernel
theorem d19_11 : decode prog_9_method_1_code 11 = .ok (.putfield 13, 3) := by decide +kernel
theorem d19_14 : decode prog_9_method_1_code 14 = .ok (.aload_n 0, 1) := by decide +kernel
theorem d19_15 : decode prog_9_method_1_code 15 = .ok (.aload 4, 2) := by decide +kernel
theorem d19_17 : decode prog_9_method_1_code 17 = .ok (.putfield 17, 3) := by decide +kernel
theorem d19_20 : decode prog_9_method_1_code 20 = .ok (.aload_n 0, 1) := by decide +kernel
theorem d19_21 : decode prog_9_method_1_code 21 = .ok (.aload 5, 2) := by decide +kernel
theorem d19_23 : decode prog_9_method_1_code 23 = .ok (.putfield 20, 3) := by decide +kernel
theorem d19_26 : decode prog_9_method_1_code 26 = .ok (.aload_n 0, 1) := by decide +kernel
theorem d19_27 : decode prog_9_method_1_code 27 = .ok (.aload 6, 2) := by decide +kernel
theorem d19_29 : decode prog_9_method_1_code 29 = .ok (.putfield 23, 3) := by decide +kernel
theorem d19_32 : decode prog_9_method_1_code 32 = .ok (.aload_n 0, 1) := by decide +kernel
theorem d19_33 : decode prog_9_method_1_code 33 = .ok (.iload 7, 2) := by decide +kernel
theorem d19_35 : decode prog_9_method_1_code 35 = .ok (.putfield 26, 3) := by decide +kernel
theorem d19_38 : decode prog_9_method_1_code 38 = .ok (.aload_n 0, 1) := by decide +kernel
theorem d19_39 : decode prog_9_method_1_code 39 = .ok (.dload 8, 2) := by decide +kernel
theorem d19_41 : decode prog_9_method_1_code 41 = .ok (.putfield 30, 3) := by decide +kernel
theorem d19_44 : decode prog_9_method_1_code 44 = .ok (.return_, 1) := by decide +kernel
theorem ef_revi (m : MethodId) (x0 : Addr) (x1 : UInt64) (x2 : Addr) (x3 : Addr) (x4 : Addr) (x5 : Addr) (x6 : Int32) (x7 : UInt64) : entryFrame m #[(.ref x0), (.double x1), (.ref x2), (.ref x3), (.ref x4), (.ref x5), (.int x6), (.double x7)] 10 = mkF m 0 #[.val (.ref x0), .val (.double x1), .second, .val (.ref x2), .val (.ref x3), .val (.ref x4), .val (.ref x5), .val (.int x6), .val (.double x7), .second] [] := by first | (simp [entryFrame, mkF, argsToLocals, Value.category]; done) | rfl
def Q_revi (Z : State) (a : Addr) (x1 : UInt64) (x2 : Addr) (x3 : Addr) (x4 : Addr) (x5 : Addr) (x6 : Int32) (x7 : UInt64) (u0 : Value) (u1 : Value) (u2 : Value) (u3 : Value) (u4 : Value) (u5 : Value) (u6 : Value) (h0 : Heap) (n0 : Nat) (v : Option Value) (h : Heap) (L : List Loc) : Prop := v = none ∧ Fr n0 L ∧ Keep h0 h [a] ∧ Exa Z h a "com/example/hydromeme/hydromeme/Evaluation" ∧ Fld Z h a "com/example/hydromeme/hydromeme/Evaluation" "cost" "D" (.double x1) ∧ Fld Z h a "com/example/hydromeme/hydromeme/Evaluation" "heads" "[D" (.ref x2) ∧ Fld Z h a "com/example/hydromeme/hydromeme/Evaluation" "pressures" "[D" (.ref x3) ∧ Fld Z h a "com/example/hydromeme/hydromeme/Evaluation" "margins" "[D" (.ref x4) ∧ Fld Z h a "com/example/hydromeme/hydromeme/Evaluation" "flows" "[D" (.ref x5) ∧ Fld Z h a "com/example/hydromeme/hydromeme/Evaluation" "critical" "I" (.int x6) ∧ Fld Z h a "com/example/hydromeme/hydromeme/Evaluation" "deficit" "D" (.double x7)
set_option maxRecDepth 65536 in
set_option maxHeartbeats 40000000 in
theorem revi (l : Launch) (Z : State) (a0 : Array Value) (hw : ∀ d ∈ tables_1, d.before a0 Z = true) (ws : List Jvm.Cond) (a : Addr) (x1 : UInt64) (x2 : Addr) (x3 : Addr) (x4 : Addr) (x5 : Addr) (x6 : Int32) (x7 : UInt64) (u0 : Value) (u1 : Value) (u2 : Value) (u3 : Value) (u4 : Value) (u5 : Value) (u6 : Value) (h0 : Heap) (n0 : Nat) (Z0 : n0 ≤ h0.size) (E_a : Exa Z h0 a "com/example/hydromeme/hydromeme/Evaluation") (g_a : n0 ≤ a) (F_0 : Fld Z h0 a "com/example/hydromeme/hydromeme/Evaluation" "cost" "D" u0) (F_1 : Fld Z h0 a "com/example/hydromeme/hydromeme/Evaluation" "heads" "[D" u1) (F_2 : Fld Z h0 a "com/example/hydromeme/hydromeme/Evaluation" "pressures" "[D" u2) (F_3 : Fld Z h0 a "com/example/hydromeme/hydromeme/Evaluation" "margins" "[D" u3) (F_4 : Fld Z h0 a "com/example/hydromeme/hydromeme/Evaluation" "flows" "[D" u4) (F_5 : Fld Z h0 a "com/example/hydromeme/hydromeme/Evaluation" "critical" "I" u5) (F_6 : Fld Z h0 a "com/example/hydromeme/hydromeme/Evaluation" "deficit" "D" u6) :
    OCon l Z (⟨"com/example/hydromeme/hydromeme/Evaluation", "<init>", "(D[D[D[D[DID)V"⟩ : MethodName) prog_9_method_1_code 10 none ws ({ frames := 2, cells := 0, slots := 0, locals := 24 } : Room) #[(.ref a), (.double x1), (.ref x2), (.ref x3), (.ref x4), (.ref x5), (.int x6), (.double x7)] h0 (Q_revi Z a x1 x2 x3 x4 x5 x6 x7 u0 u1 u2 u3 u4 u5 u6 h0 n0) := by
  refine OCon.of (plainFor_of_name pn7) ?_
  intro p e s m below meth c s₁ Φ X0 hx hby hml hown hnm hret hlk hZ e0 hΦ
  have N0 := Fr.nil n0
  refine os (fun _ z => castTop (ef_revi m a x1 x2 x3 x4 x5 x6 x7) z) ?_
  have K0 := Keep.refl h0 [a]
  show OG p e below Φ s₁ m 0 #[rv a, .val (.double x1), .second, rv x2, rv x3, rv x4, rv x5, iv x6, .val (.double x7), .second] []
  refine os (fun _ z => XS.aloadN X0.here hx rfl (hb hby d19_0) rfl rfl z) ?_
  show OG p e below Φ s₁ m 1 #[rv a, .val (.double x1), .second, rv x2, rv x3, rv x4, rv x5, iv x6, .val (.double x7), .second] [(.ref a)]
  obtain ⟨_, T1, L1, X1, hQ1, st1⟩ := own_callSp X0 hx hZ rfl hown (ow126 hw) (ow42 hw) (ow44 hw) (ow45 hw) (by decide) (rrec l Z a0 hw [] a h0 n0 Z0 ) e0 (W := 0) (by decide) (by decide) (by decide) (by decide) (pc := 1) (ls := #[rv a, .val (.double x1), .second, rv x2, rv x3, rv x4, rv x5, iv x6, .val (.double x7), .second]) (stk := [(.ref a)]) (by rw [hml]; rfl) (a := a) (argsL := []) (rest := []) (lenOf pd0 rfl) rfl rfl (Nat.le_of_eq rfl) (hb hby d19_1)
  obtain ⟨rfl, Nq1, e1⟩ := hQ1
  have N1 := Fr.app N0 Nq1
  refine os st1 ?_
  show OG p e below Φ T1 m 4 #[rv a, .val (.double x1), .second, rv x2, rv x3, rv x4, rv x5, iv x6, .val (.double x7), .second] []
  refine os (fun _ z => XS.aloadN X1.here hx rfl (hb hby d19_4) rfl rfl z) ?_
  show OG p e below Φ T1 m 5 #[rv a, .val (.double x1), .second, rv x2, rv x3, rv x4, rv x5, iv x6, .val (.double x7), .second] [(.ref a)]
  refine os (fun _ z => XS.dloadN X1.here hx rfl (hb hby d19_5) rfl z) ?_
  show OG p e below Φ T1 m 6 #[rv a, .val (.double x1), .second, rv x2, rv x3, rv x4, rv x5, iv x6, .val (.double x7), .second] [(.double x1), (.ref a)]
  obtain ⟨T2, h2, X2, e2, W2, st2⟩ := putF X1 hx hZ hown (host := "") (Or.inl (ow127 hw)) Via.refl e1 F_0 E_a (Or.inr ⟨(ow128 hw), rfl, hnm⟩) (ow122 hw) (ty := .double) (by decide) rfl rfl (g := (mkF m 6 #[rv a, .val (.double x1), .second, rv x2, rv x3, rv x4, rv x5, iv x6, .val (.double x7), .second] [(.double x1), (.ref a)])) rfl rfl (hb hby d19_6)
  have F3 := E_a.wr W2
  have F4 := F_0.same W2
  have F5 := F_1.other W2 (Or.inr (slot_ne (Or.inr (ow130 hw)) (Or.inr (ow128 hw)) (by decide) (t := (.array .double)) (t' := .double) (by decide) (by decide)))
  have F6 := F_2.other W2 (Or.inr (slot_ne (Or.inr (ow132 hw)) (Or.inr (ow128 hw)) (by decide) (t := (.array .double)) (t' := .double) (by decide) (by decide)))
  have F7 := F_3.other W2 (Or.inr (slot_ne (Or.inr (ow134 hw)) (Or.inr (ow128 hw)) (by decide) (t := (.array .double)) (t' := .double) (by decide) (by decide)))
  have F8 := F_4.other W2 (Or.inr (slot_ne (Or.inr (ow136 hw)) (Or.inr (ow128 hw)) (by decide) (t := (.array .double)) (t' := .double) (by decide) (by decide)))
  have F9 := F_5.other W2 (Or.inr (slot_ne (Or.inr (ow138 hw)) (Or.inr (ow128 hw)) (by decide) (t := .int) (t' := .double) (by decide) (by decide)))
  have F10 := F_6.other W2 (Or.inr (slot_ne (Or.inr (ow140 hw)) (Or.inr (ow128 hw)) (by decide) (t := .double) (t' := .double) (by decide) (by decide)))
  have K2 := K0.wr W2 (Or.inl (List.mem_of_getElem? (i := 0) rfl))
  have N2 := Fr.snoc X2 N1 g_a
  have Zs2 : n0 ≤ h2.size := by rw [W2.size]; exact Z0
  refine os st2 ?_
  show OG p e below Φ T2 m 9 #[rv a, .val (.double x1), .second, rv x2, rv x3, rv x4, rv x5, iv x6, .val (.double x7), .second] []
  refine os (fun _ z => XS.aloadN X2.here hx rfl (hb hby d19_9) rfl rfl z) ?_
  show OG p e below Φ T2 m 10 #[rv a, .val (.double x1), .second, rv x2, rv x3, rv x4, rv x5, iv x6, .val (.double x7), .second] [(.ref a)]
  refine os (fun _ z => XS.aloadN X2.here hx rfl (hb hby d19_10) rfl rfl z) ?_
  show OG p e below Φ T2 m 11 #[rv a, .val (.double x1), .second, rv x2, rv x3, rv x4, rv x5, iv x6, .val (.double x7), .second] [(.ref x2), (.ref a)]
  obtain ⟨T11, h11, X11, e11, W11, st11⟩ := putF X2 hx hZ hown (host := "") (Or.inl (ow129 hw)) Via.refl e2 F5 F3 (Or.inr ⟨(ow130 hw), rfl, hnm⟩) (ow122 hw) (ty := (.array .double)) (by decide) rfl rfl (g := (mkF m 11 #[rv a, .val (.double x1), .second, rv x2, rv x3, rv x4, rv x5, iv x6, .val (.double x7), .second] [(.ref x2), (.ref a)])) rfl rfl (hb hby d19_11)
  have F12 := F3.wr W11
  have F13 := F4.other W11 (Or.inr (slot_ne (Or.inr (ow128 hw)) (Or.inr (ow130 hw)) (by decide) (t := .double) (t' := (.array .double)) (by decide) (by decide)))
  have F14 := F5.same W11
  have F15 := F6.other W11 (Or.inr (slot_ne (Or.inr (ow132 hw)) (Or.inr (ow130 hw)) (by decide) (t := (.array .double)) (t' := (.array .double)) (by decide) (by decide)))
  have F16 := F7.other W11 (Or.inr (slot_ne (Or.inr (ow134 hw)) (Or.inr (ow130 hw)) (by decide) (t := (.array .double)) (t' := (.array .double)) (by decide) (by decide)))
  have F17 := F8.other W11 (Or.inr (slot_ne (Or.inr (ow136 hw)) (Or.inr (ow130 hw)) (by decide) (t := (.array .double)) (t' := (.array .double)) (by decide) (by decide)))
  have F18 := F9.other W11 (Or.inr (slot_ne (Or.inr (ow138 hw)) (Or.inr (ow130 hw)) (by decide) (t := .int) (t' := (.array .double)) (by decide) (by decide)))
  have F19 := F10.other W11 (Or.inr (slot_ne (Or.inr (ow140 hw)) (Or.inr (ow130 hw)) (by decide) (t := .double) (t' := (.array .double)) (by decide) (by decide)))
  have K11 := K2.wr W11 (Or.inl (List.mem_of_getElem? (i := 0) rfl))
  have N11 := Fr.snoc X11 N2 g_a
  have Zs11 : n0 ≤ h11.size := by rw [W11.size]; exact Zs2
  refine os st11 ?_
  show OG p e below Φ T11 m 14 #[rv a, .val (.double x1), .second, rv x2, rv x3, rv x4, rv x5, iv x6, .val (.double x7), .second] []
  refine os (fun _ z => XS.aloadN X11.here hx rfl (hb hby d19_14) rfl rfl z) ?_
  show OG p e below Φ T11 m 15 #[rv a, .val (.double x1), .second, rv x2, rv x3, rv x4, rv x5, iv x6, .val (.double x7), .second] [(.ref a)]
  refine os (fun _ z => XS.aload X11.here hx rfl (hb hby d19_15) rfl rfl z) ?_
  show OG p e below Φ T11 m 17 #[rv a, .val (.double x1), .second, rv x2, rv x3, rv x4, rv x5, iv x6, .val (.double x7), .second] [(.ref x3), (.ref a)]
  obtain ⟨T20, h20, X20, e20, W20, st20⟩ := putF X11 hx hZ hown (host := "") (Or.inl (ow131 hw)) Via.refl e11 F15 F12 (Or.inr ⟨(ow132 hw), rfl, hnm⟩) (ow122 hw) (ty := (.array .double)) (by decide) rfl rfl (g := (mkF m 17 #[rv a, .val (.double x1), .second, rv x2, rv x3, rv x4, rv x5, iv x6, .val (.double x7), .second] [(.ref x3), (.ref a)])) rfl rfl (hb hby d19_17)
  have F21 := F12.wr W20
  have F22 := F13.other W20 (Or.inr (slot_ne (Or.inr (ow128 hw)) (Or.inr (ow132 hw)) (by decide) (t := .double) (t' := (.array .double)) (by decide) (by decide)))
  have F23 := F14.other W20 (Or.inr (slot_ne (Or.inr (ow130 hw)) (Or.inr (ow132 hw)) (by decide) (t := (.array .double)) (t' := (.array .double)) (by decide) (by decide)))
  have F24 := F15.same W20
  have F25 := F16.other W20 (Or.inr (slot_ne (Or.inr (ow134 hw)) (Or.inr (ow132 hw)) (by decide) (t := (.array .double)) (t' := (.array .double)) (by decide) (by decide)))
  have F26 := F17.other W20 (Or.inr (slot_ne (Or.inr (ow136 hw)) (Or.inr (ow132 hw)) (by decide) (t := (.array .double)) (t' := (.array .double)) (by decide) (by decide)))
  have F27 := F18.other W20 (Or.inr (slot_ne (Or.inr (ow138 hw)) (Or.inr (ow132 hw)) (by decide) (t := .int) (t' := (.array .double)) (by decide) (by decide)))
  have F28 := F19.other W20 (Or.inr (slot_ne (Or.inr (ow140 hw)) (Or.inr (ow132 hw)) (by decide) (t := .double) (t' := (.array .double)) (by decide) (by decide)))
  have K20 := K11.wr W20 (Or.inl (List.mem_of_getElem? (i := 0) rfl))
  have N20 := Fr.snoc X20 N11 g_a
  have Zs20 : n0 ≤ h20.size := by rw [W20.size]; exact Zs11
  refine os st20 ?_
  show OG p e below Φ T20 m 20 #[rv a, .val (.double x1), .second, rv x2, rv x3, rv x4, rv x5, iv x6, .val (.double x7), .second] []
  refine os (fun _ z => XS.aloadN X20.here hx rfl (hb hby d19_20) rfl rfl z) ?_
  show OG p e below Φ T20 m 21 #[rv a, .val (.double x1), .second, rv x2, rv x3, rv x4, rv x5, iv x6, .val (.double x7), .second] [(.ref a)]
  refine os (fun _ z => XS.aload X20.here hx rfl (hb hby d19_21) rfl rfl z) ?_
  show OG p e below Φ T20 m 23 #[rv a, .val (.double x1), .second, rv x2, rv x3, rv x4, rv x5, iv x6, .val (.double x7), .second] [(.ref x4), (.ref a)]
  obtain ⟨T29, h29, X29, e29, W29, st29⟩ := putF X20 hx hZ hown (host := "") (Or.inl (ow133 hw)) Via.refl e20 F25 F21 (Or.inr ⟨(ow134 hw), rfl, hnm⟩) (ow122 hw) (ty := (.array .double)) (by decide) rfl rfl (g := (mkF m 23 #[rv a, .val (.double x1), .second, rv x2, rv x3, rv x4, rv x5, iv x6, .val (.double x7), .second] [(.ref x4), (.ref a)])) rfl rfl (hb hby d19_23)
  have F30 := F21.wr W29
  have F31 := F22.other W29 (Or.inr (slot_ne (Or.inr (ow128 hw)) (Or.inr (ow134 hw)) (by decide) (t := .double) (t' := (.array .double)) (by decide) (by decide)))
  have F32 := F23.other W29 (Or.inr (slot_ne (Or.inr (ow130 hw)) (Or.inr (ow134 hw)) (by decide) (t := (.array .double)) (t' := (.array .double)) (by decide) (by decide)))
  have F33 := F24.other W29 (Or.inr (slot_ne (Or.inr (ow132 hw)) (Or.inr (ow134 hw)) (by decide) (t := (.array .double)) (t' := (.array .double)) (by decide) (by decide)))
  have F34 := F25.same W29
  have F35 := F26.other W29 (Or.inr (slot_ne (Or.inr (ow136 hw)) (Or.inr (ow134 hw)) (by decide) (t := (.array .double)) (t' := (.array .double)) (by decide) (by decide)))
  have F36 := F27.other W29 (Or.inr (slot_ne (Or.inr (ow138 hw)) (Or.inr (ow134 hw)) (by decide) (t := .int) (t' := (.array .double)) (by decide) (by decide)))
  have F37 := F28.other W29 (Or.inr (slot_ne (Or.inr (ow140 hw)) (Or.inr (ow134 hw)) (by decide) (t := .double) (t' := (.array .double)) (by decide) (by decide)))
  have K29 := K20.wr W29 (Or.inl (List.mem_of_getElem? (i := 0) rfl))
  have N29 := Fr.snoc X29 N20 g_a
  have Zs29 : n0 ≤ h29.size := by rw [W29.size]; exact Zs20
  refine os st29 ?_
  show OG p e below Φ T29 m 26 #[rv a, .val (.double x1), .second, rv x2, rv x3, rv x4, rv x5, iv x6, .val (.double x7), .second] []
  refine os (fun _ z => XS.aloadN X29.here hx rfl (hb hby d19_26) rfl rfl z) ?_
  show OG p e below Φ T29 m 27 #[rv a, .val (.double x1), .second, rv x2, rv x3, rv x4, rv x5, iv x6, .val (.double x7), .second] [(.ref a)]
  refine os (fun _ z => XS.aload X29.here hx rfl (hb hby d19_27) rfl rfl z) ?_
  show OG p e below Φ T29 m 29 #[rv a, .val (.double x1), .second, rv x2, rv x3, rv x4, rv x5, iv x6, .val (.double x7), .second] [(.ref x5), (.ref a)]
  obtain ⟨T38, h38, X38, e38, W38, st38⟩ := putF X29 hx hZ hown (host := "") (Or.inl (ow135 hw)) Via.refl e29 F35 F30 (Or.inr ⟨(ow136 hw), rfl, hnm⟩) (ow122 hw) (ty := (.array .double)) (by decide) rfl rfl (g := (mkF m 29 #[rv a, .val (.double x1), .second, rv x2, rv x3, rv x4, rv x5, iv x6, .val (.double x7), .second] [(.ref x5), (.ref a)])) rfl rfl (hb hby d19_29)
  have F39 := F30.wr W38
  have F40 := F31.other W38 (Or.inr (slot_ne (Or.inr (ow128 hw)) (Or.inr (ow136 hw)) (by decide) (t := .double) (t' := (.array .double)) (by decide) (by decide)))
  have F41 := F32.other W38 (Or.inr (slot_ne (Or.inr (ow130 hw)) (Or.inr (ow136 hw)) (by decide) (t := (.array .double)) (t' := (.array .double)) (by decide) (by decide)))
  have F42 := F33.other W38 (Or.inr (slot_ne (Or.inr (ow132 hw)) (Or.inr (ow136 hw)) (by decide) (t := (.array .double)) (t' := (.array .double)) (by decide) (by decide)))
  have F43 := F34.other W38 (Or.inr (slot_ne (Or.inr (ow134 hw)) (Or.inr (ow136 hw)) (by decide) (t := (.array .double)) (t' := (.array .double)) (by decide) (by decide)))
  have F44 := F35.same W38
  have F45 := F36.other W38 (Or.inr (slot_ne (Or.inr (ow138 hw)) (Or.inr (ow136 hw)) (by decide) (t := .int) (t' := (.array .double)) (by decide) (by decide)))
  have F46 := F37.other W38 (Or.inr (slot_ne (Or.inr (ow140 hw)) (Or.inr (ow136 hw)) (by decide) (t := .double) (t' := (.array .double)) (by decide) (by decide)))
  have K38 := K29.wr W38 (Or.inl (List.mem_of_getElem? (i := 0) rfl))
  have N38 := Fr.snoc X38 N29 g_a
  have Zs38 : n0 ≤ h38.size := by rw [W38.size]; exact Zs29
  refine os st38 ?_
  show OG p e below Φ T38 m 32 #[rv a, .val (.double x1), .second, rv x2, rv x3, rv x4, rv x5, iv x6, .val (.double x7), .second] []
  refine os (fun _ z => XS.aloadN X38.here hx rfl (hb hby d19_32) rfl rfl z) ?_
  show OG p e below Φ T38 m 33 #[rv a, .val (.double x1), .second, rv x2, rv x3, rv x4, rv x5, iv x6, .val (.double x7), .second] [(.ref a)]
  refine os (fun _ z => XS.iload X38.here hx rfl (hb hby d19_33) rfl z) ?_
  show OG p e below Φ T38 m 35 #[rv a, .val (.double x1), .second, rv x2, rv x3, rv x4, rv x5, iv x6, .val (.double x7), .second] [(.int x6), (.ref a)]
  obtain ⟨T47, h47, X47, e47, W47, st47⟩ := putF X38 hx hZ hown (host := "") (Or.inl (ow137 hw)) Via.refl e38 F45 F39 (Or.inr ⟨(ow138 hw), rfl, hnm⟩) (ow122 hw) (ty := .int) (by decide) rfl rfl (g := (mkF m 35 #[rv a, .val (.double x1), .second, rv x2, rv x3, rv x4, rv x5, iv x6, .val (.double x7), .second] [(.int x6), (.ref a)])) rfl rfl (hb hby d19_35)
  have F48 := F39.wr W47
  have F49 := F40.other W47 (Or.inr (slot_ne (Or.inr (ow128 hw)) (Or.inr (ow138 hw)) (by decide) (t := .double) (t' := .int) (by decide) (by decide)))
  have F50 := F41.other W47 (Or.inr (slot_ne (Or.inr (ow130 hw)) (Or.inr (ow138 hw)) (by decide) (t := (.array .double)) (t' := .int) (by decide) (by decide)))
  have F51 := F42.other W47 (Or.inr (slot_ne (Or.inr (ow132 hw)) (Or.inr (ow138 hw)) (by decide) (t := (.array .double)) (t' := .int) (by decide) (by decide)))
  have F52 := F43.other W47 (Or.inr (slot_ne (Or.inr (ow134 hw)) (Or.inr (ow138 hw)) (by decide) (t := (.array .double)) (t' := .int) (by decide) (by decide)))
  have F53 := F44.other W47 (Or.inr (slot_ne (Or.inr (ow136 hw)) (Or.inr (ow138 hw)) (by decide) (t := (.array .double)) (t' := .int) (by decide) (by decide)))
  have F54 := F45.same W47
  have F55 := F46.other W47 (Or.inr (slot_ne (Or.inr (ow140 hw)) (Or.inr (ow138 hw)) (by decide) (t := .double) (t' := .int) (by decide) (by decide)))
  have K47 := K38.wr W47 (Or.inl (List.mem_of_getElem? (i := 0) rfl))
  have N47 := Fr.snoc X47 N38 g_a
  have Zs47 : n0 ≤ h47.size := by rw [W47.size]; exact Zs38
  refine os st47 ?_
  show OG p e below Φ T47 m 38 #[rv a, .val (.double x1), .second, rv x2, rv x3, rv x4, rv x5, iv x6, .val (.double x7), .second] []
  refine os (fun _ z => XS.aloadN X47.here hx rfl (hb hby d19_38) rfl rfl z) ?_
  show OG p e below Φ T47 m 39 #[rv a, .val (.double x1), .second, rv x2, rv x3, rv x4, rv x5, iv x6, .val (.double x7), .second] [(.ref a)]
  refine os (fun _ z => XS.dload X47.here hx rfl (hb hby d19_39) rfl z) ?_
  show OG p e below Φ T47 m 41 #[rv a, .val (.double x1), .second, rv x2, rv x3, rv x4, rv x5, iv x6, .val (.double x7), .second] [(.double x7), (.ref a)]
  obtain ⟨T56, h56, X56, e56, W56, st56⟩ := putF X47 hx hZ hown (host := "") (Or.inl (ow139 hw)) Via.refl e47 F55 F48 (Or.inr ⟨(ow140 hw), rfl, hnm⟩) (ow122 hw) (ty := .double) (by decide) rfl rfl (g := (mkF m 41 #[rv a, .val (.double x1), .second, rv x2, rv x3, rv x4, rv x5, iv x6, .val (.double x7), .second] [(.double x7), (.ref a)])) rfl rfl (hb hby d19_41)
  have F57 := F48.wr W56
  have F58 := F49.other W56 (Or.inr (slot_ne (Or.inr (ow128 hw)) (Or.inr (ow140 hw)) (by decide) (t := .double) (t' := .double) (by decide) (by decide)))
  have F59 := F50.other W56 (Or.inr (slot_ne (Or.inr (ow130 hw)) (Or.inr (ow140 hw)) (by decide) (t := (.array .double)) (t' := .double) (by decide) (by decide)))
  have F60 := F51.other W56 (Or.inr (slot_ne (Or.inr (ow132 hw)) (Or.inr (ow140 hw)) (by decide) (t := (.array .double)) (t' := .double) (by decide) (by decide)))
  have F61 := F52.other W56 (Or.inr (slot_ne (Or.inr (ow134 hw)) (Or.inr (ow140 hw)) (by decide) (t := (.array .double)) (t' := .double) (by decide) (by decide)))
  have F62 := F53.other W56 (Or.inr (slot_ne (Or.inr (ow136 hw)) (Or.inr (ow140 hw)) (by decide) (t := (.array .double)) (t' := .double) (by decide) (by decide)))
  have F63 := F54.other W56 (Or.inr (slot_ne (Or.inr (ow138 hw)) (Or.inr (ow140 hw)) (by decide) (t := .int) (t' := .double) (by decide) (by decide)))
  have F64 := F55.same W56
  have K56 := K47.wr W56 (Or.inl (List.mem_of_getElem? (i := 0) rfl))
  have N56 := Fr.snoc X56 N47 g_a
  have Zs56 : n0 ≤ h56.size := by rw [W56.size]; exact Zs47
  refine os st56 ?_
  show OG p e below Φ T56 m 44 #[rv a, .val (.double x1), .second, rv x2, rv x3, rv x4, rv x5, iv x6, .val (.double x7), .second] []
  refine OGo.fin X56 hlk (v := none) (fun _ => rfl) (by decide) (by decide) (fun fs hr => X56.returnOut hx hret (hb hby d19_44) hr) fun U eU hF => hΦ _ _ _ ?_ hF
  rw [eU, e56]
  show Q_revi Z a x1 x2 x3 x4 x5 x6 x7 u0 u1 u2 u3 u4 u5 u6 h0 n0 _ _ _
  exact ⟨rfl, N56, K56, F57, F58, F59, F60, F61, F62, F63, F64⟩

theorem d17_0 : decode prog_35_method_6_code 0 = .ok (.aload_n 0, 1) := by decide +kernel
theorem d17_1 : decode prog_35_method_6_code 1 = .ok (.getfield 13, 3) := by decide +kernel
theorem d17_4 : decode prog_35_method_6_code 4 = .ok (.dreturn, 1) := by decide +kernel
theorem ef_relv (m : MethodId) (x0 : Addr) : entryFrame m #[(.ref x0)] 1 = mkF m 0 #[.val (.ref x0)] [] := by first | (simp [entryFrame, mkF, argsToLocals, Value.category]; done) | rfl
def Q_relv (Z : State) (a : Addr) (q : UInt64) (h0 : Heap) (n0 : Nat) (v : Option Value) (h : Heap) (L : List Loc) : Prop := v = some (.double q) ∧ Fr n0 L ∧ h = h0
set_option maxRecDepth 65536 in
set_option maxHeartbeats 40000000 in
theorem relv (l : Launch) (Z : State) (a0 : Array Value) (hw : ∀ d ∈ tables_1, d.before a0 Z = true) (ws : List Jvm.Cond) (a : Addr) (q : UInt64) (h0 : Heap) (n0 : Nat) (Z0 : n0 ≤ h0.size) (F_a : Fld Z h0 a "com/example/hydromeme/hydromeme/Network$Junction" "elevation" "D" (.double q)) :
    OCon l Z (⟨"com/example/hydromeme/hydromeme/Network$Junction", "elevation", "()D"⟩ : MethodName) prog_35_method_6_code 1 (some .double) ws ({ frames := 0, cells := 0, slots := 0, locals := 0 } : Room) #[(.ref a)] h0 (Q_relv Z a q h0 n0) := by
  refine OCon.of (plainFor_of_name pn6) ?_
  intro p e s m below meth c s₁ Φ X0 hx hby hml hown hnm hret hlk hZ e0 hΦ
  have N0 := Fr.nil n0
  refine os (fun _ z => castTop (ef_relv m a) z) ?_
  show OG p e below Φ s₁ m 0 #[rv a] []
  refine os (fun _ z => XS.aloadN X0.here hx rfl (hb hby d17_0) rfl rfl z) ?_
  show OG p e below Φ s₁ m 1 #[rv a] [(.ref a)]
  obtain ⟨T1, X1, e1, st1⟩ := getF X0 hx hZ hown (host := "") (Or.inl (ow49 hw)) Via.refl e0 F_a (g := (mkF m 1 #[rv a] [(.ref a)])) rfl rfl (hb hby d17_1)
  refine os st1 ?_
  show OG p e below Φ T1 m 4 #[rv a] [(.double q)]
  refine OGo.fin X1 hlk (v := (some (.double q))) (fun h => by rw [hret] at h; cases h) (by decide) (by decide) (fun fs hr => retOut X1 hx hret rfl (Or.inr (Or.inr (Or.inl ⟨rfl, rfl, _, rfl⟩))) (hb hby d17_4) hr) fun U eU hF => hΦ _ _ _ ?_ hF
  rw [eU, e1]
  show Q_relv Z a q h0 n0 _ _ _
  exact ⟨rfl, N0, rfl⟩

theorem d12_0 : decode prog_9_method_2_code 0 = .ok (.aload_n 2, 1) := by decide +kernel
theorem d12_1 : decode prog_9_method_2_code 1 = .ok (.arraylength, 1) := by decide +kernel
theorem d12_2 : decode prog_9_method_2_code 2 = .ok (.newarray .double, 2) := by decide +kernel
theorem d12_4 : decode prog_9_method_2_code 4 = .ok (.astore 6, 2) := by decide +kernel
theorem d12_6 : decode prog_9_method_2_code 6 = .ok (.aload_n 2, 1) := by decide +kernel
theorem d12_7 : decode prog_9_method_2_code 7 = .ok (.arraylength, 1) := by decide +kernel
theorem d12_8 : decode prog_9_method_2_code 8 = .ok (.newarray .double, 2) := by decide +kernel
theorem d12_10 : decode prog_9_method_2_code 10 = .ok (.astore 7, 2) := by decide +kernel
theorem d12_12 : decode prog_9_method_2_code 12 = .ok (.iconst 0, 1) := by decide +kernel
theorem d12_13 : decode prog_9_method_2_code 13 = .ok (.istore 8, 2) := by decide +kernel
theorem d12_15 : decode prog_9_method_2_code 15 = .ok (.dconst 0, 1) := by decide +kernel
theorem d12_16 : decode prog_9_method_2_code 16 = .ok (.dstore 9, 2) := by decide +kernel
theorem d12_18 : decode prog_9_method_2_code 18 = .ok (.iconst 0, 1) := by decide +kernel
theorem d12_19 : decode prog_9_method_2_code 19 = .ok (.istore 11, 2) := by decide +kernel
theorem d12_21 : decode prog_9_method_2_code 21 = .ok (.iload 11, 2) := by decide +kernel
theorem d12_23 : decode prog_9_method_2_code 23 = .ok (.aload_n 2, 1) := by decide +kernel
theorem d12_24 : decode prog_9_method_2_code 24 = .ok (.arraylength, 1) := by decide +kernel
theorem d12_25 : decode prog_9_method_2_code 25 = .ok (.if_icmp .ge 83, 3) := by decide +kernel
theorem d12_28 : decode prog_9_method_2_code 28 = .ok (.aload 6, 2) := by decide +kernel
theorem d12_30 : decode prog_9_method_2_code 30 = .ok (.iload 11, 2) := by decide +kernel
theorem d12_32 : decode prog_9_method_2_code 32 = .ok (.aload_n 2, 1) := by decide +kernel
theorem d12_33 : decode prog_9_method_2_code 33 = .ok (.iload 11, 2) := by decide +kernel
theorem d12_35 : decode prog_9_method_2_code 35 = .ok (.daload, 1) := by decide +kernel
theorem d12_36 : decode prog_9_method_2_code 36 = .ok (.aload 4, 2) := by decide +kernel
theorem d12_38 : decode prog_9_method_2_code 38 = .ok (.iload 11, 2) := by decide +kernel
theorem d12_40 : decode prog_9_method_2_code 40 = .ok (.invokeinterface 33 2, 5) := by decide +kernel
theorem d12_45 : decode prog_9_method_2_code 45 = .ok (.checkcast 39, 3) := by decide +kernel
theorem d12_48 : decode prog_9_method_2_code 48 = .ok (.invokevirtual 41, 3) := by decide +kernel
theorem pd7 : parseMethodDescriptor "()D" = some ⟨[], some .double⟩ := by decide +kernel
theorem d12_51 : decode prog_9_method_2_code 51 = .ok (.dsub, 1) := by decide +kernel
theorem d12_52 : decode prog_9_method_2_code 52 = .ok (.dastore, 1) := by decide +kernel
theorem d12_53 : decode prog_9_method_2_code 53 = .ok (.aload 7, 2) := by decide +kernel
theorem d12_55 : decode prog_9_method_2_code 55 = .ok (.iload 11, 2) := by decide +kernel
theorem d12_57 : decode prog_9_method_2_code 57 = .ok (.aload 6, 2) := by decide +kernel
theorem d12_59 : decode prog_9_method_2_code 59 = .ok (.iload 11, 2) := by decide +kernel
theorem d12_61 : decode prog_9_method_2_code 61 = .ok (.daload, 1) := by decide +kernel
theorem d12_62 : decode prog_9_method_2_code 62 = .ok (.aload 5, 2) := by decide +kernel
theorem d12_64 : decode prog_9_method_2_code 64 = .ok (.iload 11, 2) := by decide +kernel
theorem d12_66 : decode prog_9_method_2_code 66 = .ok (.daload, 1) := by decide +kernel
theorem d12_67 : decode prog_9_method_2_code 67 = .ok (.dsub, 1) := by decide +kernel
theorem d12_68 : decode prog_9_method_2_code 68 = .ok (.dastore, 1) := by decide +kernel
theorem d12_69 : decode prog_9_method_2_code 69 = .ok (.aload 7, 2) := by decide +kernel
theorem d12_71 : decode prog_9_method_2_code 71 = .ok (.iload 11, 2) := by decide +kernel
theorem d12_73 : decode prog_9_method_2_code 73 = .ok (.daload, 1) := by decide +kernel
theorem d12_74 : decode prog_9_method_2_code 74 = .ok (.aload 7, 2) := by decide +kernel
theorem d12_76 : decode prog_9_method_2_code 76 = .ok (.iload 8, 2) := by decide +kernel
theorem d12_78 : decode prog_9_method_2_code 78 = .ok (.daload, 1) := by decide +kernel
theorem d12_79 : decode prog_9_method_2_code 79 = .ok (.dcmp .g, 1) := by decide +kernel
theorem d12_80 : decode prog_9_method_2_code 80 = .ok (.ifCond .ge 7, 3) := by decide +kernel
theorem d12_87 : decode prog_9_method_2_code 87 = .ok (.dload 9, 2) := by decide +kernel
theorem d12_89 : decode prog_9_method_2_code 89 = .ok (.aload 7, 2) := by decide +kernel
theorem d12_91 : decode prog_9_method_2_code 91 = .ok (.iload 11, 2) := by decide +kernel
theorem d12_93 : decode prog_9_method_2_code 93 = .ok (.daload, 1) := by decide +kernel
theorem d12_94 : decode prog_9_method_2_code 94 = .ok (.dneg, 1) := by decide +kernel
theorem d12_95 : decode prog_9_method_2_code 95 = .ok (.dconst 0, 1) := by decide +kernel
theorem d12_96 : decode prog_9_method_2_code 96 = .ok (.invokestatic 45, 3) := by decide +kernel
theorem pd8 : parseMethodDescriptor "(DD)D" = some ⟨[.double, .double], some .double⟩ := by decide +kernel
theorem d12_99 : decode prog_9_method_2_code 99 = .ok (.dadd, 1) := by decide +kernel
theorem d12_100 : decode prog_9_method_2_code 100 = .ok (.dstore 9, 2) := by decide +kernel
theorem d12_102 : decode prog_9_method_2_code 102 = .ok (.iinc 11 1, 3) := by decide +kernel
theorem d12_105 : decode prog_9_method_2_code 105 = .ok (.goto (-84), 3) := by decide +kernel
theorem d12_83 : decode prog_9_method_2_code 83 = .ok (.iload 11, 2) := by decide +kernel
theorem d12_85 : decode prog_9_method_2_code 85 = .ok (.istore 8, 2) := by decide +kernel
theorem d12_108 : decode prog_9_method_2_code 108 = .ok (.new 8, 3) := by decide +kernel
theorem d12_111 : decode prog_9_method_2_code 111 = .ok (.dup, 1) := by decide +kernel
theorem d12_112 : decode prog_9_method_2_code 112 = .ok (.dload_n 0, 1) := by decide +kernel
theorem d12_113 : decode prog_9_method_2_code 113 = .ok (.aload_n 2, 1) := by decide +kernel
theorem d12_114 : decode prog_9_method_2_code 114 = .ok (.aload 6, 2) := by decide +kernel
theorem d12_116 : decode prog_9_method_2_code 116 = .ok (.aload 7, 2) := by decide +kernel
theorem d12_118 : decode prog_9_method_2_code 118 = .ok (.aload_n 3, 1) := by decide +kernel
theorem d12_119 : decode prog_9_method_2_code 119 = .ok (.iload 8, 2) := by decide +kernel
theorem d12_121 : decode prog_9_method_2_code 121 = .ok (.dload 9, 2) := by decide +kernel
theorem d12_123 : decode prog_9_method_2_code 123 = .ok (.invokespecial 51, 3) := by decide +kernel
theorem pd9 : parseMethodDescriptor "(D[D[D[D[DID)V" = some ⟨[.double, (.array .double), (.array .double), (.array .double), (.array .double), .int, .double], none⟩ := by decide +kernel
theorem d12_126 : decode prog_9_method_2_code 126 = .ok (.areturn, 1) := by decide +kernel
theorem ef_rof (m : MethodId) (x0 : UInt64) (x1 : Addr) (x2 : Addr) (x3 : Addr) (x4 : Addr) : entryFrame m #[(.double x0), (.ref x1), (.ref x2), (.ref x3), (.ref x4)] 12 = mkF m 0 #[.val (.double x0), .second, .val (.ref x1), .val (.ref x2), .val (.ref x3), .val (.ref x4), .unset, .unset, .unset, .unset, .unset, .unset] [] := by first | (simp [entryFrame, mkF, argsToLocals, Value.category]; done) | rfl
def Q_rof (Z : State) (xc : UInt64) (hd : Addr) (ch : ClassId) (fl : Addr) (a : Addr) (mc : Int32) (d : Addr) (cd : ClassId) (y0_ : Addr) (y1_ : Addr) (mi : Addr) (cm : ClassId) (u0 : Int64) (u1 : Int64) (v0 : Int64) (v1 : Int64) (m0 : Int64) (m1 : Int64) (h0 : Heap) (n0 : Nat) (v : Option Value) (h : Heap) (L : List Loc) : Prop := ∃ ev, v = some (.ref ev) ∧ Fr n0 L ∧ Keep h0 h [] ∧ Exa Z h ev "com/example/hydromeme/hydromeme/Evaluation" ∧ Fld Z h ev "com/example/hydromeme/hydromeme/Evaluation" "deficit" "D" (.double (FP.l2d (own_def u0 v0 m0 u1 v1 m1))) ∧ own_Bd 5994 (own_def u0 v0 m0 u1 v1 m1) ∧ h0.size ≤ ev
set_option maxRecDepth 65536 in
set_option maxHeartbeats 40000000 in
theorem rof (l : Launch) (Z : State) (a0 : Array Value) (hw : ∀ d ∈ tables_1, d.before a0 Z = true) (ws : List Jvm.Cond) (xc : UInt64) (hd : Addr) (ch : ClassId) (fl : Addr) (a : Addr) (mc : Int32) (d : Addr) (cd : ClassId) (y0_ : Addr) (y1_ : Addr) (mi : Addr) (cm : ClassId) (u0 : Int64) (u1 : Int64) (v0 : Int64) (v1 : Int64) (m0 : Int64) (m1 : Int64) (h0 : Heap) (n0 : Nat) (Z0 : n0 ≤ h0.size) (V_h : Arv Z h0 hd ch .double (2 : Int32) [(.double (FP.l2d u0)), (.double (FP.l2d u1))] (.double (FP.l2d (0 : Int64)))) (V_m : Arv Z h0 mi cm .double (2 : Int32) [(.double (FP.l2d m0)), (.double (FP.l2d m1))] (.double (FP.l2d (0 : Int64)))) (E_a : Exa Z h0 a "java/util/ArrayList") (F_m : Fld Z h0 a "java/util/AbstractList" "modCount" "I" (.int mc)) (F_s : Fld Z h0 a "java/util/ArrayList" "size" "I" (.int (2 : Int32))) (F_e : Fld Z h0 a "java/util/ArrayList" "elementData" "[Ljava/lang/Object;" (.ref d)) (V_d : Arv Z h0 d cd (.object "java/lang/Object") (10 : Int32) [(.ref y0_), (.ref y1_), .null, .null, .null, .null, .null, .null, .null, .null] .null) (E_y0 : Exa Z h0 y0_ "com/example/hydromeme/hydromeme/Network$Junction") (E_y1 : Exa Z h0 y1_ "com/example/hydromeme/hydromeme/Network$Junction") (F_y0 : Fld Z h0 y0_ "com/example/hydromeme/hydromeme/Network$Junction" "elevation" "D" (.double (FP.l2d v0))) (F_y1 : Fld Z h0 y1_ "com/example/hydromeme/hydromeme/Network$Junction" "elevation" "D" (.double (FP.l2d v1))) (b_u0 : own_Bd 999 u0) (b_u1 : own_Bd 999 u1) (b_v0 : own_Bd 999 v0) (b_v1 : own_Bd 999 v1) (b_m0 : own_Bd 999 m0) (b_m1 : own_Bd 999 m1) :
    OCon l Z (⟨"com/example/hydromeme/hydromeme/Evaluation", "of", "(D[D[DLjava/util/List;[D)Lcom/example/hydromeme/hydromeme/Evaluation;"⟩ : MethodName) prog_9_method_2_code 12 (some (.object "com/example/hydromeme/hydromeme/Evaluation")) ws ({ frames := 3, cells := 3, slots := 11, locals := 46 } : Room) #[(.double xc), (.ref hd), (.ref fl), (.ref a), (.ref mi)] h0 (Q_rof Z xc hd ch fl a mc d cd y0_ y1_ mi cm u0 u1 v0 v1 m0 m1 h0 n0) := by
  refine OCon.of (plainFor_of_name pn7) ?_
  intro p e s m below meth c s₁ Φ X0 hx hby hml hown hnm hret hlk hZ e0 hΦ
  have N0 := Fr.nil n0
  refine os (fun _ z => castTop (ef_rof m xc hd fl a mi) z) ?_
  have K0 := Keep.refl h0 []
  show OG p e below Φ s₁ m 0 #[.val (.double xc), .second, rv hd, rv fl, rv a, rv mi, .unset, .unset, .unset, .unset, .unset, .unset] []
  refine os (fun _ z => XS.aloadN X0.here hx rfl (hb hby d12_0) rfl rfl z) ?_
  show OG p e below Φ s₁ m 1 #[.val (.double xc), .second, rv hd, rv fl, rv a, rv mi, .unset, .unset, .unset, .unset, .unset, .unset] [(.ref hd)]
  obtain ⟨cl1, Aq1, -, S1, M1, -, -⟩ := id V_h
  refine os (fun _ z => X0.arraylength hx (by rw [e0]; exact Aq1.1) (oia hZ Aq1.2.1) (g := (mkF m 1 #[.val (.double xc), .second, rv hd, rv fl, rv a, rv mi, .unset, .unset, .unset, .unset, .unset, .unset] [(.ref hd)])) rfl rfl (hb hby d12_1) _ z) ?_
  rw [len_of S1 M1]
  show OG p e below Φ s₁ m 2 #[.val (.double xc), .second, rv hd, rv fl, rv a, rv mi, .unset, .unset, .unset, .unset, .unset, .unset] [(.int 2)]
  obtain ⟨T2, h2, c2, X2, e2, E2, Ar2, st2⟩ := newP (aty := .double) X0 hx hZ (ow0 hw) e0 (g := (mkF m 2 #[.val (.double xc), .second, rv hd, rv fl, rv a, rv mi, .unset, .unset, .unset, .unset, .unset, .unset] [(.int 2)])) rfl (hb hby d12_2) rfl (by decide) (cap := 2) (by decide) (by decide) (by decide) (by decide)
  obtain ⟨b2, g2⟩ : ∃ z, z = h0.size := ⟨_, rfl⟩
  rw [← g2] at Ar2 st2
  have ne2_a : a ≠ b2 := by rw [g2]; exact Nat.ne_of_lt E_a.lt
  have ne2_d : d ≠ b2 := by rw [g2]; exact Nat.ne_of_lt V_d.lt
  have ne2_hd : hd ≠ b2 := by rw [g2]; exact Nat.ne_of_lt V_h.lt
  have ne2_mi : mi ≠ b2 := by rw [g2]; exact Nat.ne_of_lt V_m.lt
  have ne2_y0_ : y0_ ≠ b2 := by rw [g2]; exact Nat.ne_of_lt E_y0.lt
  have ne2_y1_ : y1_ ≠ b2 := by rw [g2]; exact Nat.ne_of_lt E_y1.lt
  have F3 := V_h.ext E2
  have F4 := V_m.ext E2
  have F5 := E_a.ext E2
  have F6 := F_m.ext E2
  have F7 := F_s.ext E2
  have F8 := F_e.ext E2
  have F9 := V_d.ext E2
  have F10 := E_y0.ext E2
  have F11 := E_y1.ext E2
  have F12 := F_y0.ext E2
  have F13 := F_y1.ext E2
  have gb2 : n0 ≤ b2 := Nat.le_trans Z0 (Nat.le_of_eq g2.symm)
  have sz2 : h0.size ≤ b2 := Nat.le_trans K0.1 (Nat.le_of_eq g2.symm)
  have K2 := K0.ext E2
  have Zs2 : n0 ≤ h2.size := Nat.le_trans Z0 E2.1
  have V2 : Arv Z h2 b2 c2 .double (2 : Int32) [(.double (FP.l2d (0 : Int64))), (.double (FP.l2d (0 : Int64)))] (.double (FP.l2d (0 : Int64))) := (Arv.newD Ar2 (by decide)).pad (pad_rep [] _ 2)
  refine os st2 ?_
  show OG p e below Φ T2 m 4 #[.val (.double xc), .second, rv hd, rv fl, rv a, rv mi, .unset, .unset, .unset, .unset, .unset, .unset] [(.ref b2)]
  refine os (fun _ z => XS.astore X2.here hx rfl (hb hby d12_4) rfl rfl (l' := #[.val (.double xc), .second, rv hd, rv fl, rv a, rv mi, rv b2, .unset, .unset, .unset, .unset, .unset]) rfl z) ?_
  show OG p e below Φ T2 m 6 #[.val (.double xc), .second, rv hd, rv fl, rv a, rv mi, rv b2, .unset, .unset, .unset, .unset, .unset] []
  refine os (fun _ z => XS.aloadN X2.here hx rfl (hb hby d12_6) rfl rfl z) ?_
  show OG p e below Φ T2 m 7 #[.val (.double xc), .second, rv hd, rv fl, rv a, rv mi, rv b2, .unset, .unset, .unset, .unset, .unset] [(.ref hd)]
  obtain ⟨cl14, Aq14, -, S14, M14, -, -⟩ := id F3
  refine os (fun _ z => X2.arraylength hx (by rw [e2]; exact Aq14.1) (oia hZ Aq14.2.1) (g := (mkF m 7 #[.val (.double xc), .second, rv hd, rv fl, rv a, rv mi, rv b2, .unset, .unset, .unset, .unset, .unset] [(.ref hd)])) rfl rfl (hb hby d12_7) _ z) ?_
  rw [len_of S14 M14]
  show OG p e below Φ T2 m 8 #[.val (.double xc), .second, rv hd, rv fl, rv a, rv mi, rv b2, .unset, .unset, .unset, .unset, .unset] [(.int 2)]
  obtain ⟨T15, h15, c15, X15, e15, E15, Ar15, st15⟩ := newP (aty := .double) X2 hx hZ (ow0 hw) e2 (g := (mkF m 8 #[.val (.double xc), .second, rv hd, rv fl, rv a, rv mi, rv b2, .unset, .unset, .unset, .unset, .unset] [(.int 2)])) rfl (hb hby d12_8) rfl (by decide) (cap := 2) (by decide) (by decide) (by decide) (by decide)
  obtain ⟨b15, g15⟩ : ∃ z, z = h2.size := ⟨_, rfl⟩
  rw [← g15] at Ar15 st15
  have ne15_a : a ≠ b15 := by rw [g15]; exact Nat.ne_of_lt F5.lt
  have ne15_b2 : b2 ≠ b15 := by rw [g15]; exact Nat.ne_of_lt V2.lt
  have ne15_d : d ≠ b15 := by rw [g15]; exact Nat.ne_of_lt F9.lt
  have ne15_hd : hd ≠ b15 := by rw [g15]; exact Nat.ne_of_lt F3.lt
  have ne15_mi : mi ≠ b15 := by rw [g15]; exact Nat.ne_of_lt F4.lt
  have ne15_y0_ : y0_ ≠ b15 := by rw [g15]; exact Nat.ne_of_lt F10.lt
  have ne15_y1_ : y1_ ≠ b15 := by rw [g15]; exact Nat.ne_of_lt F11.lt
  have F16 := F3.ext E15
  have F17 := F4.ext E15
  have F18 := F5.ext E15
  have F19 := F6.ext E15
  have F20 := F7.ext E15
  have F21 := F8.ext E15
  have F22 := F9.ext E15
  have F23 := F10.ext E15
  have F24 := F11.ext E15
  have F25 := F12.ext E15
  have F26 := F13.ext E15
  have F27 := V2.ext E15
  have gb15 : n0 ≤ b15 := Nat.le_trans Zs2 (Nat.le_of_eq g15.symm)
  have sz15 : h0.size ≤ b15 := Nat.le_trans K2.1 (Nat.le_of_eq g15.symm)
  have K15 := K2.ext E15
  have Zs15 : n0 ≤ h15.size := Nat.le_trans Zs2 E15.1
  have V15 : Arv Z h15 b15 c15 .double (2 : Int32) [(.double (FP.l2d (0 : Int64))), (.double (FP.l2d (0 : Int64)))] (.double (FP.l2d (0 : Int64))) := (Arv.newD Ar15 (by decide)).pad (pad_rep [] _ 2)
  refine os st15 ?_
  show OG p e below Φ T15 m 10 #[.val (.double xc), .second, rv hd, rv fl, rv a, rv mi, rv b2, .unset, .unset, .unset, .unset, .unset] [(.ref b15)]
  refine os (fun _ z => XS.astore X15.here hx rfl (hb hby d12_10) rfl rfl (l' := #[.val (.double xc), .second, rv hd, rv fl, rv a, rv mi, rv b2, rv b15, .unset, .unset, .unset, .unset]) rfl z) ?_
  show OG p e below Φ T15 m 12 #[.val (.double xc), .second, rv hd, rv fl, rv a, rv mi, rv b2, rv b15, .unset, .unset, .unset, .unset] []
  refine os (fun _ z => XS.iconst X15.here hx rfl (hb hby d12_12) z) ?_
  show OG p e below Φ T15 m 13 #[.val (.double xc), .second, rv hd, rv fl, rv a, rv mi, rv b2, rv b15, .unset, .unset, .unset, .unset] [(.int 0)]
  refine os (fun _ z => XS.istore X15.here hx rfl (hb hby d12_13) rfl (l' := #[.val (.double xc), .second, rv hd, rv fl, rv a, rv mi, rv b2, rv b15, iv 0, .unset, .unset, .unset]) rfl z) ?_
  show OG p e below Φ T15 m 15 #[.val (.double xc), .second, rv hd, rv fl, rv a, rv mi, rv b2, rv b15, iv 0, .unset, .unset, .unset] []
  refine os (fun _ z => XS.dconst0 X15.here hx rfl (v := FP.l2d (0 : Int64)) (hb hby d12_15) own_d0 z) ?_
  show OG p e below Φ T15 m 16 #[.val (.double xc), .second, rv hd, rv fl, rv a, rv mi, rv b2, rv b15, iv 0, .unset, .unset, .unset] [(.double (FP.l2d (0 : Int64)))]
  refine os (fun _ z => XS.dstore X15.here hx rfl (hb hby d12_16) rfl (l' := #[.val (.double xc), .second, rv hd, rv fl, rv a, rv mi, rv b2, rv b15, iv 0, .val (.double (FP.l2d (0 : Int64))), .second, .unset]) rfl z) ?_
  show OG p e below Φ T15 m 18 #[.val (.double xc), .second, rv hd, rv fl, rv a, rv mi, rv b2, rv b15, iv 0, .val (.double (FP.l2d (0 : Int64))), .second, .unset] []
  refine os (fun _ z => XS.iconst X15.here hx rfl (hb hby d12_18) z) ?_
  show OG p e below Φ T15 m 19 #[.val (.double xc), .second, rv hd, rv fl, rv a, rv mi, rv b2, rv b15, iv 0, .val (.double (FP.l2d (0 : Int64))), .second, .unset] [(.int 0)]
  refine os (fun _ z => XS.istore X15.here hx rfl (hb hby d12_19) rfl (l' := #[.val (.double xc), .second, rv hd, rv fl, rv a, rv mi, rv b2, rv b15, iv 0, .val (.double (FP.l2d (0 : Int64))), .second, iv 0]) rfl z) ?_
  show OG p e below Φ T15 m 21 #[.val (.double xc), .second, rv hd, rv fl, rv a, rv mi, rv b2, rv b15, iv 0, .val (.double (FP.l2d (0 : Int64))), .second, iv 0] []
  refine os (fun _ z => XS.iload X15.here hx rfl (hb hby d12_21) rfl z) ?_
  show OG p e below Φ T15 m 23 #[.val (.double xc), .second, rv hd, rv fl, rv a, rv mi, rv b2, rv b15, iv 0, .val (.double (FP.l2d (0 : Int64))), .second, iv 0] [(.int 0)]
  refine os (fun _ z => XS.aloadN X15.here hx rfl (hb hby d12_23) rfl rfl z) ?_
  show OG p e below Φ T15 m 24 #[.val (.double xc), .second, rv hd, rv fl, rv a, rv mi, rv b2, rv b15, iv 0, .val (.double (FP.l2d (0 : Int64))), .second, iv 0] [(.ref hd), (.int 0)]
  obtain ⟨cl28, Aq28, -, S28, M28, -, -⟩ := id F16
  refine os (fun _ z => X15.arraylength hx (by rw [e15]; exact Aq28.1) (oia hZ Aq28.2.1) (g := (mkF m 24 #[.val (.double xc), .second, rv hd, rv fl, rv a, rv mi, rv b2, rv b15, iv 0, .val (.double (FP.l2d (0 : Int64))), .second, iv 0] [(.ref hd), (.int 0)])) rfl rfl (hb hby d12_24) _ z) ?_
  rw [len_of S28 M28]
  show OG p e below Φ T15 m 25 #[.val (.double xc), .second, rv hd, rv fl, rv a, rv mi, rv b2, rv b15, iv 0, .val (.double (FP.l2d (0 : Int64))), .second, iv 0] [(.int 2), (.int 0)]
  refine os (fun _ z => XS.icmpNo X15.here hx rfl (hb hby d12_25) rfl (XT.ii_ge_f (by decide)) z) ?_
  show OG p e below Φ T15 m 28 #[.val (.double xc), .second, rv hd, rv fl, rv a, rv mi, rv b2, rv b15, iv 0, .val (.double (FP.l2d (0 : Int64))), .second, iv 0] []
  refine os (fun _ z => XS.aload X15.here hx rfl (hb hby d12_28) rfl rfl z) ?_
  show OG p e below Φ T15 m 30 #[.val (.double xc), .second, rv hd, rv fl, rv a, rv mi, rv b2, rv b15, iv 0, .val (.double (FP.l2d (0 : Int64))), .second, iv 0] [(.ref b2)]
  refine os (fun _ z => XS.iload X15.here hx rfl (hb hby d12_30) rfl z) ?_
  show OG p e below Φ T15 m 32 #[.val (.double xc), .second, rv hd, rv fl, rv a, rv mi, rv b2, rv b15, iv 0, .val (.double (FP.l2d (0 : Int64))), .second, iv 0] [(.int 0), (.ref b2)]
  refine os (fun _ z => XS.aloadN X15.here hx rfl (hb hby d12_32) rfl rfl z) ?_
  show OG p e below Φ T15 m 33 #[.val (.double xc), .second, rv hd, rv fl, rv a, rv mi, rv b2, rv b15, iv 0, .val (.double (FP.l2d (0 : Int64))), .second, iv 0] [(.ref hd), (.int 0), (.ref b2)]
  refine os (fun _ z => XS.iload X15.here hx rfl (hb hby d12_33) rfl z) ?_
  show OG p e below Φ T15 m 35 #[.val (.double xc), .second, rv hd, rv fl, rv a, rv mi, rv b2, rv b15, iv 0, .val (.double (FP.l2d (0 : Int64))), .second, iv 0] [(.int 0), (.ref hd), (.int 0), (.ref b2)]
  obtain ⟨cl29, Aq29, -, S29, M29, H29, -⟩ := id F16
  have in29 : ¬ ((0 : Int32) < 0 ∨ cl29.slots.size ≤ (0 : Int32).toNatClampNeg) := inb_of S29 ⟨by decide, by decide⟩
  have at29 : cl29.slots[(0 : Int32).toNatClampNeg]? = some (.double (FP.l2d u0)) := H29.at in29 rfl
  refine os (fun _ z => X15.daload hx (by rw [e15]; exact Aq29.1) (oia hZ Aq29.2.1) Aq29.2.2 in29 at29 (g := (mkF m 35 #[.val (.double xc), .second, rv hd, rv fl, rv a, rv mi, rv b2, rv b15, iv 0, .val (.double (FP.l2d (0 : Int64))), .second, iv 0] [(.int 0), (.ref hd), (.int 0), (.ref b2)])) rfl rfl (hb hby d12_35) _ z) ?_
  show OG p e below Φ T15 m 36 #[.val (.double xc), .second, rv hd, rv fl, rv a, rv mi, rv b2, rv b15, iv 0, .val (.double (FP.l2d (0 : Int64))), .second, iv 0] [(.double (FP.l2d u0)), (.int 0), (.ref b2)]
  refine os (fun _ z => XS.aload X15.here hx rfl (hb hby d12_36) rfl rfl z) ?_
  show OG p e below Φ T15 m 38 #[.val (.double xc), .second, rv hd, rv fl, rv a, rv mi, rv b2, rv b15, iv 0, .val (.double (FP.l2d (0 : Int64))), .second, iv 0] [(.ref a), (.double (FP.l2d u0)), (.int 0), (.ref b2)]
  refine os (fun _ z => XS.iload X15.here hx rfl (hb hby d12_38) rfl z) ?_
  show OG p e below Φ T15 m 40 #[.val (.double xc), .second, rv hd, rv fl, rv a, rv mi, rv b2, rv b15, iv 0, .val (.double (FP.l2d (0 : Int64))), .second, iv 0] [(.int 0), (.ref a), (.double (FP.l2d u0)), (.int 0), (.ref b2)]
  obtain ⟨_, T30, L30, X30, hQ30, st30⟩ := own_callIf X15 hx hZ hown (ow89 hw) (ow90 hw) (mvT hZ (ow91 hw)) (ow92 hw) (ow93 hw) (ow94 hw) (ow95 hw) (ow96 hw) (ow3 hw) (ow97 hw) (by decide) (rlg0get l Z a0 hw [] a mc d cd y0_ y1_ h15 n0 Zs15 F18 F19 F20 F21 F22) e15 (W := 4) (by decide) (by decide) (by decide) (by decide) F18 (pc := 40) (ls := #[.val (.double xc), .second, rv hd, rv fl, rv a, rv mi, rv b2, rv b15, iv 0, .val (.double (FP.l2d (0 : Int64))), .second, iv 0]) (stk := [(.int 0), (.ref a), (.double (FP.l2d u0)), (.int 0), (.ref b2)]) (by rw [hml]; rfl) (argsL := [(.int 0)]) (rest := [(.double (FP.l2d u0)), (.int 0), (.ref b2)]) (lenOf pd6 rfl) rfl rfl (Nat.le_of_eq rfl) (hb hby d12_40)
  obtain ⟨rfl, Nq30, e30⟩ := hQ30
  have N30 := Fr.app N0 Nq30
  refine os st30 ?_
  show OG p e below Φ T30 m 45 #[.val (.double xc), .second, rv hd, rv fl, rv a, rv mi, rv b2, rv b15, iv 0, .val (.double (FP.l2d (0 : Int64))), .second, iv 0] [(.ref y0_), (.double (FP.l2d u0)), (.int 0), (.ref b2)]
  obtain ⟨T31, X31, e31, st31⟩ := castY X30 hx hZ hown (ow111 hw) e30 (Ins.self F23) (g := (mkF m 45 #[.val (.double xc), .second, rv hd, rv fl, rv a, rv mi, rv b2, rv b15, iv 0, .val (.double (FP.l2d (0 : Int64))), .second, iv 0] [(.ref y0_), (.double (FP.l2d u0)), (.int 0), (.ref b2)])) rfl rfl (hb hby d12_45)
  refine os st31 ?_
  show OG p e below Φ T31 m 48 #[.val (.double xc), .second, rv hd, rv fl, rv a, rv mi, rv b2, rv b15, iv 0, .val (.double (FP.l2d (0 : Int64))), .second, iv 0] [(.ref y0_), (.double (FP.l2d u0)), (.int 0), (.ref b2)]
  obtain ⟨_, T32, L32, X32, hQ32, st32⟩ := own_callVi X31 hx hZ hown (ow113 hw) (ow114 hw) (notFace_of_selects (args := #[]) (mvT hZ (ow116 hw))) (ow116 hw) (ow115 hw) (ow29 hw) (ow117 hw) (by decide) (relv l Z a0 hw [] y0_ (FP.l2d v0) h15 n0 Zs15 F25) e31 (W := 4) (by decide) (by decide) (by decide) (by decide) F23 (pc := 48) (ls := #[.val (.double xc), .second, rv hd, rv fl, rv a, rv mi, rv b2, rv b15, iv 0, .val (.double (FP.l2d (0 : Int64))), .second, iv 0]) (stk := [(.ref y0_), (.double (FP.l2d u0)), (.int 0), (.ref b2)]) (by rw [hml]; rfl) (argsL := []) (rest := [(.double (FP.l2d u0)), (.int 0), (.ref b2)]) (lenOf pd7 rfl) rfl rfl (Nat.le_of_eq rfl) (hb hby d12_48)
  obtain ⟨rfl, Nq32, e32⟩ := hQ32
  have N32 := Fr.app N30 Nq32
  refine os st32 ?_
  show OG p e below Φ T32 m 51 #[.val (.double xc), .second, rv hd, rv fl, rv a, rv mi, rv b2, rv b15, iv 0, .val (.double (FP.l2d (0 : Int64))), .second, iv 0] [(.double (FP.l2d v0)), (.double (FP.l2d u0)), (.int 0), (.ref b2)]
  have B33 : own_Bd 1998 (u0 - v0) := own_bdS b_u0 b_v0 (by decide)
  refine os (fun _ z => XS.dsubS X32.here hx rfl (hb hby d12_51) rfl (nn_w (dsub_w (b_u0.b (by decide)) (b_v0.b (by decide)))) (dsub_w (b_u0.b (by decide)) (b_v0.b (by decide))) z) ?_
  show OG p e below Φ T32 m 52 #[.val (.double xc), .second, rv hd, rv fl, rv a, rv mi, rv b2, rv b15, iv 0, .val (.double (FP.l2d (0 : Int64))), .second, iv 0] [(.double (FP.l2d (u0 - v0))), (.int 0), (.ref b2)]
  obtain ⟨cl34, Aq34, Cq34, S34, M34, H34, G34⟩ := id F27
  have in34 : ¬ ((0 : Int32) < 0 ∨ cl34.slots.size ≤ (0 : Int32).toNatClampNeg) := inb_of S34 ⟨by decide, by decide⟩
  obtain ⟨T34, h34, X34, e34, W34, st34⟩ := stD X32 hx hZ e32 Aq34 in34 (g := (mkF m 52 #[.val (.double xc), .second, rv hd, rv fl, rv a, rv mi, rv b2, rv b15, iv 0, .val (.double (FP.l2d (0 : Int64))), .second, iv 0] [(.double (FP.l2d (u0 - v0))), (.int 0), (.ref b2)])) rfl rfl (hb hby d12_52)
  have F35 := F16.other W34 ne2_hd
  have F36 := F17.other W34 ne2_mi
  have F37 := F18.wr W34
  have F38 := F19.other W34 (Or.inl ne2_a)
  have F39 := F20.other W34 (Or.inl ne2_a)
  have F40 := F21.other W34 (Or.inl ne2_a)
  have F41 := F22.other W34 ne2_d
  have F42 := F23.wr W34
  have F43 := F24.wr W34
  have F44 := F25.other W34 (Or.inl ne2_y0_)
  have F45 := F26.other W34 (Or.inl ne2_y1_)
  have F46 := V15.other W34 (Ne.symm ne15_b2)
  have V34 : Arv Z h34 b2 c2 .double (2 : Int32) [(.double (FP.l2d (u0 - v0))), (.double (FP.l2d (0 : Int64)))] (.double (FP.l2d (0 : Int64))) := Arv.set Aq34 Cq34 S34 M34 H34 G34 rfl W34 0 (by decide) (by show 0 < 2; decide)
  have K34 := K15.wr W34 (Or.inr sz2)
  have N34 := Fr.snoc X34 N32 gb2
  have Zs34 : n0 ≤ h34.size := by rw [W34.size]; exact Zs15
  refine os st34 ?_
  show OG p e below Φ T34 m 53 #[.val (.double xc), .second, rv hd, rv fl, rv a, rv mi, rv b2, rv b15, iv 0, .val (.double (FP.l2d (0 : Int64))), .second, iv 0] []
  refine os (fun _ z => XS.aload X34.here hx rfl (hb hby d12_53) rfl rfl z) ?_
  show OG p e below Φ T34 m 55 #[.val (.double xc), .second, rv hd, rv fl, rv a, rv mi, rv b2, rv b15, iv 0, .val (.double (FP.l2d (0 : Int64))), .second, iv 0] [(.ref b15)]
  refine os (fun _ z => XS.iload X34.here hx rfl (hb hby d12_55) rfl z) ?_
  show OG p e below Φ T34 m 57 #[.val (.double xc), .second, rv hd, rv fl, rv a, rv mi, rv b2, rv b15, iv 0, .val (.double (FP.l2d (0 : Int64))), .second, iv 0] [(.int 0), (.ref b15)]
  refine os (fun _ z => XS.aload X34.here hx rfl (hb hby d12_57) rfl rfl z) ?_
  show OG p e below Φ T34 m 59 #[.val (.double xc), .second, rv hd, rv fl, rv a, rv mi, rv b2, rv b15, iv 0, .val (.double (FP.l2d (0 : Int64))), .second, iv 0] [(.ref b2), (.int 0), (.ref b15)]
  refine os (fun _ z => XS.iload X34.here hx rfl (hb hby d12_59) rfl z) ?_
  show OG p e below Φ T34 m 61 #[.val (.double xc), .second, rv hd, rv fl, rv a, rv mi, rv b2, rv b15, iv 0, .val (.double (FP.l2d (0 : Int64))), .second, iv 0] [(.int 0), (.ref b2), (.int 0), (.ref b15)]
  obtain ⟨cl47, Aq47, -, S47, M47, H47, -⟩ := id V34
  have in47 : ¬ ((0 : Int32) < 0 ∨ cl47.slots.size ≤ (0 : Int32).toNatClampNeg) := inb_of S47 ⟨by decide, by decide⟩
  have at47 : cl47.slots[(0 : Int32).toNatClampNeg]? = some (.double (FP.l2d (u0 - v0))) := H47.at in47 rfl
  refine os (fun _ z => X34.daload hx (by rw [e34]; exact Aq47.1) (oia hZ Aq47.2.1) Aq47.2.2 in47 at47 (g := (mkF m 61 #[.val (.double xc), .second, rv hd, rv fl, rv a, rv mi, rv b2, rv b15, iv 0, .val (.double (FP.l2d (0 : Int64))), .second, iv 0] [(.int 0), (.ref b2), (.int 0), (.ref b15)])) rfl rfl (hb hby d12_61) _ z) ?_
  show OG p e below Φ T34 m 62 #[.val (.double xc), .second, rv hd, rv fl, rv a, rv mi, rv b2, rv b15, iv 0, .val (.double (FP.l2d (0 : Int64))), .second, iv 0] [(.double (FP.l2d (u0 - v0))), (.int 0), (.ref b15)]
  refine os (fun _ z => XS.aload X34.here hx rfl (hb hby d12_62) rfl rfl z) ?_
  show OG p e below Φ T34 m 64 #[.val (.double xc), .second, rv hd, rv fl, rv a, rv mi, rv b2, rv b15, iv 0, .val (.double (FP.l2d (0 : Int64))), .second, iv 0] [(.ref mi), (.double (FP.l2d (u0 - v0))), (.int 0), (.ref b15)]
  refine os (fun _ z => XS.iload X34.here hx rfl (hb hby d12_64) rfl z) ?_
  show OG p e below Φ T34 m 66 #[.val (.double xc), .second, rv hd, rv fl, rv a, rv mi, rv b2, rv b15, iv 0, .val (.double (FP.l2d (0 : Int64))), .second, iv 0] [(.int 0), (.ref mi), (.double (FP.l2d (u0 - v0))), (.int 0), (.ref b15)]
  obtain ⟨cl48, Aq48, -, S48, M48, H48, -⟩ := id F36
  have in48 : ¬ ((0 : Int32) < 0 ∨ cl48.slots.size ≤ (0 : Int32).toNatClampNeg) := inb_of S48 ⟨by decide, by decide⟩
  have at48 : cl48.slots[(0 : Int32).toNatClampNeg]? = some (.double (FP.l2d m0)) := H48.at in48 rfl
  refine os (fun _ z => X34.daload hx (by rw [e34]; exact Aq48.1) (oia hZ Aq48.2.1) Aq48.2.2 in48 at48 (g := (mkF m 66 #[.val (.double xc), .second, rv hd, rv fl, rv a, rv mi, rv b2, rv b15, iv 0, .val (.double (FP.l2d (0 : Int64))), .second, iv 0] [(.int 0), (.ref mi), (.double (FP.l2d (u0 - v0))), (.int 0), (.ref b15)])) rfl rfl (hb hby d12_66) _ z) ?_
  show OG p e below Φ T34 m 67 #[.val (.double xc), .second, rv hd, rv fl, rv a, rv mi, rv b2, rv b15, iv 0, .val (.double (FP.l2d (0 : Int64))), .second, iv 0] [(.double (FP.l2d m0)), (.double (FP.l2d (u0 - v0))), (.int 0), (.ref b15)]
  have B49 : own_Bd 2997 ((u0 - v0) - m0) := own_bdS B33 b_m0 (by decide)
  refine os (fun _ z => XS.dsubS X34.here hx rfl (hb hby d12_67) rfl (nn_w (dsub_w (B33.b (by decide)) (b_m0.b (by decide)))) (dsub_w (B33.b (by decide)) (b_m0.b (by decide))) z) ?_
  show OG p e below Φ T34 m 68 #[.val (.double xc), .second, rv hd, rv fl, rv a, rv mi, rv b2, rv b15, iv 0, .val (.double (FP.l2d (0 : Int64))), .second, iv 0] [(.double (FP.l2d ((u0 - v0) - m0))), (.int 0), (.ref b15)]
  obtain ⟨cl50, Aq50, Cq50, S50, M50, H50, G50⟩ := id F46
  have in50 : ¬ ((0 : Int32) < 0 ∨ cl50.slots.size ≤ (0 : Int32).toNatClampNeg) := inb_of S50 ⟨by decide, by decide⟩
  obtain ⟨T50, h50, X50, e50, W50, st50⟩ := stD X34 hx hZ e34 Aq50 in50 (g := (mkF m 68 #[.val (.double xc), .second, rv hd, rv fl, rv a, rv mi, rv b2, rv b15, iv 0, .val (.double (FP.l2d (0 : Int64))), .second, iv 0] [(.double (FP.l2d ((u0 - v0) - m0))), (.int 0), (.ref b15)])) rfl rfl (hb hby d12_68)
  have F51 := F35.other W50 ne15_hd
  have F52 := F36.other W50 ne15_mi
  have F53 := F37.wr W50
  have F54 := F38.other W50 (Or.inl ne15_a)
  have F55 := F39.other W50 (Or.inl ne15_a)
  have F56 := F40.other W50 (Or.inl ne15_a)
  have F57 := F41.other W50 ne15_d
  have F58 := F42.wr W50
  have F59 := F43.wr W50
  have F60 := F44.other W50 (Or.inl ne15_y0_)
  have F61 := F45.other W50 (Or.inl ne15_y1_)
  have F62 := V34.other W50 ne15_b2
  have V50 : Arv Z h50 b15 c15 .double (2 : Int32) [(.double (FP.l2d ((u0 - v0) - m0))), (.double (FP.l2d (0 : Int64)))] (.double (FP.l2d (0 : Int64))) := Arv.set Aq50 Cq50 S50 M50 H50 G50 rfl W50 0 (by decide) (by show 0 < 2; decide)
  have K50 := K34.wr W50 (Or.inr sz15)
  have N50 := Fr.snoc X50 N34 gb15
  have Zs50 : n0 ≤ h50.size := by rw [W50.size]; exact Zs34
  refine os st50 ?_
  show OG p e below Φ T50 m 69 #[.val (.double xc), .second, rv hd, rv fl, rv a, rv mi, rv b2, rv b15, iv 0, .val (.double (FP.l2d (0 : Int64))), .second, iv 0] []
  refine os (fun _ z => XS.aload X50.here hx rfl (hb hby d12_69) rfl rfl z) ?_
  show OG p e below Φ T50 m 71 #[.val (.double xc), .second, rv hd, rv fl, rv a, rv mi, rv b2, rv b15, iv 0, .val (.double (FP.l2d (0 : Int64))), .second, iv 0] [(.ref b15)]
  refine os (fun _ z => XS.iload X50.here hx rfl (hb hby d12_71) rfl z) ?_
  show OG p e below Φ T50 m 73 #[.val (.double xc), .second, rv hd, rv fl, rv a, rv mi, rv b2, rv b15, iv 0, .val (.double (FP.l2d (0 : Int64))), .second, iv 0] [(.int 0), (.ref b15)]
  obtain ⟨cl63, Aq63, -, S63, M63, H63, -⟩ := id V50
  have in63 : ¬ ((0 : Int32) < 0 ∨ cl63.slots.size ≤ (0 : Int32).toNatClampNeg) := inb_of S63 ⟨by decide, by decide⟩
  have at63 : cl63.slots[(0 : Int32).toNatClampNeg]? = some (.double (FP.l2d ((u0 - v0) - m0))) := H63.at in63 rfl
  refine os (fun _ z => X50.daload hx (by rw [e50]; exact Aq63.1) (oia hZ Aq63.2.1) Aq63.2.2 in63 at63 (g := (mkF m 73 #[.val (.double xc), .second, rv hd, rv fl, rv a, rv mi, rv b2, rv b15, iv 0, .val (.double (FP.l2d (0 : Int64))), .second, iv 0] [(.int 0), (.ref b15)])) rfl rfl (hb hby d12_73) _ z) ?_
  show OG p e below Φ T50 m 74 #[.val (.double xc), .second, rv hd, rv fl, rv a, rv mi, rv b2, rv b15, iv 0, .val (.double (FP.l2d (0 : Int64))), .second, iv 0] [(.double (FP.l2d ((u0 - v0) - m0)))]
  refine os (fun _ z => XS.aload X50.here hx rfl (hb hby d12_74) rfl rfl z) ?_
  show OG p e below Φ T50 m 76 #[.val (.double xc), .second, rv hd, rv fl, rv a, rv mi, rv b2, rv b15, iv 0, .val (.double (FP.l2d (0 : Int64))), .second, iv 0] [(.ref b15), (.double (FP.l2d ((u0 - v0) - m0)))]
  refine os (fun _ z => XS.iload X50.here hx rfl (hb hby d12_76) rfl z) ?_
  show OG p e below Φ T50 m 78 #[.val (.double xc), .second, rv hd, rv fl, rv a, rv mi, rv b2, rv b15, iv 0, .val (.double (FP.l2d (0 : Int64))), .second, iv 0] [(.int 0), (.ref b15), (.double (FP.l2d ((u0 - v0) - m0)))]
  obtain ⟨cl64, Aq64, -, S64, M64, H64, -⟩ := id V50
  have in64 : ¬ ((0 : Int32) < 0 ∨ cl64.slots.size ≤ (0 : Int32).toNatClampNeg) := inb_of S64 ⟨by decide, by decide⟩
  have at64 : cl64.slots[(0 : Int32).toNatClampNeg]? = some (.double (FP.l2d ((u0 - v0) - m0))) := H64.at in64 rfl
  refine os (fun _ z => X50.daload hx (by rw [e50]; exact Aq64.1) (oia hZ Aq64.2.1) Aq64.2.2 in64 at64 (g := (mkF m 78 #[.val (.double xc), .second, rv hd, rv fl, rv a, rv mi, rv b2, rv b15, iv 0, .val (.double (FP.l2d (0 : Int64))), .second, iv 0] [(.int 0), (.ref b15), (.double (FP.l2d ((u0 - v0) - m0)))])) rfl rfl (hb hby d12_78) _ z) ?_
  show OG p e below Φ T50 m 79 #[.val (.double xc), .second, rv hd, rv fl, rv a, rv mi, rv b2, rv b15, iv 0, .val (.double (FP.l2d (0 : Int64))), .second, iv 0] [(.double (FP.l2d ((u0 - v0) - m0))), (.double (FP.l2d ((u0 - v0) - m0)))]
  refine os (fun _ z => XS.dcmpS X50.here hx rfl (hb hby d12_79) rfl (own_dc (B49.b (by decide)) (B49.b (by decide)) .g) z) ?_
  show OG p e below Φ T50 m 80 #[.val (.double xc), .second, rv hd, rv fl, rv a, rv mi, rv b2, rv b15, iv 0, .val (.double (FP.l2d (0 : Int64))), .second, iv 0] [(.int (XT.cmpL ((u0 - v0) - m0) ((u0 - v0) - m0)))]
  refine os (fun _ z => XS.ifYes X50.here hx rfl (pc0 := 80) (pc' := 87) rfl (hb hby d12_80) rfl (XT.ll_ge_t (own_irrL _)) (by decide) (by decide) z) ?_
  show OG p e below Φ T50 m 87 #[.val (.double xc), .second, rv hd, rv fl, rv a, rv mi, rv b2, rv b15, iv 0, .val (.double (FP.l2d (0 : Int64))), .second, iv 0] []
  refine os (fun _ z => XS.dload X50.here hx rfl (hb hby d12_87) rfl z) ?_
  show OG p e below Φ T50 m 89 #[.val (.double xc), .second, rv hd, rv fl, rv a, rv mi, rv b2, rv b15, iv 0, .val (.double (FP.l2d (0 : Int64))), .second, iv 0] [(.double (FP.l2d (0 : Int64)))]
  refine os (fun _ z => XS.aload X50.here hx rfl (hb hby d12_89) rfl rfl z) ?_
  show OG p e below Φ T50 m 91 #[.val (.double xc), .second, rv hd, rv fl, rv a, rv mi, rv b2, rv b15, iv 0, .val (.double (FP.l2d (0 : Int64))), .second, iv 0] [(.ref b15), (.double (FP.l2d (0 : Int64)))]
  refine os (fun _ z => XS.iload X50.here hx rfl (hb hby d12_91) rfl z) ?_
  show OG p e below Φ T50 m 93 #[.val (.double xc), .second, rv hd, rv fl, rv a, rv mi, rv b2, rv b15, iv 0, .val (.double (FP.l2d (0 : Int64))), .second, iv 0] [(.int 0), (.ref b15), (.double (FP.l2d (0 : Int64)))]
  obtain ⟨cl65, Aq65, -, S65, M65, H65, -⟩ := id V50
  have in65 : ¬ ((0 : Int32) < 0 ∨ cl65.slots.size ≤ (0 : Int32).toNatClampNeg) := inb_of S65 ⟨by decide, by decide⟩
  have at65 : cl65.slots[(0 : Int32).toNatClampNeg]? = some (.double (FP.l2d ((u0 - v0) - m0))) := H65.at in65 rfl
  refine os (fun _ z => X50.daload hx (by rw [e50]; exact Aq65.1) (oia hZ Aq65.2.1) Aq65.2.2 in65 at65 (g := (mkF m 93 #[.val (.double xc), .second, rv hd, rv fl, rv a, rv mi, rv b2, rv b15, iv 0, .val (.double (FP.l2d (0 : Int64))), .second, iv 0] [(.int 0), (.ref b15), (.double (FP.l2d (0 : Int64)))])) rfl rfl (hb hby d12_93) _ z) ?_
  show OG p e below Φ T50 m 94 #[.val (.double xc), .second, rv hd, rv fl, rv a, rv mi, rv b2, rv b15, iv 0, .val (.double (FP.l2d (0 : Int64))), .second, iv 0] [(.double (FP.l2d ((u0 - v0) - m0))), (.double (FP.l2d (0 : Int64)))]
  refine os (fun _ z => XS.dnegS X50.here hx rfl (hb hby d12_94) rfl rfl z) ?_
  show OG p e below Φ T50 m 95 #[.val (.double xc), .second, rv hd, rv fl, rv a, rv mi, rv b2, rv b15, iv 0, .val (.double (FP.l2d (0 : Int64))), .second, iv 0] [(.double (FP.dneg (FP.l2d ((u0 - v0) - m0)))), (.double (FP.l2d (0 : Int64)))]
  refine os (fun _ z => XS.dconst0 X50.here hx rfl (v := FP.l2d (0 : Int64)) (hb hby d12_95) own_d0 z) ?_
  show OG p e below Φ T50 m 96 #[.val (.double xc), .second, rv hd, rv fl, rv a, rv mi, rv b2, rv b15, iv 0, .val (.double (FP.l2d (0 : Int64))), .second, iv 0] [(.double (FP.l2d (0 : Int64))), (.double (FP.dneg (FP.l2d ((u0 - v0) - m0)))), (.double (FP.l2d (0 : Int64)))]
  obtain ⟨T66, X66, e66, st66⟩ := natS X50 hx hZ hown (ow118 hw) (ow119 hw) (ow79 hw) (ow120 hw) (by decide) e50 (W := 2) (F := fun a' => a' = #[(.double (FP.dneg (FP.l2d ((u0 - v0) - m0)))), (.double (FP.l2d (0 : Int64)))] ∧ Jvm.Free.Fl.NoNaN64 (FP.dneg (FP.l2d ((u0 - v0) - m0))) ∧ Jvm.Free.Fl.NoNaN64 (FP.l2d (0 : Int64))) (val := .double (Native.java_lang_Math.nans.pick64 true (FP.dneg (FP.l2d ((u0 - v0) - m0))) (FP.l2d (0 : Int64)))) (val' := .double (FP.l2d (own_mx ((u0 - v0) - m0)))) (fun c4 => Jvm.Free.Fl.Abs.maxD_pays (FP.dneg (FP.l2d ((u0 - v0) - m0))) (FP.l2d (0 : Int64)) c4 (by decide) (by decide)) (g := (mkF m 96 #[.val (.double xc), .second, rv hd, rv fl, rv a, rv mi, rv b2, rv b15, iv 0, .val (.double (FP.l2d (0 : Int64))), .second, iv 0] [(.double (FP.l2d (0 : Int64))), (.double (FP.dneg (FP.l2d ((u0 - v0) - m0)))), (.double (FP.l2d (0 : Int64)))])) rfl (by rw [hml]; rfl) (argsL := [(.double (FP.dneg (FP.l2d ((u0 - v0) - m0)))), (.double (FP.l2d (0 : Int64)))]) (rest := [(.double (FP.l2d (0 : Int64)))]) (lenOf pd8 rfl) rfl (by show 2 * 0 + _ ≤ _; exact Nat.le_of_eq rfl) (hb hby d12_96) (by decide) (by decide) ⟨rfl, own_nnN _, nn_w rfl⟩ (congrArg Value.double (own_pick B49 (by decide)))
  have B66 : own_Bd 2997 (own_mx ((u0 - v0) - m0)) := own_bdX B49 (by decide)
  refine os st66 ?_
  show OG p e below Φ T66 m 99 #[.val (.double xc), .second, rv hd, rv fl, rv a, rv mi, rv b2, rv b15, iv 0, .val (.double (FP.l2d (0 : Int64))), .second, iv 0] [(.double (FP.l2d (own_mx ((u0 - v0) - m0)))), (.double (FP.l2d (0 : Int64)))]
  have B67 : own_Bd 2997 ((0 : Int64) + (own_mx ((u0 - v0) - m0))) := own_bdA own_bd0 B66 (by decide)
  refine os (fun _ z => XS.daddS X66.here hx rfl (hb hby d12_99) rfl (nn_w (dadd_w (own_bd0.b (by decide)) (B66.b (by decide)))) (dadd_w (own_bd0.b (by decide)) (B66.b (by decide))) z) ?_
  show OG p e below Φ T66 m 100 #[.val (.double xc), .second, rv hd, rv fl, rv a, rv mi, rv b2, rv b15, iv 0, .val (.double (FP.l2d (0 : Int64))), .second, iv 0] [(.double (FP.l2d ((0 : Int64) + (own_mx ((u0 - v0) - m0)))))]
  refine os (fun _ z => XS.dstore X66.here hx rfl (hb hby d12_100) rfl (l' := #[.val (.double xc), .second, rv hd, rv fl, rv a, rv mi, rv b2, rv b15, iv 0, .val (.double (FP.l2d ((0 : Int64) + (own_mx ((u0 - v0) - m0))))), .second, iv 0]) rfl z) ?_
  show OG p e below Φ T66 m 102 #[.val (.double xc), .second, rv hd, rv fl, rv a, rv mi, rv b2, rv b15, iv 0, .val (.double (FP.l2d ((0 : Int64) + (own_mx ((u0 - v0) - m0))))), .second, iv 0] []
  refine os (fun _ z => XS.iinc X66.here hx rfl (hb hby d12_102) rfl (l' := #[.val (.double xc), .second, rv hd, rv fl, rv a, rv mi, rv b2, rv b15, iv 0, .val (.double (FP.l2d ((0 : Int64) + (own_mx ((u0 - v0) - m0))))), .second, iv ((0 : Int32) + (1 : Int32))]) rfl z) ?_
  show OG p e below Φ T66 m 105 #[.val (.double xc), .second, rv hd, rv fl, rv a, rv mi, rv b2, rv b15, iv 0, .val (.double (FP.l2d ((0 : Int64) + (own_mx ((u0 - v0) - m0))))), .second, iv 1] []
  refine os (fun _ z => XS.goto X66.here hx rfl (pc0 := 105) (pc' := 21) rfl (hb hby d12_105) (by decide) (by decide) z) ?_
  show OG p e below Φ T66 m 21 #[.val (.double xc), .second, rv hd, rv fl, rv a, rv mi, rv b2, rv b15, iv 0, .val (.double (FP.l2d ((0 : Int64) + (own_mx ((u0 - v0) - m0))))), .second, iv 1] []
  refine os (fun _ z => XS.iload X66.here hx rfl (hb hby d12_21) rfl z) ?_
  show OG p e below Φ T66 m 23 #[.val (.double xc), .second, rv hd, rv fl, rv a, rv mi, rv b2, rv b15, iv 0, .val (.double (FP.l2d ((0 : Int64) + (own_mx ((u0 - v0) - m0))))), .second, iv 1] [(.int 1)]
  refine os (fun _ z => XS.aloadN X66.here hx rfl (hb hby d12_23) rfl rfl z) ?_
  show OG p e below Φ T66 m 24 #[.val (.double xc), .second, rv hd, rv fl, rv a, rv mi, rv b2, rv b15, iv 0, .val (.double (FP.l2d ((0 : Int64) + (own_mx ((u0 - v0) - m0))))), .second, iv 1] [(.ref hd), (.int 1)]
  obtain ⟨cl68, Aq68, -, S68, M68, -, -⟩ := id F51
  refine os (fun _ z => X66.arraylength hx (by rw [e66]; exact Aq68.1) (oia hZ Aq68.2.1) (g := (mkF m 24 #[.val (.double xc), .second, rv hd, rv fl, rv a, rv mi, rv b2, rv b15, iv 0, .val (.double (FP.l2d ((0 : Int64) + (own_mx ((u0 - v0) - m0))))), .second, iv 1] [(.ref hd), (.int 1)])) rfl rfl (hb hby d12_24) _ z) ?_
  rw [len_of S68 M68]
  show OG p e below Φ T66 m 25 #[.val (.double xc), .second, rv hd, rv fl, rv a, rv mi, rv b2, rv b15, iv 0, .val (.double (FP.l2d ((0 : Int64) + (own_mx ((u0 - v0) - m0))))), .second, iv 1] [(.int 2), (.int 1)]
  refine os (fun _ z => XS.icmpNo X66.here hx rfl (hb hby d12_25) rfl (XT.ii_ge_f (by decide)) z) ?_
  show OG p e below Φ T66 m 28 #[.val (.double xc), .second, rv hd, rv fl, rv a, rv mi, rv b2, rv b15, iv 0, .val (.double (FP.l2d ((0 : Int64) + (own_mx ((u0 - v0) - m0))))), .second, iv 1] []
  refine os (fun _ z => XS.aload X66.here hx rfl (hb hby d12_28) rfl rfl z) ?_
  show OG p e below Φ T66 m 30 #[.val (.double xc), .second, rv hd, rv fl, rv a, rv mi, rv b2, rv b15, iv 0, .val (.double (FP.l2d ((0 : Int64) + (own_mx ((u0 - v0) - m0))))), .second, iv 1] [(.ref b2)]
  refine os (fun _ z => XS.iload X66.here hx rfl (hb hby d12_30) rfl z) ?_
  show OG p e below Φ T66 m 32 #[.val (.double xc), .second, rv hd, rv fl, rv a, rv mi, rv b2, rv b15, iv 0, .val (.double (FP.l2d ((0 : Int64) + (own_mx ((u0 - v0) - m0))))), .second, iv 1] [(.int 1), (.ref b2)]
  refine os (fun _ z => XS.aloadN X66.here hx rfl (hb hby d12_32) rfl rfl z) ?_
  show OG p e below Φ T66 m 33 #[.val (.double xc), .second, rv hd, rv fl, rv a, rv mi, rv b2, rv b15, iv 0, .val (.double (FP.l2d ((0 : Int64) + (own_mx ((u0 - v0) - m0))))), .second, iv 1] [(.ref hd), (.int 1), (.ref b2)]
  refine os (fun _ z => XS.iload X66.here hx rfl (hb hby d12_33) rfl z) ?_
  show OG p e below Φ T66 m 35 #[.val (.double xc), .second, rv hd, rv fl, rv a, rv mi, rv b2, rv b15, iv 0, .val (.double (FP.l2d ((0 : Int64) + (own_mx ((u0 - v0) - m0))))), .second, iv 1] [(.int 1), (.ref hd), (.int 1), (.ref b2)]
  obtain ⟨cl69, Aq69, -, S69, M69, H69, -⟩ := id F51
  have in69 : ¬ ((1 : Int32) < 0 ∨ cl69.slots.size ≤ (1 : Int32).toNatClampNeg) := inb_of S69 ⟨by decide, by decide⟩
  have at69 : cl69.slots[(1 : Int32).toNatClampNeg]? = some (.double (FP.l2d u1)) := H69.at in69 rfl
  refine os (fun _ z => X66.daload hx (by rw [e66]; exact Aq69.1) (oia hZ Aq69.2.1) Aq69.2.2 in69 at69 (g := (mkF m 35 #[.val (.double xc), .second, rv hd, rv fl, rv a, rv mi, rv b2, rv b15, iv 0, .val (.double (FP.l2d ((0 : Int64) + (own_mx ((u0 - v0) - m0))))), .second, iv 1] [(.int 1), (.ref hd), (.int 1), (.ref b2)])) rfl rfl (hb hby d12_35) _ z) ?_
  show OG p e below Φ T66 m 36 #[.val (.double xc), .second, rv hd, rv fl, rv a, rv mi, rv b2, rv b15, iv 0, .val (.double (FP.l2d ((0 : Int64) + (own_mx ((u0 - v0) - m0))))), .second, iv 1] [(.double (FP.l2d u1)), (.int 1), (.ref b2)]
  refine os (fun _ z => XS.aload X66.here hx rfl (hb hby d12_36) rfl rfl z) ?_
  show OG p e below Φ T66 m 38 #[.val (.double xc), .second, rv hd, rv fl, rv a, rv mi, rv b2, rv b15, iv 0, .val (.double (FP.l2d ((0 : Int64) + (own_mx ((u0 - v0) - m0))))), .second, iv 1] [(.ref a), (.double (FP.l2d u1)), (.int 1), (.ref b2)]
  refine os (fun _ z => XS.iload X66.here hx rfl (hb hby d12_38) rfl z) ?_
  show OG p e below Φ T66 m 40 #[.val (.double xc), .second, rv hd, rv fl, rv a, rv mi, rv b2, rv b15, iv 0, .val (.double (FP.l2d ((0 : Int64) + (own_mx ((u0 - v0) - m0))))), .second, iv 1] [(.int 1), (.ref a), (.double (FP.l2d u1)), (.int 1), (.ref b2)]
  obtain ⟨_, T70, L70, X70, hQ70, st70⟩ := own_callIf X66 hx hZ hown (ow89 hw) (ow90 hw) (mvT hZ (ow91 hw)) (ow92 hw) (ow93 hw) (ow94 hw) (ow95 hw) (ow96 hw) (ow3 hw) (ow97 hw) (by decide) (rlg1get l Z a0 hw [] a mc d cd y0_ y1_ h50 n0 Zs50 F53 F54 F55 F56 F57) e66 (W := 4) (by decide) (by decide) (by decide) (by decide) F53 (pc := 40) (ls := #[.val (.double xc), .second, rv hd, rv fl, rv a, rv mi, rv b2, rv b15, iv 0, .val (.double (FP.l2d ((0 : Int64) + (own_mx ((u0 - v0) - m0))))), .second, iv 1]) (stk := [(.int 1), (.ref a), (.double (FP.l2d u1)), (.int 1), (.ref b2)]) (by rw [hml]; rfl) (argsL := [(.int 1)]) (rest := [(.double (FP.l2d u1)), (.int 1), (.ref b2)]) (lenOf pd6 rfl) rfl rfl (Nat.le_of_eq rfl) (hb hby d12_40)
  obtain ⟨rfl, Nq70, e70⟩ := hQ70
  have N70 := Fr.app N50 Nq70
  refine os st70 ?_
  show OG p e below Φ T70 m 45 #[.val (.double xc), .second, rv hd, rv fl, rv a, rv mi, rv b2, rv b15, iv 0, .val (.double (FP.l2d ((0 : Int64) + (own_mx ((u0 - v0) - m0))))), .second, iv 1] [(.ref y1_), (.double (FP.l2d u1)), (.int 1), (.ref b2)]
  obtain ⟨T71, X71, e71, st71⟩ := castY X70 hx hZ hown (ow111 hw) e70 (Ins.self F59) (g := (mkF m 45 #[.val (.double xc), .second, rv hd, rv fl, rv a, rv mi, rv b2, rv b15, iv 0, .val (.double (FP.l2d ((0 : Int64) + (own_mx ((u0 - v0) - m0))))), .second, iv 1] [(.ref y1_), (.double (FP.l2d u1)), (.int 1), (.ref b2)])) rfl rfl (hb hby d12_45)
  refine os st71 ?_
  show OG p e below Φ T71 m 48 #[.val (.double xc), .second, rv hd, rv fl, rv a, rv mi, rv b2, rv b15, iv 0, .val (.double (FP.l2d ((0 : Int64) + (own_mx ((u0 - v0) - m0))))), .second, iv 1] [(.ref y1_), (.double (FP.l2d u1)), (.int 1), (.ref b2)]
  obtain ⟨_, T72, L72, X72, hQ72, st72⟩ := own_callVi X71 hx hZ hown (ow113 hw) (ow114 hw) (notFace_of_selects (args := #[]) (mvT hZ (ow116 hw))) (ow116 hw) (ow115 hw) (ow29 hw) (ow117 hw) (by decide) (relv l Z a0 hw [] y1_ (FP.l2d v1) h50 n0 Zs50 F61) e71 (W := 4) (by decide) (by decide) (by decide) (by decide) F59 (pc := 48) (ls := #[.val (.double xc), .second, rv hd, rv fl, rv a, rv mi, rv b2, rv b15, iv 0, .val (.double (FP.l2d ((0 : Int64) + (own_mx ((u0 - v0) - m0))))), .second, iv 1]) (stk := [(.ref y1_), (.double (FP.l2d u1)), (.int 1), (.ref b2)]) (by rw [hml]; rfl) (argsL := []) (rest := [(.double (FP.l2d u1)), (.int 1), (.ref b2)]) (lenOf pd7 rfl) rfl rfl (Nat.le_of_eq rfl) (hb hby d12_48)
  obtain ⟨rfl, Nq72, e72⟩ := hQ72
  have N72 := Fr.app N70 Nq72
  refine os st72 ?_
  show OG p e below Φ T72 m 51 #[.val (.double xc), .second, rv hd, rv fl, rv a, rv mi, rv b2, rv b15, iv 0, .val (.double (FP.l2d ((0 : Int64) + (own_mx ((u0 - v0) - m0))))), .second, iv 1] [(.double (FP.l2d v1)), (.double (FP.l2d u1)), (.int 1), (.ref b2)]
  have B73 : own_Bd 1998 (u1 - v1) := own_bdS b_u1 b_v1 (by decide)
  refine os (fun _ z => XS.dsubS X72.here hx rfl (hb hby d12_51) rfl (nn_w (dsub_w (b_u1.b (by decide)) (b_v1.b (by decide)))) (dsub_w (b_u1.b (by decide)) (b_v1.b (by decide))) z) ?_
  show OG p e below Φ T72 m 52 #[.val (.double xc), .second, rv hd, rv fl, rv a, rv mi, rv b2, rv b15, iv 0, .val (.double (FP.l2d ((0 : Int64) + (own_mx ((u0 - v0) - m0))))), .second, iv 1] [(.double (FP.l2d (u1 - v1))), (.int 1), (.ref b2)]
  obtain ⟨cl74, Aq74, Cq74, S74, M74, H74, G74⟩ := id F62
  have in74 : ¬ ((1 : Int32) < 0 ∨ cl74.slots.size ≤ (1 : Int32).toNatClampNeg) := inb_of S74 ⟨by decide, by decide⟩
  obtain ⟨T74, h74, X74, e74, W74, st74⟩ := stD X72 hx hZ e72 Aq74 in74 (g := (mkF m 52 #[.val (.double xc), .second, rv hd, rv fl, rv a, rv mi, rv b2, rv b15, iv 0, .val (.double (FP.l2d ((0 : Int64) + (own_mx ((u0 - v0) - m0))))), .second, iv 1] [(.double (FP.l2d (u1 - v1))), (.int 1), (.ref b2)])) rfl rfl (hb hby d12_52)
  have F75 := F51.other W74 ne2_hd
  have F76 := F52.other W74 ne2_mi
  have F77 := F53.wr W74
  have F78 := F54.other W74 (Or.inl ne2_a)
  have F79 := F55.other W74 (Or.inl ne2_a)
  have F80 := F56.other W74 (Or.inl ne2_a)
  have F81 := F57.other W74 ne2_d
  have F82 := F58.wr W74
  have F83 := F59.wr W74
  have F84 := F60.other W74 (Or.inl ne2_y0_)
  have F85 := F61.other W74 (Or.inl ne2_y1_)
  have F86 := V50.other W74 (Ne.symm ne15_b2)
  have V74 : Arv Z h74 b2 c2 .double (2 : Int32) [(.double (FP.l2d (u0 - v0))), (.double (FP.l2d (u1 - v1)))] (.double (FP.l2d (0 : Int64))) := Arv.set Aq74 Cq74 S74 M74 H74 G74 rfl W74 1 (by decide) (by show 1 < 2; decide)
  have K74 := K50.wr W74 (Or.inr sz2)
  have N74 := Fr.snoc X74 N72 gb2
  have Zs74 : n0 ≤ h74.size := by rw [W74.size]; exact Zs50
  refine os st74 ?_
  show OG p e below Φ T74 m 53 #[.val (.double xc), .second, rv hd, rv fl, rv a, rv mi, rv b2, rv b15, iv 0, .val (.double (FP.l2d ((0 : Int64) + (own_mx ((u0 - v0) - m0))))), .second, iv 1] []
  refine os (fun _ z => XS.aload X74.here hx rfl (hb hby d12_53) rfl rfl z) ?_
  show OG p e below Φ T74 m 55 #[.val (.double xc), .second, rv hd, rv fl, rv a, rv mi, rv b2, rv b15, iv 0, .val (.double (FP.l2d ((0 : Int64) + (own_mx ((u0 - v0) - m0))))), .second, iv 1] [(.ref b15)]
  refine os (fun _ z => XS.iload X74.here hx rfl (hb hby d12_55) rfl z) ?_
  show OG p e below Φ T74 m 57 #[.val (.double xc), .second, rv hd, rv fl, rv a, rv mi, rv b2, rv b15, iv 0, .val (.double (FP.l2d ((0 : Int64) + (own_mx ((u0 - v0) - m0))))), .second, iv 1] [(.int 1), (.ref b15)]
  refine os (fun _ z => XS.aload X74.here hx rfl (hb hby d12_57) rfl rfl z) ?_
  show OG p e below Φ T74 m 59 #[.val (.double xc), .second, rv hd, rv fl, rv a, rv mi, rv b2, rv b15, iv 0, .val (.double (FP.l2d ((0 : Int64) + (own_mx ((u0 - v0) - m0))))), .second, iv 1] [(.ref b2), (.int 1), (.ref b15)]
  refine os (fun _ z => XS.iload X74.here hx rfl (hb hby d12_59) rfl z) ?_
  show OG p e below Φ T74 m 61 #[.val (.double xc), .second, rv hd, rv fl, rv a, rv mi, rv b2, rv b15, iv 0, .val (.double (FP.l2d ((0 : Int64) + (own_mx ((u0 - v0) - m0))))), .second, iv 1] [(.int 1), (.ref b2), (.int 1), (.ref b15)]
  obtain ⟨cl87, Aq87, -, S87, M87, H87, -⟩ := id V74
  have in87 : ¬ ((1 : Int32) < 0 ∨ cl87.slots.size ≤ (1 : Int32).toNatClampNeg) := inb_of S87 ⟨by decide, by decide⟩
  have at87 : cl87.slots[(1 : Int32).toNatClampNeg]? = some (.double (FP.l2d (u1 - v1))) := H87.at in87 rfl
  refine os (fun _ z => X74.daload hx (by rw [e74]; exact Aq87.1) (oia hZ Aq87.2.1) Aq87.2.2 in87 at87 (g := (mkF m 61 #[.val (.double xc), .second, rv hd, rv fl, rv a, rv mi, rv b2, rv b15, iv 0, .val (.double (FP.l2d ((0 : Int64) + (own_mx ((u0 - v0) - m0))))), .second, iv 1] [(.int 1), (.ref b2), (.int 1), (.ref b15)])) rfl rfl (hb hby d12_61) _ z) ?_
  show OG p e below Φ T74 m 62 #[.val (.double xc), .second, rv hd, rv fl, rv a, rv mi, rv b2, rv b15, iv 0, .val (.double (FP.l2d ((0 : Int64) + (own_mx ((u0 - v0) - m0))))), .second, iv 1] [(.double (FP.l2d (u1 - v1))), (.int 1), (.ref b15)]
  refine os (fun _ z => XS.aload X74.here hx rfl (hb hby d12_62) rfl rfl z) ?_
  show OG p e below Φ T74 m 64 #[.val (.double xc), .second, rv hd, rv fl, rv a, rv mi, rv b2, rv b15, iv 0, .val (.double (FP.l2d ((0 : Int64) + (own_mx ((u0 - v0) - m0))))), .second, iv 1] [(.ref mi), (.double (FP.l2d (u1 - v1))), (.int 1), (.ref b15)]
  refine os (fun _ z => XS.iload X74.here hx rfl (hb hby d12_64) rfl z) ?_
  show OG p e below Φ T74 m 66 #[.val (.double xc), .second, rv hd, rv fl, rv a, rv mi, rv b2, rv b15, iv 0, .val (.double (FP.l2d ((0 : Int64) + (own_mx ((u0 - v0) - m0))))), .second, iv 1] [(.int 1), (.ref mi), (.double (FP.l2d (u1 - v1))), (.int 1), (.ref b15)]
  obtain ⟨cl88, Aq88, -, S88, M88, H88, -⟩ := id F76
  have in88 : ¬ ((1 : Int32) < 0 ∨ cl88.slots.size ≤ (1 : Int32).toNatClampNeg) := inb_of S88 ⟨by decide, by decide⟩
  have at88 : cl88.slots[(1 : Int32).toNatClampNeg]? = some (.double (FP.l2d m1)) := H88.at in88 rfl
  refine os (fun _ z => X74.daload hx (by rw [e74]; exact Aq88.1) (oia hZ Aq88.2.1) Aq88.2.2 in88 at88 (g := (mkF m 66 #[.val (.double xc), .second, rv hd, rv fl, rv a, rv mi, rv b2, rv b15, iv 0, .val (.double (FP.l2d ((0 : Int64) + (own_mx ((u0 - v0) - m0))))), .second, iv 1] [(.int 1), (.ref mi), (.double (FP.l2d (u1 - v1))), (.int 1), (.ref b15)])) rfl rfl (hb hby d12_66) _ z) ?_
  show OG p e below Φ T74 m 67 #[.val (.double xc), .second, rv hd, rv fl, rv a, rv mi, rv b2, rv b15, iv 0, .val (.double (FP.l2d ((0 : Int64) + (own_mx ((u0 - v0) - m0))))), .second, iv 1] [(.double (FP.l2d m1)), (.double (FP.l2d (u1 - v1))), (.int 1), (.ref b15)]
  have B89 : own_Bd 2997 ((u1 - v1) - m1) := own_bdS B73 b_m1 (by decide)
  refine os (fun _ z => XS.dsubS X74.here hx rfl (hb hby d12_67) rfl (nn_w (dsub_w (B73.b (by decide)) (b_m1.b (by decide)))) (dsub_w (B73.b (by decide)) (b_m1.b (by decide))) z) ?_
  show OG p e below Φ T74 m 68 #[.val (.double xc), .second, rv hd, rv fl, rv a, rv mi, rv b2, rv b15, iv 0, .val (.double (FP.l2d ((0 : Int64) + (own_mx ((u0 - v0) - m0))))), .second, iv 1] [(.double (FP.l2d ((u1 - v1) - m1))), (.int 1), (.ref b15)]
  obtain ⟨cl90, Aq90, Cq90, S90, M90, H90, G90⟩ := id F86
  have in90 : ¬ ((1 : Int32) < 0 ∨ cl90.slots.size ≤ (1 : Int32).toNatClampNeg) := inb_of S90 ⟨by decide, by decide⟩
  obtain ⟨T90, h90, X90, e90, W90, st90⟩ := stD X74 hx hZ e74 Aq90 in90 (g := (mkF m 68 #[.val (.double xc), .second, rv hd, rv fl, rv a, rv mi, rv b2, rv b15, iv 0, .val (.double (FP.l2d ((0 : Int64) + (own_mx ((u0 - v0) - m0))))), .second, iv 1] [(.double (FP.l2d ((u1 - v1) - m1))), (.int 1), (.ref b15)])) rfl rfl (hb hby d12_68)
  have F91 := F75.other W90 ne15_hd
  have F92 := F76.other W90 ne15_mi
  have F93 := F77.wr W90
  have F94 := F78.other W90 (Or.inl ne15_a)
  have F95 := F79.other W90 (Or.inl ne15_a)
  have F96 := F80.other W90 (Or.inl ne15_a)
  have F97 := F81.other W90 ne15_d
  have F98 := F82.wr W90
  have F99 := F83.wr W90
  have F100 := F84.other W90 (Or.inl ne15_y0_)
  have F101 := F85.other W90 (Or.inl ne15_y1_)
  have F102 := V74.other W90 ne15_b2
  have V90 : Arv Z h90 b15 c15 .double (2 : Int32) [(.double (FP.l2d ((u0 - v0) - m0))), (.double (FP.l2d ((u1 - v1) - m1)))] (.double (FP.l2d (0 : Int64))) := Arv.set Aq90 Cq90 S90 M90 H90 G90 rfl W90 1 (by decide) (by show 1 < 2; decide)
  have K90 := K74.wr W90 (Or.inr sz15)
  have N90 := Fr.snoc X90 N74 gb15
  have Zs90 : n0 ≤ h90.size := by rw [W90.size]; exact Zs74
  refine os st90 ?_
  show OG p e below Φ T90 m 69 #[.val (.double xc), .second, rv hd, rv fl, rv a, rv mi, rv b2, rv b15, iv 0, .val (.double (FP.l2d ((0 : Int64) + (own_mx ((u0 - v0) - m0))))), .second, iv 1] []
  refine os (fun _ z => XS.aload X90.here hx rfl (hb hby d12_69) rfl rfl z) ?_
  show OG p e below Φ T90 m 71 #[.val (.double xc), .second, rv hd, rv fl, rv a, rv mi, rv b2, rv b15, iv 0, .val (.double (FP.l2d ((0 : Int64) + (own_mx ((u0 - v0) - m0))))), .second, iv 1] [(.ref b15)]
  refine os (fun _ z => XS.iload X90.here hx rfl (hb hby d12_71) rfl z) ?_
  show OG p e below Φ T90 m 73 #[.val (.double xc), .second, rv hd, rv fl, rv a, rv mi, rv b2, rv b15, iv 0, .val (.double (FP.l2d ((0 : Int64) + (own_mx ((u0 - v0) - m0))))), .second, iv 1] [(.int 1), (.ref b15)]
  obtain ⟨cl103, Aq103, -, S103, M103, H103, -⟩ := id V90
  have in103 : ¬ ((1 : Int32) < 0 ∨ cl103.slots.size ≤ (1 : Int32).toNatClampNeg) := inb_of S103 ⟨by decide, by decide⟩
  have at103 : cl103.slots[(1 : Int32).toNatClampNeg]? = some (.double (FP.l2d ((u1 - v1) - m1))) := H103.at in103 rfl
  refine os (fun _ z => X90.daload hx (by rw [e90]; exact Aq103.1) (oia hZ Aq103.2.1) Aq103.2.2 in103 at103 (g := (mkF m 73 #[.val (.double xc), .second, rv hd, rv fl, rv a, rv mi, rv b2, rv b15, iv 0, .val (.double (FP.l2d ((0 : Int64) + (own_mx ((u0 - v0) - m0))))), .second, iv 1] [(.int 1), (.ref b15)])) rfl rfl (hb hby d12_73) _ z) ?_
  show OG p e below Φ T90 m 74 #[.val (.double xc), .second, rv hd, rv fl, rv a, rv mi, rv b2, rv b15, iv 0, .val (.double (FP.l2d ((0 : Int64) + (own_mx ((u0 - v0) - m0))))), .second, iv 1] [(.double (FP.l2d ((u1 - v1) - m1)))]
  refine os (fun _ z => XS.aload X90.here hx rfl (hb hby d12_74) rfl rfl z) ?_
  show OG p e below Φ T90 m 76 #[.val (.double xc), .second, rv hd, rv fl, rv a, rv mi, rv b2, rv b15, iv 0, .val (.double (FP.l2d ((0 : Int64) + (own_mx ((u0 - v0) - m0))))), .second, iv 1] [(.ref b15), (.double (FP.l2d ((u1 - v1) - m1)))]
  refine os (fun _ z => XS.iload X90.here hx rfl (hb hby d12_76) rfl z) ?_
  show OG p e below Φ T90 m 78 #[.val (.double xc), .second, rv hd, rv fl, rv a, rv mi, rv b2, rv b15, iv 0, .val (.double (FP.l2d ((0 : Int64) + (own_mx ((u0 - v0) - m0))))), .second, iv 1] [(.int 0), (.ref b15), (.double (FP.l2d ((u1 - v1) - m1)))]
  obtain ⟨cl104, Aq104, -, S104, M104, H104, -⟩ := id V90
  have in104 : ¬ ((0 : Int32) < 0 ∨ cl104.slots.size ≤ (0 : Int32).toNatClampNeg) := inb_of S104 ⟨by decide, by decide⟩
  have at104 : cl104.slots[(0 : Int32).toNatClampNeg]? = some (.double (FP.l2d ((u0 - v0) - m0))) := H104.at in104 rfl
  refine os (fun _ z => X90.daload hx (by rw [e90]; exact Aq104.1) (oia hZ Aq104.2.1) Aq104.2.2 in104 at104 (g := (mkF m 78 #[.val (.double xc), .second, rv hd, rv fl, rv a, rv mi, rv b2, rv b15, iv 0, .val (.double (FP.l2d ((0 : Int64) + (own_mx ((u0 - v0) - m0))))), .second, iv 1] [(.int 0), (.ref b15), (.double (FP.l2d ((u1 - v1) - m1)))])) rfl rfl (hb hby d12_78) _ z) ?_
  show OG p e below Φ T90 m 79 #[.val (.double xc), .second, rv hd, rv fl, rv a, rv mi, rv b2, rv b15, iv 0, .val (.double (FP.l2d ((0 : Int64) + (own_mx ((u0 - v0) - m0))))), .second, iv 1] [(.double (FP.l2d ((u0 - v0) - m0))), (.double (FP.l2d ((u1 - v1) - m1)))]
  refine os (fun _ z => XS.dcmpS X90.here hx rfl (hb hby d12_79) rfl (own_dc (B89.b (by decide)) (B49.b (by decide)) .g) z) ?_
  show OG p e below Φ T90 m 80 #[.val (.double xc), .second, rv hd, rv fl, rv a, rv mi, rv b2, rv b15, iv 0, .val (.double (FP.l2d ((0 : Int64) + (own_mx ((u0 - v0) - m0))))), .second, iv 1] [(.int (XT.cmpL ((u1 - v1) - m1) ((u0 - v0) - m0)))]
  by_cases hc105 : ((u1 - v1) - m1) < ((u0 - v0) - m0)
  · refine os (fun _ z => XS.ifNo X90.here hx rfl (hb hby d12_80) rfl (XT.ll_ge_f hc105) z) ?_
    show OG p e below Φ T90 m 83 #[.val (.double xc), .second, rv hd, rv fl, rv a, rv mi, rv b2, rv b15, iv 0, .val (.double (FP.l2d ((0 : Int64) + (own_mx ((u0 - v0) - m0))))), .second, iv 1] []
    refine os (fun _ z => XS.iload X90.here hx rfl (hb hby d12_83) rfl z) ?_
    show OG p e below Φ T90 m 85 #[.val (.double xc), .second, rv hd, rv fl, rv a, rv mi, rv b2, rv b15, iv 0, .val (.double (FP.l2d ((0 : Int64) + (own_mx ((u0 - v0) - m0))))), .second, iv 1] [(.int 1)]
    refine os (fun _ z => XS.istore X90.here hx rfl (hb hby d12_85) rfl (l' := #[.val (.double xc), .second, rv hd, rv fl, rv a, rv mi, rv b2, rv b15, iv 1, .val (.double (FP.l2d ((0 : Int64) + (own_mx ((u0 - v0) - m0))))), .second, iv 1]) rfl z) ?_
    show OG p e below Φ T90 m 87 #[.val (.double xc), .second, rv hd, rv fl, rv a, rv mi, rv b2, rv b15, iv 1, .val (.double (FP.l2d ((0 : Int64) + (own_mx ((u0 - v0) - m0))))), .second, iv 1] []
    refine os (fun _ z => XS.dload X90.here hx rfl (hb hby d12_87) rfl z) ?_
    show OG p e below Φ T90 m 89 #[.val (.double xc), .second, rv hd, rv fl, rv a, rv mi, rv b2, rv b15, iv 1, .val (.double (FP.l2d ((0 : Int64) + (own_mx ((u0 - v0) - m0))))), .second, iv 1] [(.double (FP.l2d ((0 : Int64) + (own_mx ((u0 - v0) - m0)))))]
    refine os (fun _ z => XS.aload X90.here hx rfl (hb hby d12_89) rfl rfl z) ?_
    show OG p e below Φ T90 m 91 #[.val (.double xc), .second, rv hd, rv fl, rv a, rv mi, rv b2, rv b15, iv 1, .val (.double (FP.l2d ((0 : Int64) + (own_mx ((u0 - v0) - m0))))), .second, iv 1] [(.ref b15), (.double (FP.l2d ((0 : Int64) + (own_mx ((u0 - v0) - m0)))))]
    refine os (fun _ z => XS.iload X90.here hx rfl (hb hby d12_91) rfl z) ?_
    show OG p e below Φ T90 m 93 #[.val (.double xc), .second, rv hd, rv fl, rv a, rv mi, rv b2, rv b15, iv 1, .val (.double (FP.l2d ((0 : Int64) + (own_mx ((u0 - v0) - m0))))), .second, iv 1] [(.int 1), (.ref b15), (.double (FP.l2d ((0 : Int64) + (own_mx ((u0 - v0) - m0)))))]
    obtain ⟨cl106, Aq106, -, S106, M106, H106, -⟩ := id V90
    have in106 : ¬ ((1 : Int32) < 0 ∨ cl106.slots.size ≤ (1 : Int32).toNatClampNeg) := inb_of S106 ⟨by decide, by decide⟩
    have at106 : cl106.slots[(1 : Int32).toNatClampNeg]? = some (.double (FP.l2d ((u1 - v1) - m1))) := H106.at in106 rfl
    refine os (fun _ z => X90.daload hx (by rw [e90]; exact Aq106.1) (oia hZ Aq106.2.1) Aq106.2.2 in106 at106 (g := (mkF m 93 #[.val (.double xc), .second, rv hd, rv fl, rv a, rv mi, rv b2, rv b15, iv 1, .val (.double (FP.l2d ((0 : Int64) + (own_mx ((u0 - v0) - m0))))), .second, iv 1] [(.int 1), (.ref b15), (.double (FP.l2d ((0 : Int64) + (own_mx ((u0 - v0) - m0)))))])) rfl rfl (hb hby d12_93) _ z) ?_
    show OG p e below Φ T90 m 94 #[.val (.double xc), .second, rv hd, rv fl, rv a, rv mi, rv b2, rv b15, iv 1, .val (.double (FP.l2d ((0 : Int64) + (own_mx ((u0 - v0) - m0))))), .second, iv 1] [(.double (FP.l2d ((u1 - v1) - m1))), (.double (FP.l2d ((0 : Int64) + (own_mx ((u0 - v0) - m0)))))]
    refine os (fun _ z => XS.dnegS X90.here hx rfl (hb hby d12_94) rfl rfl z) ?_
    show OG p e below Φ T90 m 95 #[.val (.double xc), .second, rv hd, rv fl, rv a, rv mi, rv b2, rv b15, iv 1, .val (.double (FP.l2d ((0 : Int64) + (own_mx ((u0 - v0) - m0))))), .second, iv 1] [(.double (FP.dneg (FP.l2d ((u1 - v1) - m1)))), (.double (FP.l2d ((0 : Int64) + (own_mx ((u0 - v0) - m0)))))]
    refine os (fun _ z => XS.dconst0 X90.here hx rfl (v := FP.l2d (0 : Int64)) (hb hby d12_95) own_d0 z) ?_
    show OG p e below Φ T90 m 96 #[.val (.double xc), .second, rv hd, rv fl, rv a, rv mi, rv b2, rv b15, iv 1, .val (.double (FP.l2d ((0 : Int64) + (own_mx ((u0 - v0) - m0))))), .second, iv 1] [(.double (FP.l2d (0 : Int64))), (.double (FP.dneg (FP.l2d ((u1 - v1) - m1)))), (.double (FP.l2d ((0 : Int64) + (own_mx ((u0 - v0) - m0)))))]
    obtain ⟨T107, X107, e107, st107⟩ := natS X90 hx hZ hown (ow118 hw) (ow119 hw) (ow79 hw) (ow120 hw) (by decide) e90 (W := 2) (F := fun a' => a' = #[(.double (FP.dneg (FP.l2d ((u1 - v1) - m1)))), (.double (FP.l2d (0 : Int64)))] ∧ Jvm.Free.Fl.NoNaN64 (FP.dneg (FP.l2d ((u1 - v1) - m1))) ∧ Jvm.Free.Fl.NoNaN64 (FP.l2d (0 : Int64))) (val := .double (Native.java_lang_Math.nans.pick64 true (FP.dneg (FP.l2d ((u1 - v1) - m1))) (FP.l2d (0 : Int64)))) (val' := .double (FP.l2d (own_mx ((u1 - v1) - m1)))) (fun c4 => Jvm.Free.Fl.Abs.maxD_pays (FP.dneg (FP.l2d ((u1 - v1) - m1))) (FP.l2d (0 : Int64)) c4 (by decide) (by decide)) (g := (mkF m 96 #[.val (.double xc), .second, rv hd, rv fl, rv a, rv mi, rv b2, rv b15, iv 1, .val (.double (FP.l2d ((0 : Int64) + (own_mx ((u0 - v0) - m0))))), .second, iv 1] [(.double (FP.l2d (0 : Int64))), (.double (FP.dneg (FP.l2d ((u1 - v1) - m1)))), (.double (FP.l2d ((0 : Int64) + (own_mx ((u0 - v0) - m0)))))])) rfl (by rw [hml]; rfl) (argsL := [(.double (FP.dneg (FP.l2d ((u1 - v1) - m1)))), (.double (FP.l2d (0 : Int64)))]) (rest := [(.double (FP.l2d ((0 : Int64) + (own_mx ((u0 - v0) - m0)))))]) (lenOf pd8 rfl) rfl (by show 2 * 0 + _ ≤ _; exact Nat.le_of_eq rfl) (hb hby d12_96) (by decide) (by decide) ⟨rfl, own_nnN _, nn_w rfl⟩ (congrArg Value.double (own_pick B89 (by decide)))
    have B107 : own_Bd 2997 (own_mx ((u1 - v1) - m1)) := own_bdX B89 (by decide)
    refine os st107 ?_
    show OG p e below Φ T107 m 99 #[.val (.double xc), .second, rv hd, rv fl, rv a, rv mi, rv b2, rv b15, iv 1, .val (.double (FP.l2d ((0 : Int64) + (own_mx ((u0 - v0) - m0))))), .second, iv 1] [(.double (FP.l2d (own_mx ((u1 - v1) - m1)))), (.double (FP.l2d ((0 : Int64) + (own_mx ((u0 - v0) - m0)))))]
    have B108 : own_Bd 5994 (((0 : Int64) + (own_mx ((u0 - v0) - m0))) + (own_mx ((u1 - v1) - m1))) := own_bdA B67 B107 (by decide)
    refine os (fun _ z => XS.daddS X107.here hx rfl (hb hby d12_99) rfl (nn_w (dadd_w (B67.b (by decide)) (B107.b (by decide)))) (dadd_w (B67.b (by decide)) (B107.b (by decide))) z) ?_
    show OG p e below Φ T107 m 100 #[.val (.double xc), .second, rv hd, rv fl, rv a, rv mi, rv b2, rv b15, iv 1, .val (.double (FP.l2d ((0 : Int64) + (own_mx ((u0 - v0) - m0))))), .second, iv 1] [(.double (FP.l2d (((0 : Int64) + (own_mx ((u0 - v0) - m0))) + (own_mx ((u1 - v1) - m1)))))]
    refine os (fun _ z => XS.dstore X107.here hx rfl (hb hby d12_100) rfl (l' := #[.val (.double xc), .second, rv hd, rv fl, rv a, rv mi, rv b2, rv b15, iv 1, .val (.double (FP.l2d (((0 : Int64) + (own_mx ((u0 - v0) - m0))) + (own_mx ((u1 - v1) - m1))))), .second, iv 1]) rfl z) ?_
    show OG p e below Φ T107 m 102 #[.val (.double xc), .second, rv hd, rv fl, rv a, rv mi, rv b2, rv b15, iv 1, .val (.double (FP.l2d (((0 : Int64) + (own_mx ((u0 - v0) - m0))) + (own_mx ((u1 - v1) - m1))))), .second, iv 1] []
    refine os (fun _ z => XS.iinc X107.here hx rfl (hb hby d12_102) rfl (l' := #[.val (.double xc), .second, rv hd, rv fl, rv a, rv mi, rv b2, rv b15, iv 1, .val (.double (FP.l2d (((0 : Int64) + (own_mx ((u0 - v0) - m0))) + (own_mx ((u1 - v1) - m1))))), .second, iv ((1 : Int32) + (1 : Int32))]) rfl z) ?_
    show OG p e below Φ T107 m 105 #[.val (.double xc), .second, rv hd, rv fl, rv a, rv mi, rv b2, rv b15, iv 1, .val (.double (FP.l2d (((0 : Int64) + (own_mx ((u0 - v0) - m0))) + (own_mx ((u1 - v1) - m1))))), .second, iv 2] []
    refine os (fun _ z => XS.goto X107.here hx rfl (pc0 := 105) (pc' := 21) rfl (hb hby d12_105) (by decide) (by decide) z) ?_
    show OG p e below Φ T107 m 21 #[.val (.double xc), .second, rv hd, rv fl, rv a, rv mi, rv b2, rv b15, iv 1, .val (.double (FP.l2d (((0 : Int64) + (own_mx ((u0 - v0) - m0))) + (own_mx ((u1 - v1) - m1))))), .second, iv 2] []
    refine os (fun _ z => XS.iload X107.here hx rfl (hb hby d12_21) rfl z) ?_
    show OG p e below Φ T107 m 23 #[.val (.double xc), .second, rv hd, rv fl, rv a, rv mi, rv b2, rv b15, iv 1, .val (.double (FP.l2d (((0 : Int64) + (own_mx ((u0 - v0) - m0))) + (own_mx ((u1 - v1) - m1))))), .second, iv 2] [(.int 2)]
    refine os (fun _ z => XS.aloadN X107.here hx rfl (hb hby d12_23) rfl rfl z) ?_
    show OG p e below Φ T107 m 24 #[.val (.double xc), .second, rv hd, rv fl, rv a, rv mi, rv b2, rv b15, iv 1, .val (.double (FP.l2d (((0 : Int64) + (own_mx ((u0 - v0) - m0))) + (own_mx ((u1 - v1) - m1))))), .second, iv 2] [(.ref hd), (.int 2)]
    obtain ⟨cl109, Aq109, -, S109, M109, -, -⟩ := id F91
    refine os (fun _ z => X107.arraylength hx (by rw [e107]; exact Aq109.1) (oia hZ Aq109.2.1) (g := (mkF m 24 #[.val (.double xc), .second, rv hd, rv fl, rv a, rv mi, rv b2, rv b15, iv 1, .val (.double (FP.l2d (((0 : Int64) + (own_mx ((u0 - v0) - m0))) + (own_mx ((u1 - v1) - m1))))), .second, iv 2] [(.ref hd), (.int 2)])) rfl rfl (hb hby d12_24) _ z) ?_
    rw [len_of S109 M109]
    show OG p e below Φ T107 m 25 #[.val (.double xc), .second, rv hd, rv fl, rv a, rv mi, rv b2, rv b15, iv 1, .val (.double (FP.l2d (((0 : Int64) + (own_mx ((u0 - v0) - m0))) + (own_mx ((u1 - v1) - m1))))), .second, iv 2] [(.int 2), (.int 2)]
    refine os (fun _ z => XS.icmpYes X107.here hx rfl (pc0 := 25) (pc' := 108) rfl (hb hby d12_25) rfl (XT.ii_ge_t (by decide)) (by decide) (by decide) z) ?_
    show OG p e below Φ T107 m 108 #[.val (.double xc), .second, rv hd, rv fl, rv a, rv mi, rv b2, rv b15, iv 1, .val (.double (FP.l2d (((0 : Int64) + (own_mx ((u0 - v0) - m0))) + (own_mx ((u1 - v1) - m1))))), .second, iv 2] []
    obtain ⟨T110, h110, X110, e110, E110, A110, D110, U110, st110⟩ := newO X107 hx hZ hown (ow121 hw) (ow122 hw) (ow87 hw) e107 (g := (mkF m 108 #[.val (.double xc), .second, rv hd, rv fl, rv a, rv mi, rv b2, rv b15, iv 1, .val (.double (FP.l2d (((0 : Int64) + (own_mx ((u0 - v0) - m0))) + (own_mx ((u1 - v1) - m1))))), .second, iv 2] [])) rfl (hb hby d12_108) (by decide) (by decide)
    obtain ⟨b110, g110⟩ : ∃ z, z = h90.size := ⟨_, rfl⟩
    rw [← g110] at A110 D110 st110 U110
    have ne110_a : a ≠ b110 := by rw [g110]; exact Nat.ne_of_lt F93.lt
    have ne110_b15 : b15 ≠ b110 := by rw [g110]; exact Nat.ne_of_lt V90.lt
    have ne110_b2 : b2 ≠ b110 := by rw [g110]; exact Nat.ne_of_lt F102.lt
    have ne110_d : d ≠ b110 := by rw [g110]; exact Nat.ne_of_lt F97.lt
    have ne110_hd : hd ≠ b110 := by rw [g110]; exact Nat.ne_of_lt F91.lt
    have ne110_mi : mi ≠ b110 := by rw [g110]; exact Nat.ne_of_lt F92.lt
    have ne110_y0_ : y0_ ≠ b110 := by rw [g110]; exact Nat.ne_of_lt F98.lt
    have ne110_y1_ : y1_ ≠ b110 := by rw [g110]; exact Nat.ne_of_lt F99.lt
    have F111 := F91.ext E110
    have F112 := F92.ext E110
    have F113 := F93.ext E110
    have F114 := F94.ext E110
    have F115 := F95.ext E110
    have F116 := F96.ext E110
    have F117 := F97.ext E110
    have F118 := F98.ext E110
    have F119 := F99.ext E110
    have F120 := F100.ext E110
    have F121 := F101.ext E110
    have F122 := F102.ext E110
    have F123 := V90.ext E110
    have gb110 : n0 ≤ b110 := Nat.le_trans Zs90 (Nat.le_of_eq g110.symm)
    have K110 := K90.ext E110
    have sz110 : h0.size ≤ b110 := Nat.le_trans K90.1 (Nat.le_of_eq g110.symm)
    have Zs110 : n0 ≤ h110.size := Nat.le_trans Zs90 E110.1
    have F110_128 : Fld Z h110 b110 "com/example/hydromeme/hydromeme/Evaluation" "cost" "D" (.double 0) := D110 (Or.inr (ow128 hw)) (ty := .double) (by decide)
    have F110_130 : Fld Z h110 b110 "com/example/hydromeme/hydromeme/Evaluation" "heads" "[D" .null := D110 (Or.inr (ow130 hw)) (ty := (.array .double)) (by decide)
    have F110_132 : Fld Z h110 b110 "com/example/hydromeme/hydromeme/Evaluation" "pressures" "[D" .null := D110 (Or.inr (ow132 hw)) (ty := (.array .double)) (by decide)
    have F110_134 : Fld Z h110 b110 "com/example/hydromeme/hydromeme/Evaluation" "margins" "[D" .null := D110 (Or.inr (ow134 hw)) (ty := (.array .double)) (by decide)
    have F110_136 : Fld Z h110 b110 "com/example/hydromeme/hydromeme/Evaluation" "flows" "[D" .null := D110 (Or.inr (ow136 hw)) (ty := (.array .double)) (by decide)
    have F110_138 : Fld Z h110 b110 "com/example/hydromeme/hydromeme/Evaluation" "critical" "I" (.int (0 : Int32)) := D110 (Or.inr (ow138 hw)) (ty := .int) (by decide)
    have F110_140 : Fld Z h110 b110 "com/example/hydromeme/hydromeme/Evaluation" "deficit" "D" (.double 0) := D110 (Or.inr (ow140 hw)) (ty := .double) (by decide)
    refine os (st110) ?_
    show OG p e below Φ T110 m 111 #[.val (.double xc), .second, rv hd, rv fl, rv a, rv mi, rv b2, rv b15, iv 1, .val (.double (FP.l2d (((0 : Int64) + (own_mx ((u0 - v0) - m0))) + (own_mx ((u1 - v1) - m1))))), .second, iv 2] [(.ref b110)]
    refine os (fun _ z => XS.dup X110.here hx rfl (hb hby d12_111) rfl rfl z) ?_
    show OG p e below Φ T110 m 112 #[.val (.double xc), .second, rv hd, rv fl, rv a, rv mi, rv b2, rv b15, iv 1, .val (.double (FP.l2d (((0 : Int64) + (own_mx ((u0 - v0) - m0))) + (own_mx ((u1 - v1) - m1))))), .second, iv 2] [(.ref b110), (.ref b110)]
    refine os (fun _ z => XS.dloadN X110.here hx rfl (hb hby d12_112) rfl z) ?_
    show OG p e below Φ T110 m 113 #[.val (.double xc), .second, rv hd, rv fl, rv a, rv mi, rv b2, rv b15, iv 1, .val (.double (FP.l2d (((0 : Int64) + (own_mx ((u0 - v0) - m0))) + (own_mx ((u1 - v1) - m1))))), .second, iv 2] [(.double xc), (.ref b110), (.ref b110)]
    refine os (fun _ z => XS.aloadN X110.here hx rfl (hb hby d12_113) rfl rfl z) ?_
    show OG p e below Φ T110 m 114 #[.val (.double xc), .second, rv hd, rv fl, rv a, rv mi, rv b2, rv b15, iv 1, .val (.double (FP.l2d (((0 : Int64) + (own_mx ((u0 - v0) - m0))) + (own_mx ((u1 - v1) - m1))))), .second, iv 2] [(.ref hd), (.double xc), (.ref b110), (.ref b110)]
    refine os (fun _ z => XS.aload X110.here hx rfl (hb hby d12_114) rfl rfl z) ?_
    show OG p e below Φ T110 m 116 #[.val (.double xc), .second, rv hd, rv fl, rv a, rv mi, rv b2, rv b15, iv 1, .val (.double (FP.l2d (((0 : Int64) + (own_mx ((u0 - v0) - m0))) + (own_mx ((u1 - v1) - m1))))), .second, iv 2] [(.ref b2), (.ref hd), (.double xc), (.ref b110), (.ref b110)]
    refine os (fun _ z => XS.aload X110.here hx rfl (hb hby d12_116) rfl rfl z) ?_
    show OG p e below Φ T110 m 118 #[.val (.double xc), .second, rv hd, rv fl, rv a, rv mi, rv b2, rv b15, iv 1, .val (.double (FP.l2d (((0 : Int64) + (own_mx ((u0 - v0) - m0))) + (own_mx ((u1 - v1) - m1))))), .second, iv 2] [(.ref b15), (.ref b2), (.ref hd), (.double xc), (.ref b110), (.ref b110)]
    refine os (fun _ z => XS.aloadN X110.here hx rfl (hb hby d12_118) rfl rfl z) ?_
    show OG p e below Φ T110 m 119 #[.val (.double xc), .second, rv hd, rv fl, rv a, rv mi, rv b2, rv b15, iv 1, .val (.double (FP.l2d (((0 : Int64) + (own_mx ((u0 - v0) - m0))) + (own_mx ((u1 - v1) - m1))))), .second, iv 2] [(.ref fl), (.ref b15), (.ref b2), (.ref hd), (.double xc), (.ref b110), (.ref b110)]
    refine os (fun _ z => XS.iload X110.here hx rfl (hb hby d12_119) rfl z) ?_
    show OG p e below Φ T110 m 121 #[.val (.double xc), .second, rv hd, rv fl, rv a, rv mi, rv b2, rv b15, iv 1, .val (.double (FP.l2d (((0 : Int64) + (own_mx ((u0 - v0) - m0))) + (own_mx ((u1 - v1) - m1))))), .second, iv 2] [(.int 1), (.ref fl), (.ref b15), (.ref b2), (.ref hd), (.double xc), (.ref b110), (.ref b110)]
    refine os (fun _ z => XS.dload X110.here hx rfl (hb hby d12_121) rfl z) ?_
    show OG p e below Φ T110 m 123 #[.val (.double xc), .second, rv hd, rv fl, rv a, rv mi, rv b2, rv b15, iv 1, .val (.double (FP.l2d (((0 : Int64) + (own_mx ((u0 - v0) - m0))) + (own_mx ((u1 - v1) - m1))))), .second, iv 2] [(.double (FP.l2d (((0 : Int64) + (own_mx ((u0 - v0) - m0))) + (own_mx ((u1 - v1) - m1))))), (.int 1), (.ref fl), (.ref b15), (.ref b2), (.ref hd), (.double xc), (.ref b110), (.ref b110)]
    obtain ⟨_, T124, L124, X124, hQ124, st124⟩ := own_callSp X110 hx hZ rfl hown (ow123 hw) (ow124 hw) (ow87 hw) (ow125 hw) (by decide) (revi l Z a0 hw [] b110 xc hd b2 b15 fl (1 : Int32) (FP.l2d (((0 : Int64) + (own_mx ((u0 - v0) - m0))) + (own_mx ((u1 - v1) - m1)))) (.double 0) .null .null .null .null (.int 0) (.double 0) h110 n0 Zs110 A110 gb110 F110_128 F110_130 F110_132 F110_134 F110_136 F110_138 F110_140) e110 (W := 1) (by decide) (by decide) (by decide) (by decide) (pc := 123) (ls := #[.val (.double xc), .second, rv hd, rv fl, rv a, rv mi, rv b2, rv b15, iv 1, .val (.double (FP.l2d (((0 : Int64) + (own_mx ((u0 - v0) - m0))) + (own_mx ((u1 - v1) - m1))))), .second, iv 2]) (stk := [(.double (FP.l2d (((0 : Int64) + (own_mx ((u0 - v0) - m0))) + (own_mx ((u1 - v1) - m1))))), (.int 1), (.ref fl), (.ref b15), (.ref b2), (.ref hd), (.double xc), (.ref b110), (.ref b110)]) (by rw [hml]; rfl) (a := b110) (argsL := [(.double xc), (.ref hd), (.ref b2), (.ref b15), (.ref fl), (.int 1), (.double (FP.l2d (((0 : Int64) + (own_mx ((u0 - v0) - m0))) + (own_mx ((u1 - v1) - m1)))))]) (rest := [(.ref b110)]) (lenOf pd9 rfl) rfl rfl (Nat.le_of_eq rfl) (hb hby d12_123)
    obtain ⟨rfl, Nq124, Kq124, Eq124, Fq124_0, Fq124_1, Fq124_2, Fq124_3, Fq124_4, Fq124_5, Fq124_6⟩ := hQ124
    have N124 := Fr.app N90 Nq124
    have Zs124 : n0 ≤ T124.heap.size := Nat.le_trans Zs110 Kq124.1
    have F125 := F111.keep Kq124 (ninS ne110_hd nin0)
    have F126 := F112.keep Kq124 (ninS ne110_mi nin0)
    have F127 := F113.keep Kq124
    have F128 := F114.keep Kq124 (ninS ne110_a nin0)
    have F129 := F115.keep Kq124 (ninS ne110_a nin0)
    have F130 := F116.keep Kq124 (ninS ne110_a nin0)
    have F131 := F117.keep Kq124 (ninS ne110_d nin0)
    have F132 := F118.keep Kq124
    have F133 := F119.keep Kq124
    have F134 := F120.keep Kq124 (ninS ne110_y0_ nin0)
    have F135 := F121.keep Kq124 (ninS ne110_y1_ nin0)
    have F136 := F122.keep Kq124 (ninS ne110_b2 nin0)
    have F137 := F123.keep Kq124 (ninS ne110_b15 nin0)
    have K124 := K110.trans Kq124 (allS (Or.inr sz110) all0)
    refine os st124 ?_
    show OG p e below Φ T124 m 126 #[.val (.double xc), .second, rv hd, rv fl, rv a, rv mi, rv b2, rv b15, iv 1, .val (.double (FP.l2d (((0 : Int64) + (own_mx ((u0 - v0) - m0))) + (own_mx ((u1 - v1) - m1))))), .second, iv 2] [(.ref b110)]
    refine OGo.fin X124 hlk (v := (some (.ref b110))) (fun h => by rw [hret] at h; cases h) (by decide) (by decide) (fun fs hr => X124.areturnOut hx rfl hret rfl (hb hby d12_126) hr) fun U eU hF => hΦ _ _ _ ?_ hF
    rw [eU]
    show Q_rof Z xc hd ch fl a mc d cd y0_ y1_ mi cm u0 u1 v0 v1 m0 m1 h0 n0 _ _ _
    exact ⟨_, rfl, N124, K124, Eq124, Fq124_6, B108, sz110⟩
  · refine os (fun _ z => XS.ifYes X90.here hx rfl (pc0 := 80) (pc' := 87) rfl (hb hby d12_80) rfl (XT.ll_ge_t hc105) (by decide) (by decide) z) ?_
    show OG p e below Φ T90 m 87 #[.val (.double xc), .second, rv hd, rv fl, rv a, rv mi, rv b2, rv b15, iv 0, .val (.double (FP.l2d ((0 : Int64) + (own_mx ((u0 - v0) - m0))))), .second, iv 1] []
    refine os (fun _ z => XS.dload X90.here hx rfl (hb hby d12_87) rfl z) ?_
    show OG p e below Φ T90 m 89 #[.val (.double xc), .second, rv hd, rv fl, rv a, rv mi, rv b2, rv b15, iv 0, .val (.double (FP.l2d ((0 : Int64) + (own_mx ((u0 - v0) - m0))))), .second, iv 1] [(.double (FP.l2d ((0 : Int64) + (own_mx ((u0 - v0) - m0)))))]
    refine os (fun _ z => XS.aload X90.here hx rfl (hb hby d12_89) rfl rfl z) ?_
    show OG p e below Φ T90 m 91 #[.val (.double xc), .second, rv hd, rv fl, rv a, rv mi, rv b2, rv b15, iv 0, .val (.double (FP.l2d ((0 : Int64) + (own_mx ((u0 - v0) - m0))))), .second, iv 1] [(.ref b15), (.double (FP.l2d ((0 : Int64) + (own_mx ((u0 - v0) - m0)))))]
    refine os (fun _ z => XS.iload X90.here hx rfl (hb hby d12_91) rfl z) ?_
    show OG p e below Φ T90 m 93 #[.val (.double xc), .second, rv hd, rv fl, rv a, rv mi, rv b2, rv b15, iv 0, .val (.double (FP.l2d ((0 : Int64) + (own_mx ((u0 - v0) - m0))))), .second, iv 1] [(.int 1), (.ref b15), (.double (FP.l2d ((0 : Int64) + (own_mx ((u0 - v0) - m0)))))]
    obtain ⟨cl138, Aq138, -, S138, M138, H138, -⟩ := id V90
    have in138 : ¬ ((1 : Int32) < 0 ∨ cl138.slots.size ≤ (1 : Int32).toNatClampNeg) := inb_of S138 ⟨by decide, by decide⟩
    have at138 : cl138.slots[(1 : Int32).toNatClampNeg]? = some (.double (FP.l2d ((u1 - v1) - m1))) := H138.at in138 rfl
    refine os (fun _ z => X90.daload hx (by rw [e90]; exact Aq138.1) (oia hZ Aq138.2.1) Aq138.2.2 in138 at138 (g := (mkF m 93 #[.val (.double xc), .second, rv hd, rv fl, rv a, rv mi, rv b2, rv b15, iv 0, .val (.double (FP.l2d ((0 : Int64) + (own_mx ((u0 - v0) - m0))))), .second, iv 1] [(.int 1), (.ref b15), (.double (FP.l2d ((0 : Int64) + (own_mx ((u0 - v0) - m0)))))])) rfl rfl (hb hby d12_93) _ z) ?_
    show OG p e below Φ T90 m 94 #[.val (.double xc), .second, rv hd, rv fl, rv a, rv mi, rv b2, rv b15, iv 0, .val (.double (FP.l2d ((0 : Int64) + (own_mx ((u0 - v0) - m0))))), .second, iv 1] [(.double (FP.l2d ((u1 - v1) - m1))), (.double (FP.l2d ((0 : Int64) + (own_mx ((u0 - v0) - m0)))))]
    refine os (fun _ z => XS.dnegS X90.here hx rfl (hb hby d12_94) rfl rfl z) ?_
    show OG p e below Φ T90 m 95 #[.val (.double xc), .second, rv hd, rv fl, rv a, rv mi, rv b2, rv b15, iv 0, .val (.double (FP.l2d ((0 : Int64) + (own_mx ((u0 - v0) - m0))))), .second, iv 1] [(.double (FP.dneg (FP.l2d ((u1 - v1) - m1)))), (.double (FP.l2d ((0 : Int64) + (own_mx ((u0 - v0) - m0)))))]
    refine os (fun _ z => XS.dconst0 X90.here hx rfl (v := FP.l2d (0 : Int64)) (hb hby d12_95) own_d0 z) ?_
    show OG p e below Φ T90 m 96 #[.val (.double xc), .second, rv hd, rv fl, rv a, rv mi, rv b2, rv b15, iv 0, .val (.double (FP.l2d ((0 : Int64) + (own_mx ((u0 - v0) - m0))))), .second, iv 1] [(.double (FP.l2d (0 : Int64))), (.double (FP.dneg (FP.l2d ((u1 - v1) - m1)))), (.double (FP.l2d ((0 : Int64) + (own_mx ((u0 - v0) - m0)))))]
    obtain ⟨T139, X139, e139, st139⟩ := natS X90 hx hZ hown (ow118 hw) (ow119 hw) (ow79 hw) (ow120 hw) (by decide) e90 (W := 2) (F := fun a' => a' = #[(.double (FP.dneg (FP.l2d ((u1 - v1) - m1)))), (.double (FP.l2d (0 : Int64)))] ∧ Jvm.Free.Fl.NoNaN64 (FP.dneg (FP.l2d ((u1 - v1) - m1))) ∧ Jvm.Free.Fl.NoNaN64 (FP.l2d (0 : Int64))) (val := .double (Native.java_lang_Math.nans.pick64 true (FP.dneg (FP.l2d ((u1 - v1) - m1))) (FP.l2d (0 : Int64)))) (val' := .double (FP.l2d (own_mx ((u1 - v1) - m1)))) (fun c4 => Jvm.Free.Fl.Abs.maxD_pays (FP.dneg (FP.l2d ((u1 - v1) - m1))) (FP.l2d (0 : Int64)) c4 (by decide) (by decide)) (g := (mkF m 96 #[.val (.double xc), .second, rv hd, rv fl, rv a, rv mi, rv b2, rv b15, iv 0, .val (.double (FP.l2d ((0 : Int64) + (own_mx ((u0 - v0) - m0))))), .second, iv 1] [(.double (FP.l2d (0 : Int64))), (.double (FP.dneg (FP.l2d ((u1 - v1) - m1)))), (.double (FP.l2d ((0 : Int64) + (own_mx ((u0 - v0) - m0)))))])) rfl (by rw [hml]; rfl) (argsL := [(.double (FP.dneg (FP.l2d ((u1 - v1) - m1)))), (.double (FP.l2d (0 : Int64)))]) (rest := [(.double (FP.l2d ((0 : Int64) + (own_mx ((u0 - v0) - m0)))))]) (lenOf pd8 rfl) rfl (by show 2 * 0 + _ ≤ _; exact Nat.le_of_eq rfl) (hb hby d12_96) (by decide) (by decide) ⟨rfl, own_nnN _, nn_w rfl⟩ (congrArg Value.double (own_pick B89 (by decide)))
    have B139 : own_Bd 2997 (own_mx ((u1 - v1) - m1)) := own_bdX B89 (by decide)
    refine os st139 ?_
    show OG p e below Φ T139 m 99 #[.val (.double xc), .second, rv hd, rv fl, rv a, rv mi, rv b2, rv b15, iv 0, .val (.double (FP.l2d ((0 : Int64) + (own_mx ((u0 - v0) - m0))))), .second, iv 1] [(.double (FP.l2d (own_mx ((u1 - v1) - m1)))), (.double (FP.l2d ((0 : Int64) + (own_mx ((u0 - v0) - m0)))))]
    have B140 : own_Bd 5994 (((0 : Int64) + (own_mx ((u0 - v0) - m0))) + (own_mx ((u1 - v1) - m1))) := own_bdA B67 B139 (by decide)
    refine os (fun _ z => XS.daddS X139.here hx rfl (hb hby d12_99) rfl (nn_w (dadd_w (B67.b (by decide)) (B139.b (by decide)))) (dadd_w (B67.b (by decide)) (B139.b (by decide))) z) ?_
    show OG p e below Φ T139 m 100 #[.val (.double xc), .second, rv hd, rv fl, rv a, rv mi, rv b2, rv b15, iv 0, .val (.double (FP.l2d ((0 : Int64) + (own_mx ((u0 - v0) - m0))))), .second, iv 1] [(.double (FP.l2d (((0 : Int64) + (own_mx ((u0 - v0) - m0))) + (own_mx ((u1 - v1) - m1)))))]
    refine os (fun _ z => XS.dstore X139.here hx rfl (hb hby d12_100) rfl (l' := #[.val (.double xc), .second, rv hd, rv fl, rv a, rv mi, rv b2, rv b15, iv 0, .val (.double (FP.l2d (((0 : Int64) + (own_mx ((u0 - v0) - m0))) + (own_mx ((u1 - v1) - m1))))), .second, iv 1]) rfl z) ?_
    show OG p e below Φ T139 m 102 #[.val (.double xc), .second, rv hd, rv fl, rv a, rv mi, rv b2, rv b15, iv 0, .val (.double (FP.l2d (((0 : Int64) + (own_mx ((u0 - v0) - m0))) + (own_mx ((u1 - v1) - m1))))), .second, iv 1] []
    refine os (fun _ z => XS.iinc X139.here hx rfl (hb hby d12_102) rfl (l' := #[.val (.double xc), .second, rv hd, rv fl, rv a, rv mi, rv b2, rv b15, iv 0, .val (.double (FP.l2d (((0 : Int64) + (own_mx ((u0 - v0) - m0))) + (own_mx ((u1 - v1) - m1))))), .second, iv ((1 : Int32) + (1 : Int32))]) rfl z) ?_
    show OG p e below Φ T139 m 105 #[.val (.double xc), .second, rv hd, rv fl, rv a, rv mi, rv b2, rv b15, iv 0, .val (.double (FP.l2d (((0 : Int64) + (own_mx ((u0 - v0) - m0))) + (own_mx ((u1 - v1) - m1))))), .second, iv 2] []
    refine os (fun _ z => XS.goto X139.here hx rfl (pc0 := 105) (pc' := 21) rfl (hb hby d12_105) (by decide) (by decide) z) ?_
    show OG p e below Φ T139 m 21 #[.val (.double xc), .second, rv hd, rv fl, rv a, rv mi, rv b2, rv b15, iv 0, .val (.double (FP.l2d (((0 : Int64) + (own_mx ((u0 - v0) - m0))) + (own_mx ((u1 - v1) - m1))))), .second, iv 2] []
    refine os (fun _ z => XS.iload X139.here hx rfl (hb hby d12_21) rfl z) ?_
    show OG p e below Φ T139 m 23 #[.val (.double xc), .second, rv hd, rv fl, rv a, rv mi, rv b2, rv b15, iv 0, .val (.double (FP.l2d (((0 : Int64) + (own_mx ((u0 - v0) - m0))) + (own_mx ((u1 - v1) - m1))))), .second, iv 2] [(.int 2)]
    refine os (fun _ z => XS.aloadN X139.here hx rfl (hb hby d12_23) rfl rfl z) ?_
    show OG p e below Φ T139 m 24 #[.val (.double xc), .second, rv hd, rv fl, rv a, rv mi, rv b2, rv b15, iv 0, .val (.double (FP.l2d (((0 : Int64) + (own_mx ((u0 - v0) - m0))) + (own_mx ((u1 - v1) - m1))))), .second, iv 2] [(.ref hd), (.int 2)]
    obtain ⟨cl141, Aq141, -, S141, M141, -, -⟩ := id F91
    refine os (fun _ z => X139.arraylength hx (by rw [e139]; exact Aq141.1) (oia hZ Aq141.2.1) (g := (mkF m 24 #[.val (.double xc), .second, rv hd, rv fl, rv a, rv mi, rv b2, rv b15, iv 0, .val (.double (FP.l2d (((0 : Int64) + (own_mx ((u0 - v0) - m0))) + (own_mx ((u1 - v1) - m1))))), .second, iv 2] [(.ref hd), (.int 2)])) rfl rfl (hb hby d12_24) _ z) ?_
    rw [len_of S141 M141]
    show OG p e below Φ T139 m 25 #[.val (.double xc), .second, rv hd, rv fl, rv a, rv mi, rv b2, rv b15, iv 0, .val (.double (FP.l2d (((0 : Int64) + (own_mx ((u0 - v0) - m0))) + (own_mx ((u1 - v1) - m1))))), .second, iv 2] [(.int 2), (.int 2)]
    refine os (fun _ z => XS.icmpYes X139.here hx rfl (pc0 := 25) (pc' := 108) rfl (hb hby d12_25) rfl (XT.ii_ge_t (by decide)) (by decide) (by decide) z) ?_
    show OG p e below Φ T139 m 108 #[.val (.double xc), .second, rv hd, rv fl, rv a, rv mi, rv b2, rv b15, iv 0, .val (.double (FP.l2d (((0 : Int64) + (own_mx ((u0 - v0) - m0))) + (own_mx ((u1 - v1) - m1))))), .second, iv 2] []
    obtain ⟨T142, h142, X142, e142, E142, A142, D142, U142, st142⟩ := newO X139 hx hZ hown (ow121 hw) (ow122 hw) (ow87 hw) e139 (g := (mkF m 108 #[.val (.double xc), .second, rv hd, rv fl, rv a, rv mi, rv b2, rv b15, iv 0, .val (.double (FP.l2d (((0 : Int64) + (own_mx ((u0 - v0) - m0))) + (own_mx ((u1 - v1) - m1))))), .second, iv 2] [])) rfl (hb hby d12_108) (by decide) (by decide)
    obtain ⟨b142, g142⟩ : ∃ z, z = h90.size := ⟨_, rfl⟩
    rw [← g142] at A142 D142 st142 U142
    have ne142_a : a ≠ b142 := by rw [g142]; exact Nat.ne_of_lt F93.lt
    have ne142_b15 : b15 ≠ b142 := by rw [g142]; exact Nat.ne_of_lt V90.lt
    have ne142_b2 : b2 ≠ b142 := by rw [g142]; exact Nat.ne_of_lt F102.lt
    have ne142_d : d ≠ b142 := by rw [g142]; exact Nat.ne_of_lt F97.lt
    have ne142_hd : hd ≠ b142 := by rw [g142]; exact Nat.ne_of_lt F91.lt
    have ne142_mi : mi ≠ b142 := by rw [g142]; exact Nat.ne_of_lt F92.lt
    have ne142_y0_ : y0_ ≠ b142 := by rw [g142]; exact Nat.ne_of_lt F98.lt
    have ne142_y1_ : y1_ ≠ b142 := by rw [g142]; exact Nat.ne_of_lt F99.lt
    have F143 := F91.ext E142
    have F144 := F92.ext E142
    have F145 := F93.ext E142
    have F146 := F94.ext E142
    have F147 := F95.ext E142
    have F148 := F96.ext E142
    have F149 := F97.ext E142
    have F150 := F98.ext E142
    have F151 := F99.ext E142
    have F152 := F100.ext E142
    have F153 := F101.ext E142
    have F154 := F102.ext E142
    have F155 := V90.ext E142
    have gb142 : n0 ≤ b142 := Nat.le_trans Zs90 (Nat.le_of_eq g142.symm)
    have K142 := K90.ext E142
    have sz142 : h0.size ≤ b142 := Nat.le_trans K90.1 (Nat.le_of_eq g142.symm)
    have Zs142 : n0 ≤ h142.size := Nat.le_trans Zs90 E142.1
    have F142_128 : Fld Z h142 b142 "com/example/hydromeme/hydromeme/Evaluation" "cost" "D" (.double 0) := D142 (Or.inr (ow128 hw)) (ty := .double) (by decide)
    have F142_130 : Fld Z h142 b142 "com/example/hydromeme/hydromeme/Evaluation" "heads" "[D" .null := D142 (Or.inr (ow130 hw)) (ty := (.array .double)) (by decide)
    have F142_132 : Fld Z h142 b142 "com/example/hydromeme/hydromeme/Evaluation" "pressures" "[D" .null := D142 (Or.inr (ow132 hw)) (ty := (.array .double)) (by decide)
    have F142_134 : Fld Z h142 b142 "com/example/hydromeme/hydromeme/Evaluation" "margins" "[D" .null := D142 (Or.inr (ow134 hw)) (ty := (.array .double)) (by decide)
    have F142_136 : Fld Z h142 b142 "com/example/hydromeme/hydromeme/Evaluation" "flows" "[D" .null := D142 (Or.inr (ow136 hw)) (ty := (.array .double)) (by decide)
    have F142_138 : Fld Z h142 b142 "com/example/hydromeme/hydromeme/Evaluation" "critical" "I" (.int (0 : Int32)) := D142 (Or.inr (ow138 hw)) (ty := .int) (by decide)
    have F142_140 : Fld Z h142 b142 "com/example/hydromeme/hydromeme/Evaluation" "deficit" "D" (.double 0) := D142 (Or.inr (ow140 hw)) (ty := .double) (by decide)
    refine os (st142) ?_
    show OG p e below Φ T142 m 111 #[.val (.double xc), .second, rv hd, rv fl, rv a, rv mi, rv b2, rv b15, iv 0, .val (.double (FP.l2d (((0 : Int64) + (own_mx ((u0 - v0) - m0))) + (own_mx ((u1 - v1) - m1))))), .second, iv 2] [(.ref b142)]
    refine os (fun _ z => XS.dup X142.here hx rfl (hb hby d12_111) rfl rfl z) ?_
    show OG p e below Φ T142 m 112 #[.val (.double xc), .second, rv hd, rv fl, rv a, rv mi, rv b2, rv b15, iv 0, .val (.double (FP.l2d (((0 : Int64) + (own_mx ((u0 - v0) - m0))) + (own_mx ((u1 - v1) - m1))))), .second, iv 2] [(.ref b142), (.ref b142)]
    refine os (fun _ z => XS.dloadN X142.here hx rfl (hb hby d12_112) rfl z) ?_
    show OG p e below Φ T142 m 113 #[.val (.double xc), .second, rv hd, rv fl, rv a, rv mi, rv b2, rv b15, iv 0, .val (.double (FP.l2d (((0 : Int64) + (own_mx ((u0 - v0) - m0))) + (own_mx ((u1 - v1) - m1))))), .second, iv 2] [(.double xc), (.ref b142), (.ref b142)]
    refine os (fun _ z => XS.aloadN X142.here hx rfl (hb hby d12_113) rfl rfl z) ?_
    show OG p e below Φ T142 m 114 #[.val (.double xc), .second, rv hd, rv fl, rv a, rv mi, rv b2, rv b15, iv 0, .val (.double (FP.l2d (((0 : Int64) + (own_mx ((u0 - v0) - m0))) + (own_mx ((u1 - v1) - m1))))), .second, iv 2] [(.ref hd), (.double xc), (.ref b142), (.ref b142)]
    refine os (fun _ z => XS.aload X142.here hx rfl (hb hby d12_114) rfl rfl z) ?_
    show OG p e below Φ T142 m 116 #[.val (.double xc), .second, rv hd, rv fl, rv a, rv mi, rv b2, rv b15, iv 0, .val (.double (FP.l2d (((0 : Int64) + (own_mx ((u0 - v0) - m0))) + (own_mx ((u1 - v1) - m1))))), .second, iv 2] [(.ref b2), (.ref hd), (.double xc), (.ref b142), (.ref b142)]
    refine os (fun _ z => XS.aload X142.here hx rfl (hb hby d12_116) rfl rfl z) ?_
    show OG p e below Φ T142 m 118 #[.val (.double xc), .second, rv hd, rv fl, rv a, rv mi, rv b2, rv b15, iv 0, .val (.double (FP.l2d (((0 : Int64) + (own_mx ((u0 - v0) - m0))) + (own_mx ((u1 - v1) - m1))))), .second, iv 2] [(.ref b15), (.ref b2), (.ref hd), (.double xc), (.ref b142), (.ref b142)]
    refine os (fun _ z => XS.aloadN X142.here hx rfl (hb hby d12_118) rfl rfl z) ?_
    show OG p e below Φ T142 m 119 #[.val (.double xc), .second, rv hd, rv fl, rv a, rv mi, rv b2, rv b15, iv 0, .val (.double (FP.l2d (((0 : Int64) + (own_mx ((u0 - v0) - m0))) + (own_mx ((u1 - v1) - m1))))), .second, iv 2] [(.ref fl), (.ref b15), (.ref b2), (.ref hd), (.double xc), (.ref b142), (.ref b142)]
    refine os (fun _ z => XS.iload X142.here hx rfl (hb hby d12_119) rfl z) ?_
    show OG p e below Φ T142 m 121 #[.val (.double xc), .second, rv hd, rv fl, rv a, rv mi, rv b2, rv b15, iv 0, .val (.double (FP.l2d (((0 : Int64) + (own_mx ((u0 - v0) - m0))) + (own_mx ((u1 - v1) - m1))))), .second, iv 2] [(.int 0), (.ref fl), (.ref b15), (.ref b2), (.ref hd), (.double xc), (.ref b142), (.ref b142)]
    refine os (fun _ z => XS.dload X142.here hx rfl (hb hby d12_121) rfl z) ?_
    show OG p e below Φ T142 m 123 #[.val (.double xc), .second, rv hd, rv fl, rv a, rv mi, rv b2, rv b15, iv 0, .val (.double (FP.l2d (((0 : Int64) + (own_mx ((u0 - v0) - m0))) + (own_mx ((u1 - v1) - m1))))), .second, iv 2] [(.double (FP.l2d (((0 : Int64) + (own_mx ((u0 - v0) - m0))) + (own_mx ((u1 - v1) - m1))))), (.int 0), (.ref fl), (.ref b15), (.ref b2), (.ref hd), (.double xc), (.ref b142), (.ref b142)]
    obtain ⟨_, T156, L156, X156, hQ156, st156⟩ := own_callSp X142 hx hZ rfl hown (ow123 hw) (ow124 hw) (ow87 hw) (ow125 hw) (by decide) (revi l Z a0 hw [] b142 xc hd b2 b15 fl (0 : Int32) (FP.l2d (((0 : Int64) + (own_mx ((u0 - v0) - m0))) + (own_mx ((u1 - v1) - m1)))) (.double 0) .null .null .null .null (.int 0) (.double 0) h142 n0 Zs142 A142 gb142 F142_128 F142_130 F142_132 F142_134 F142_136 F142_138 F142_140) e142 (W := 1) (by decide) (by decide) (by decide) (by decide) (pc := 123) (ls := #[.val (.double xc), .second, rv hd, rv fl, rv a, rv mi, rv b2, rv b15, iv 0, .val (.double (FP.l2d (((0 : Int64) + (own_mx ((u0 - v0) - m0))) + (own_mx ((u1 - v1) - m1))))), .second, iv 2]) (stk := [(.double (FP.l2d (((0 : Int64) + (own_mx ((u0 - v0) - m0))) + (own_mx ((u1 - v1) - m1))))), (.int 0), (.ref fl), (.ref b15), (.ref b2), (.ref hd), (.double xc), (.ref b142), (.ref b142)]) (by rw [hml]; rfl) (a := b142) (argsL := [(.double xc), (.ref hd), (.ref b2), (.ref b15), (.ref fl), (.int 0), (.double (FP.l2d (((0 : Int64) + (own_mx ((u0 - v0) - m0))) + (own_mx ((u1 - v1) - m1)))))]) (rest := [(.ref b142)]) (lenOf pd9 rfl) rfl rfl (Nat.le_of_eq rfl) (hb hby d12_123)
    obtain ⟨rfl, Nq156, Kq156, Eq156, Fq156_0, Fq156_1, Fq156_2, Fq156_3, Fq156_4, Fq156_5, Fq156_6⟩ := hQ156
    have N156 := Fr.app N90 Nq156
    have Zs156 : n0 ≤ T156.heap.size := Nat.le_trans Zs142 Kq156.1
    have F157 := F143.keep Kq156 (ninS ne142_hd nin0)
    have F158 := F144.keep Kq156 (ninS ne142_mi nin0)
    have F159 := F145.keep Kq156
    have F160 := F146.keep Kq156 (ninS ne142_a nin0)
    have F161 := F147.keep Kq156 (ninS ne142_a nin0)
    have F162 := F148.keep Kq156 (ninS ne142_a nin0)
    have F163 := F149.keep Kq156 (ninS ne142_d nin0)
    have F164 := F150.keep Kq156
    have F165 := F151.keep Kq156
    have F166 := F152.keep Kq156 (ninS ne142_y0_ nin0)
    have F167 := F153.keep Kq156 (ninS ne142_y1_ nin0)
    have F168 := F154.keep Kq156 (ninS ne142_b2 nin0)
    have F169 := F155.keep Kq156 (ninS ne142_b15 nin0)
    have K156 := K142.trans Kq156 (allS (Or.inr sz142) all0)
    refine os st156 ?_
    show OG p e below Φ T156 m 126 #[.val (.double xc), .second, rv hd, rv fl, rv a, rv mi, rv b2, rv b15, iv 0, .val (.double (FP.l2d (((0 : Int64) + (own_mx ((u0 - v0) - m0))) + (own_mx ((u1 - v1) - m1))))), .second, iv 2] [(.ref b142)]
    refine OGo.fin X156 hlk (v := (some (.ref b142))) (fun h => by rw [hret] at h; cases h) (by decide) (by decide) (fun fs hr => X156.areturnOut hx rfl hret rfl (hb hby d12_126) hr) fun U eU hF => hΦ _ _ _ ?_ hF
    rw [eU]
    show Q_rof Z xc hd ch fl a mc d cd y0_ y1_ mi cm u0 u1 v0 v1 m0 m1 h0 n0 _ _ _
    exact ⟨_, rfl, N156, K156, Eq156, Fq156_6, B140, sz142⟩

theorem d20_0 : decode prog_9_method_4_code 0 = .ok (.aload_n 0, 1) := by decide +kernel
theorem d20_1 : decode prog_9_method_4_code 1 = .ok (.getfield 30, 3) := by decide +kernel
theorem d20_4 : decode prog_9_method_4_code 4 = .ok (.dconst 0, 1) := by decide +kernel
theorem d20_5 : decode prog_9_method_4_code 5 = .ok (.dcmp .l, 1) := by decide +kernel
theorem d20_6 : decode prog_9_method_4_code 6 = .ok (.ifCond .ne 7, 3) := by decide +kernel
theorem d20_9 : decode prog_9_method_4_code 9 = .ok (.iconst 1, 1) := by decide +kernel
theorem d20_10 : decode prog_9_method_4_code 10 = .ok (.goto 4, 3) := by decide +kernel
theorem d20_14 : decode prog_9_method_4_code 14 = .ok (.ireturn, 1) := by decide +kernel
theorem d20_13 : decode prog_9_method_4_code 13 = .ok (.iconst 0, 1) := by decide +kernel
theorem ef_rfe (m : MethodId) (x0 : Addr) : entryFrame m #[(.ref x0)] 1 = mkF m 0 #[.val (.ref x0)] [] := by first | (simp [entryFrame, mkF, argsToLocals, Value.category]; done) | rfl
def Q_rfe (Z : State) (a : Addr) (xd : Int64) (h0 : Heap) (n0 : Nat) (v : Option Value) (h : Heap) (L : List Loc) : Prop := v = some (.int (own_f xd)) ∧ Fr n0 L ∧ h = h0
set_option maxRecDepth 65536 in
set_option maxHeartbeats 40000000 in
theorem rfe (l : Launch) (Z : State) (a0 : Array Value) (hw : ∀ d ∈ tables_1, d.before a0 Z = true) (ws : List Jvm.Cond) (a : Addr) (xd : Int64) (h0 : Heap) (n0 : Nat) (Z0 : n0 ≤ h0.size) (F_d : Fld Z h0 a "com/example/hydromeme/hydromeme/Evaluation" "deficit" "D" (.double (FP.l2d xd))) (b_d : own_Bd 5994 xd) :
    OCon l Z (⟨"com/example/hydromeme/hydromeme/Evaluation", "feasible", "()Z"⟩ : MethodName) prog_9_method_4_code 1 (some .boolean) ws ({ frames := 0, cells := 0, slots := 0, locals := 0 } : Room) #[(.ref a)] h0 (Q_rfe Z a xd h0 n0) := by
  refine OCon.of (plainFor_of_name pn7) ?_
  intro p e s m below meth c s₁ Φ X0 hx hby hml hown hnm hret hlk hZ e0 hΦ
  have N0 := Fr.nil n0
  refine os (fun _ z => castTop (ef_rfe m a) z) ?_
  show OG p e below Φ s₁ m 0 #[rv a] []
  refine os (fun _ z => XS.aloadN X0.here hx rfl (hb hby d20_0) rfl rfl z) ?_
  show OG p e below Φ s₁ m 1 #[rv a] [(.ref a)]
  obtain ⟨T1, X1, e1, st1⟩ := getF X0 hx hZ hown (host := "") (Or.inl (ow139 hw)) Via.refl e0 F_d (g := (mkF m 1 #[rv a] [(.ref a)])) rfl rfl (hb hby d20_1)
  refine os st1 ?_
  show OG p e below Φ T1 m 4 #[rv a] [(.double (FP.l2d xd))]
  refine os (fun _ z => XS.dconst0 X1.here hx rfl (v := FP.l2d (0 : Int64)) (hb hby d20_4) own_d0 z) ?_
  show OG p e below Φ T1 m 5 #[rv a] [(.double (FP.l2d (0 : Int64))), (.double (FP.l2d xd))]
  refine os (fun _ z => XS.dcmpS X1.here hx rfl (hb hby d20_5) rfl (own_dc (b_d.b (by decide)) (own_bd0.b (by decide)) .l) z) ?_
  show OG p e below Φ T1 m 6 #[rv a] [(.int (XT.cmpL xd (0 : Int64)))]
  by_cases hc2 : xd = (0 : Int64)
  · refine os (fun _ z => XS.ifNo X1.here hx rfl (hb hby d20_6) rfl (XT.ll_ne_f hc2) z) ?_
    show OG p e below Φ T1 m 9 #[rv a] []
    refine os (fun _ z => XS.iconst X1.here hx rfl (hb hby d20_9) z) ?_
    show OG p e below Φ T1 m 10 #[rv a] [(.int 1)]
    refine os (fun _ z => XS.goto X1.here hx rfl (pc0 := 10) (pc' := 14) rfl (hb hby d20_10) (by decide) (by decide) z) ?_
    show OG p e below Φ T1 m 14 #[rv a] [(.int 1)]
    refine OGo.fin X1 hlk (v := (some (.int 1))) (fun h => by rw [hret] at h; cases h) (by decide) (by decide) (fun fs hr => X1.ireturnOut hx hret rfl (by simp) (hb hby d20_14) hr) fun U eU hF => hΦ _ _ _ ?_ hF
    rw [eU, e1]
    show Q_rfe Z a xd h0 n0 _ _ _
    exact ⟨by simp [own_f, hc2], N0, rfl⟩
  · refine os (fun _ z => XS.ifYes X1.here hx rfl (pc0 := 6) (pc' := 13) rfl (hb hby d20_6) rfl (XT.ll_ne_t hc2) (by decide) (by decide) z) ?_
    show OG p e below Φ T1 m 13 #[rv a] []
    refine os (fun _ z => XS.iconst X1.here hx rfl (hb hby d20_13) z) ?_
    show OG p e below Φ T1 m 14 #[rv a] [(.int 0)]
    refine OGo.fin X1 hlk (v := (some (.int 0))) (fun h => by rw [hret] at h; cases h) (by decide) (by decide) (fun fs hr => X1.ireturnOut hx hret rfl (by simp) (hb hby d20_14) hr) fun U eU hF => hΦ _ _ _ ?_ hF
    rw [eU, e1]
    show Q_rfe Z a xd h0 n0 _ _ _
    exact ⟨by simp [own_f, hc2], N0, rfl⟩

theorem pn8 : plainName "com/example/hydromeme/hydromeme/EvaluationFeasiblePinLaw" = true := by first | (simp [plainName, overriddenIn]; done) | decide +kernel
theorem pd10 : parseMethodDescriptor "(Ljava/lang/String;DD)V" = some ⟨[(.object "java/lang/String"), .double, .double], none⟩ := by decide +kernel
theorem pd11 : parseMethodDescriptor "(Ljava/lang/Object;)Z" = some ⟨[(.object "java/lang/Object")], some .boolean⟩ := by decide +kernel
theorem pd12 : parseMethodDescriptor "(D[D[DLjava/util/List;[D)Lcom/example/hydromeme/hydromeme/Evaluation;" = some ⟨[.double, (.array .double), (.array .double), (.object "java/util/List"), (.array .double)], some (.object "com/example/hydromeme/hydromeme/Evaluation")⟩ := by decide +kernel
theorem pd13 : parseMethodDescriptor "()Z" = some ⟨[], some .boolean⟩ := by decide +kernel
theorem ef_rm0 (m : MethodId) (x0 : Int32) (x1 : Int32) (x2 : Int32) (x3 : Int32) (x4 : Int32) (x5 : Int32) : entryFrame m #[(.int x0), (.int x1), (.int x2), (.int x3), (.int x4), (.int x5)] maxLocals = mkF m 0 #[.val (.int x0), .val (.int x1), .val (.int x2), .val (.int x3), .val (.int x4), .val (.int x5), .unset, .unset, .unset, .unset, .unset, .unset, .unset, .unset, .unset, .unset, .unset, .unset, .unset, .unset] [] := by first | (simp [entryFrame, mkF, argsToLocals, Value.category, maxLocals]; done) | rfl
def Q_rm0 (Z : State) (x0_ : Int32) (x1_ : Int32) (x2_ : Int32) (x3_ : Int32) (x4_ : Int32) (x5_ : Int32) (dz : Addr) (cz : ClassId) (h0 : Heap) (n0 : Nat) (v : Option Value) (h : Heap) (L : List Loc) : Prop := v = some (.int (1 : Int32)) ∧ Fr n0 L
set_option maxRecDepth 65536 in
set_option maxHeartbeats 40000000 in
theorem rm0 (l : Launch) (Z : State) (a0 : Array Value) (hw : ∀ d ∈ tables_1, d.before a0 Z = true) (ws : List Jvm.Cond) (x0_ : Int32) (x1_ : Int32) (x2_ : Int32) (x3_ : Int32) (x4_ : Int32) (x5_ : Int32) (dz : Addr) (cz : ClassId) (h0 : Heap) (n0 : Nat) (Z0 : n0 ≤ h0.size) (O_0 : Old Z n0 h0) (S_d : Sta Z Z.heap "java/util/ArrayList" "DEFAULTCAPACITY_EMPTY_ELEMENTDATA" "[Ljava/lang/Object;" (.ref dz)) (V_z : Arv Z h0 dz cz (.object "java/lang/Object") (0 : Int32) [] .null) :
    OConW l Z own_EL x code maxLocals ret ws room_1 #[(.int x0_), (.int x1_), (.int x2_), (.int x3_), (.int x4_), (.int x5_)] h0 [] (Q_rm0 Z x0_ x1_ x2_ x3_ x4_ x5_ dz cz h0 n0) := by
  refine OConW.of (plainFor_of_name pn8) ?_
  intro p e s m below meth c s₁ Φ X0 hx hby hml hown hnm hret hlk hZ e0 hS hkk hC hsf hΦ
  have N0 := Fr.nil n0
  refine os (fun _ z => castTop (ef_rm0 m x0_ x1_ x2_ x3_ x4_ x5_) z) ?_
  show OG p e below Φ s₁ m 0 #[iv x0_, iv x1_, iv x2_, iv x3_, iv x4_, iv x5_, .unset, .unset, .unset, .unset, .unset, .unset, .unset, .unset, .unset, .unset, .unset, .unset, .unset, .unset] []
  refine os (fun _ z => XS.iloadN X0.here hx rfl (hb hby at_0) rfl z) ?_
  show OG p e below Φ s₁ m 1 #[iv x0_, iv x1_, iv x2_, iv x3_, iv x4_, iv x5_, .unset, .unset, .unset, .unset, .unset, .unset, .unset, .unset, .unset, .unset, .unset, .unset, .unset, .unset] [(.int x0_)]
  refine os (fun _ z => XS.sipush X0.here hx rfl (hb hby at_1) z) ?_
  show OG p e below Φ s₁ m 4 #[iv x0_, iv x1_, iv x2_, iv x3_, iv x4_, iv x5_, .unset, .unset, .unset, .unset, .unset, .unset, .unset, .unset, .unset, .unset, .unset, .unset, .unset, .unset] [(.int 1000), (.int x0_)]
  refine os (fun _ z => iremM X0 hx rfl (hb hby at_4) rfl (by decide) z) ?_
  show OG p e below Φ s₁ m 5 #[iv x0_, iv x1_, iv x2_, iv x3_, iv x4_, iv x5_, .unset, .unset, .unset, .unset, .unset, .unset, .unset, .unset, .unset, .unset, .unset, .unset, .unset, .unset] [(.int (x0_ % (1000 : Int32)))]
  refine os (fun _ z => XS.istore X0.here hx rfl (hb hby at_5) rfl (l' := #[iv x0_, iv x1_, iv x2_, iv x3_, iv x4_, iv x5_, iv (x0_ % (1000 : Int32)), .unset, .unset, .unset, .unset, .unset, .unset, .unset, .unset, .unset, .unset, .unset, .unset, .unset]) rfl z) ?_
  show OG p e below Φ s₁ m 7 #[iv x0_, iv x1_, iv x2_, iv x3_, iv x4_, iv x5_, iv (x0_ % (1000 : Int32)), .unset, .unset, .unset, .unset, .unset, .unset, .unset, .unset, .unset, .unset, .unset, .unset, .unset] []
  refine os (fun _ z => XS.iloadN X0.here hx rfl (hb hby at_7) rfl z) ?_
  show OG p e below Φ s₁ m 8 #[iv x0_, iv x1_, iv x2_, iv x3_, iv x4_, iv x5_, iv (x0_ % (1000 : Int32)), .unset, .unset, .unset, .unset, .unset, .unset, .unset, .unset, .unset, .unset, .unset, .unset, .unset] [(.int x1_)]
  refine os (fun _ z => XS.sipush X0.here hx rfl (hb hby at_8) z) ?_
  show OG p e below Φ s₁ m 11 #[iv x0_, iv x1_, iv x2_, iv x3_, iv x4_, iv x5_, iv (x0_ % (1000 : Int32)), .unset, .unset, .unset, .unset, .unset, .unset, .unset, .unset, .unset, .unset, .unset, .unset, .unset] [(.int 1000), (.int x1_)]
  refine os (fun _ z => iremM X0 hx rfl (hb hby at_11) rfl (by decide) z) ?_
  show OG p e below Φ s₁ m 12 #[iv x0_, iv x1_, iv x2_, iv x3_, iv x4_, iv x5_, iv (x0_ % (1000 : Int32)), .unset, .unset, .unset, .unset, .unset, .unset, .unset, .unset, .unset, .unset, .unset, .unset, .unset] [(.int (x1_ % (1000 : Int32)))]
  refine os (fun _ z => XS.istore X0.here hx rfl (hb hby at_12) rfl (l' := #[iv x0_, iv x1_, iv x2_, iv x3_, iv x4_, iv x5_, iv (x0_ % (1000 : Int32)), iv (x1_ % (1000 : Int32)), .unset, .unset, .unset, .unset, .unset, .unset, .unset, .unset, .unset, .unset, .unset, .unset]) rfl z) ?_
  show OG p e below Φ s₁ m 14 #[iv x0_, iv x1_, iv x2_, iv x3_, iv x4_, iv x5_, iv (x0_ % (1000 : Int32)), iv (x1_ % (1000 : Int32)), .unset, .unset, .unset, .unset, .unset, .unset, .unset, .unset, .unset, .unset, .unset, .unset] []
  refine os (fun _ z => XS.iloadN X0.here hx rfl (hb hby at_14) rfl z) ?_
  show OG p e below Φ s₁ m 15 #[iv x0_, iv x1_, iv x2_, iv x3_, iv x4_, iv x5_, iv (x0_ % (1000 : Int32)), iv (x1_ % (1000 : Int32)), .unset, .unset, .unset, .unset, .unset, .unset, .unset, .unset, .unset, .unset, .unset, .unset] [(.int x2_)]
  refine os (fun _ z => XS.sipush X0.here hx rfl (hb hby at_15) z) ?_
  show OG p e below Φ s₁ m 18 #[iv x0_, iv x1_, iv x2_, iv x3_, iv x4_, iv x5_, iv (x0_ % (1000 : Int32)), iv (x1_ % (1000 : Int32)), .unset, .unset, .unset, .unset, .unset, .unset, .unset, .unset, .unset, .unset, .unset, .unset] [(.int 1000), (.int x2_)]
  refine os (fun _ z => iremM X0 hx rfl (hb hby at_18) rfl (by decide) z) ?_
  show OG p e below Φ s₁ m 19 #[iv x0_, iv x1_, iv x2_, iv x3_, iv x4_, iv x5_, iv (x0_ % (1000 : Int32)), iv (x1_ % (1000 : Int32)), .unset, .unset, .unset, .unset, .unset, .unset, .unset, .unset, .unset, .unset, .unset, .unset] [(.int (x2_ % (1000 : Int32)))]
  refine os (fun _ z => XS.istore X0.here hx rfl (hb hby at_19) rfl (l' := #[iv x0_, iv x1_, iv x2_, iv x3_, iv x4_, iv x5_, iv (x0_ % (1000 : Int32)), iv (x1_ % (1000 : Int32)), iv (x2_ % (1000 : Int32)), .unset, .unset, .unset, .unset, .unset, .unset, .unset, .unset, .unset, .unset, .unset]) rfl z) ?_
  show OG p e below Φ s₁ m 21 #[iv x0_, iv x1_, iv x2_, iv x3_, iv x4_, iv x5_, iv (x0_ % (1000 : Int32)), iv (x1_ % (1000 : Int32)), iv (x2_ % (1000 : Int32)), .unset, .unset, .unset, .unset, .unset, .unset, .unset, .unset, .unset, .unset, .unset] []
  refine os (fun _ z => XS.iloadN X0.here hx rfl (hb hby at_21) rfl z) ?_
  show OG p e below Φ s₁ m 22 #[iv x0_, iv x1_, iv x2_, iv x3_, iv x4_, iv x5_, iv (x0_ % (1000 : Int32)), iv (x1_ % (1000 : Int32)), iv (x2_ % (1000 : Int32)), .unset, .unset, .unset, .unset, .unset, .unset, .unset, .unset, .unset, .unset, .unset] [(.int x3_)]
  refine os (fun _ z => XS.sipush X0.here hx rfl (hb hby at_22) z) ?_
  show OG p e below Φ s₁ m 25 #[iv x0_, iv x1_, iv x2_, iv x3_, iv x4_, iv x5_, iv (x0_ % (1000 : Int32)), iv (x1_ % (1000 : Int32)), iv (x2_ % (1000 : Int32)), .unset, .unset, .unset, .unset, .unset, .unset, .unset, .unset, .unset, .unset, .unset] [(.int 1000), (.int x3_)]
  refine os (fun _ z => iremM X0 hx rfl (hb hby at_25) rfl (by decide) z) ?_
  show OG p e below Φ s₁ m 26 #[iv x0_, iv x1_, iv x2_, iv x3_, iv x4_, iv x5_, iv (x0_ % (1000 : Int32)), iv (x1_ % (1000 : Int32)), iv (x2_ % (1000 : Int32)), .unset, .unset, .unset, .unset, .unset, .unset, .unset, .unset, .unset, .unset, .unset] [(.int (x3_ % (1000 : Int32)))]
  refine os (fun _ z => XS.istore X0.here hx rfl (hb hby at_26) rfl (l' := #[iv x0_, iv x1_, iv x2_, iv x3_, iv x4_, iv x5_, iv (x0_ % (1000 : Int32)), iv (x1_ % (1000 : Int32)), iv (x2_ % (1000 : Int32)), iv (x3_ % (1000 : Int32)), .unset, .unset, .unset, .unset, .unset, .unset, .unset, .unset, .unset, .unset]) rfl z) ?_
  show OG p e below Φ s₁ m 28 #[iv x0_, iv x1_, iv x2_, iv x3_, iv x4_, iv x5_, iv (x0_ % (1000 : Int32)), iv (x1_ % (1000 : Int32)), iv (x2_ % (1000 : Int32)), iv (x3_ % (1000 : Int32)), .unset, .unset, .unset, .unset, .unset, .unset, .unset, .unset, .unset, .unset] []
  refine os (fun _ z => XS.iload X0.here hx rfl (hb hby at_28) rfl z) ?_
  show OG p e below Φ s₁ m 30 #[iv x0_, iv x1_, iv x2_, iv x3_, iv x4_, iv x5_, iv (x0_ % (1000 : Int32)), iv (x1_ % (1000 : Int32)), iv (x2_ % (1000 : Int32)), iv (x3_ % (1000 : Int32)), .unset, .unset, .unset, .unset, .unset, .unset, .unset, .unset, .unset, .unset] [(.int x4_)]
  refine os (fun _ z => XS.sipush X0.here hx rfl (hb hby at_30) z) ?_
  show OG p e below Φ s₁ m 33 #[iv x0_, iv x1_, iv x2_, iv x3_, iv x4_, iv x5_, iv (x0_ % (1000 : Int32)), iv (x1_ % (1000 : Int32)), iv (x2_ % (1000 : Int32)), iv (x3_ % (1000 : Int32)), .unset, .unset, .unset, .unset, .unset, .unset, .unset, .unset, .unset, .unset] [(.int 1000), (.int x4_)]
  refine os (fun _ z => iremM X0 hx rfl (hb hby at_33) rfl (by decide) z) ?_
  show OG p e below Φ s₁ m 34 #[iv x0_, iv x1_, iv x2_, iv x3_, iv x4_, iv x5_, iv (x0_ % (1000 : Int32)), iv (x1_ % (1000 : Int32)), iv (x2_ % (1000 : Int32)), iv (x3_ % (1000 : Int32)), .unset, .unset, .unset, .unset, .unset, .unset, .unset, .unset, .unset, .unset] [(.int (x4_ % (1000 : Int32)))]
  refine os (fun _ z => XS.istore X0.here hx rfl (hb hby at_34) rfl (l' := #[iv x0_, iv x1_, iv x2_, iv x3_, iv x4_, iv x5_, iv (x0_ % (1000 : Int32)), iv (x1_ % (1000 : Int32)), iv (x2_ % (1000 : Int32)), iv (x3_ % (1000 : Int32)), iv (x4_ % (1000 : Int32)), .unset, .unset, .unset, .unset, .unset, .unset, .unset, .unset, .unset]) rfl z) ?_
  show OG p e below Φ s₁ m 36 #[iv x0_, iv x1_, iv x2_, iv x3_, iv x4_, iv x5_, iv (x0_ % (1000 : Int32)), iv (x1_ % (1000 : Int32)), iv (x2_ % (1000 : Int32)), iv (x3_ % (1000 : Int32)), iv (x4_ % (1000 : Int32)), .unset, .unset, .unset, .unset, .unset, .unset, .unset, .unset, .unset] []
  refine os (fun _ z => XS.iload X0.here hx rfl (hb hby at_36) rfl z) ?_
  show OG p e below Φ s₁ m 38 #[iv x0_, iv x1_, iv x2_, iv x3_, iv x4_, iv x5_, iv (x0_ % (1000 : Int32)), iv (x1_ % (1000 : Int32)), iv (x2_ % (1000 : Int32)), iv (x3_ % (1000 : Int32)), iv (x4_ % (1000 : Int32)), .unset, .unset, .unset, .unset, .unset, .unset, .unset, .unset, .unset] [(.int x5_)]
  refine os (fun _ z => XS.sipush X0.here hx rfl (hb hby at_38) z) ?_
  show OG p e below Φ s₁ m 41 #[iv x0_, iv x1_, iv x2_, iv x3_, iv x4_, iv x5_, iv (x0_ % (1000 : Int32)), iv (x1_ % (1000 : Int32)), iv (x2_ % (1000 : Int32)), iv (x3_ % (1000 : Int32)), iv (x4_ % (1000 : Int32)), .unset, .unset, .unset, .unset, .unset, .unset, .unset, .unset, .unset] [(.int 1000), (.int x5_)]
  refine os (fun _ z => iremM X0 hx rfl (hb hby at_41) rfl (by decide) z) ?_
  show OG p e below Φ s₁ m 42 #[iv x0_, iv x1_, iv x2_, iv x3_, iv x4_, iv x5_, iv (x0_ % (1000 : Int32)), iv (x1_ % (1000 : Int32)), iv (x2_ % (1000 : Int32)), iv (x3_ % (1000 : Int32)), iv (x4_ % (1000 : Int32)), .unset, .unset, .unset, .unset, .unset, .unset, .unset, .unset, .unset] [(.int (x5_ % (1000 : Int32)))]
  refine os (fun _ z => XS.istore X0.here hx rfl (hb hby at_42) rfl (l' := #[iv x0_, iv x1_, iv x2_, iv x3_, iv x4_, iv x5_, iv (x0_ % (1000 : Int32)), iv (x1_ % (1000 : Int32)), iv (x2_ % (1000 : Int32)), iv (x3_ % (1000 : Int32)), iv (x4_ % (1000 : Int32)), iv (x5_ % (1000 : Int32)), .unset, .unset, .unset, .unset, .unset, .unset, .unset, .unset]) rfl z) ?_
  show OG p e below Φ s₁ m 44 #[iv x0_, iv x1_, iv x2_, iv x3_, iv x4_, iv x5_, iv (x0_ % (1000 : Int32)), iv (x1_ % (1000 : Int32)), iv (x2_ % (1000 : Int32)), iv (x3_ % (1000 : Int32)), iv (x4_ % (1000 : Int32)), iv (x5_ % (1000 : Int32)), .unset, .unset, .unset, .unset, .unset, .unset, .unset, .unset] []
  refine os (fun _ z => XS.iconst X0.here hx rfl (hb hby at_44) z) ?_
  show OG p e below Φ s₁ m 45 #[iv x0_, iv x1_, iv x2_, iv x3_, iv x4_, iv x5_, iv (x0_ % (1000 : Int32)), iv (x1_ % (1000 : Int32)), iv (x2_ % (1000 : Int32)), iv (x3_ % (1000 : Int32)), iv (x4_ % (1000 : Int32)), iv (x5_ % (1000 : Int32)), .unset, .unset, .unset, .unset, .unset, .unset, .unset, .unset] [(.int 2)]
  obtain ⟨T1, h1, c1, X1, e1, E1, Ar1, st1⟩ := newP (aty := .double) X0 hx hZ (ow0 hw) e0 (g := (mkF m 45 #[iv x0_, iv x1_, iv x2_, iv x3_, iv x4_, iv x5_, iv (x0_ % (1000 : Int32)), iv (x1_ % (1000 : Int32)), iv (x2_ % (1000 : Int32)), iv (x3_ % (1000 : Int32)), iv (x4_ % (1000 : Int32)), iv (x5_ % (1000 : Int32)), .unset, .unset, .unset, .unset, .unset, .unset, .unset, .unset] [(.int 2)])) rfl (hb hby at_45) rfl (by decide) (cap := 2) (by decide) (by decide) (by decide) (by decide)
  obtain ⟨b1, g1⟩ : ∃ z, z = h0.size := ⟨_, rfl⟩
  rw [← g1] at Ar1 st1
  have ne1_dz : dz ≠ b1 := by rw [g1]; exact Nat.ne_of_lt V_z.lt
  have F2 := O_0.ext E1
  have F3 := V_z.ext E1
  have gb1 : n0 ≤ b1 := Nat.le_trans Z0 (Nat.le_of_eq g1.symm)
  have Zs1 : n0 ≤ h1.size := Nat.le_trans Z0 E1.1
  have hA4 := CHr.ext E1 hC.1
  have sf_b1 := Safe.ext E1 hC.1 (Safe.new (Nat.le_of_eq g1.symm))
  have hkk := Nat.le_trans hkk hA4.2.1
  have hC := hC.trans hA4
  have V1 : Arv Z h1 b1 c1 .double (2 : Int32) [(.double (FP.l2d (0 : Int64))), (.double (FP.l2d (0 : Int64)))] (.double (FP.l2d (0 : Int64))) := (Arv.newD Ar1 (by decide)).pad (pad_rep [] _ 2)
  refine os st1 ?_
  show OG p e below Φ T1 m 47 #[iv x0_, iv x1_, iv x2_, iv x3_, iv x4_, iv x5_, iv (x0_ % (1000 : Int32)), iv (x1_ % (1000 : Int32)), iv (x2_ % (1000 : Int32)), iv (x3_ % (1000 : Int32)), iv (x4_ % (1000 : Int32)), iv (x5_ % (1000 : Int32)), .unset, .unset, .unset, .unset, .unset, .unset, .unset, .unset] [(.ref b1)]
  refine os (fun _ z => XS.dup X1.here hx rfl (hb hby at_47) rfl rfl z) ?_
  show OG p e below Φ T1 m 48 #[iv x0_, iv x1_, iv x2_, iv x3_, iv x4_, iv x5_, iv (x0_ % (1000 : Int32)), iv (x1_ % (1000 : Int32)), iv (x2_ % (1000 : Int32)), iv (x3_ % (1000 : Int32)), iv (x4_ % (1000 : Int32)), iv (x5_ % (1000 : Int32)), .unset, .unset, .unset, .unset, .unset, .unset, .unset, .unset] [(.ref b1), (.ref b1)]
  refine os (fun _ z => XS.iconst X1.here hx rfl (hb hby at_48) z) ?_
  show OG p e below Φ T1 m 49 #[iv x0_, iv x1_, iv x2_, iv x3_, iv x4_, iv x5_, iv (x0_ % (1000 : Int32)), iv (x1_ % (1000 : Int32)), iv (x2_ % (1000 : Int32)), iv (x3_ % (1000 : Int32)), iv (x4_ % (1000 : Int32)), iv (x5_ % (1000 : Int32)), .unset, .unset, .unset, .unset, .unset, .unset, .unset, .unset] [(.int 0), (.ref b1), (.ref b1)]
  refine os (fun _ z => XS.iload X1.here hx rfl (hb hby at_49) rfl z) ?_
  show OG p e below Φ T1 m 51 #[iv x0_, iv x1_, iv x2_, iv x3_, iv x4_, iv x5_, iv (x0_ % (1000 : Int32)), iv (x1_ % (1000 : Int32)), iv (x2_ % (1000 : Int32)), iv (x3_ % (1000 : Int32)), iv (x4_ % (1000 : Int32)), iv (x5_ % (1000 : Int32)), .unset, .unset, .unset, .unset, .unset, .unset, .unset, .unset] [(.int (x0_ % (1000 : Int32))), (.int 0), (.ref b1), (.ref b1)]
  refine os (fun _ z => XS.i2dS X1.here hx rfl (hb hby at_51) rfl (i2d_w _) z) ?_
  show OG p e below Φ T1 m 52 #[iv x0_, iv x1_, iv x2_, iv x3_, iv x4_, iv x5_, iv (x0_ % (1000 : Int32)), iv (x1_ % (1000 : Int32)), iv (x2_ % (1000 : Int32)), iv (x3_ % (1000 : Int32)), iv (x4_ % (1000 : Int32)), iv (x5_ % (1000 : Int32)), .unset, .unset, .unset, .unset, .unset, .unset, .unset, .unset] [(.double (FP.l2d ((x0_ % (1000 : Int32)).toInt64))), (.int 0), (.ref b1), (.ref b1)]
  obtain ⟨cl5, Aq5, Cq5, S5, M5, H5, G5⟩ := id V1
  have in5 : ¬ ((0 : Int32) < 0 ∨ cl5.slots.size ≤ (0 : Int32).toNatClampNeg) := inb_of S5 ⟨by decide, by decide⟩
  obtain ⟨T5, h5, X5, e5, W5, st5⟩ := stD X1 hx hZ e1 Aq5 in5 (g := (mkF m 52 #[iv x0_, iv x1_, iv x2_, iv x3_, iv x4_, iv x5_, iv (x0_ % (1000 : Int32)), iv (x1_ % (1000 : Int32)), iv (x2_ % (1000 : Int32)), iv (x3_ % (1000 : Int32)), iv (x4_ % (1000 : Int32)), iv (x5_ % (1000 : Int32)), .unset, .unset, .unset, .unset, .unset, .unset, .unset, .unset] [(.double (FP.l2d ((x0_ % (1000 : Int32)).toInt64))), (.int 0), (.ref b1), (.ref b1)])) rfl rfl (hb hby at_52)
  have F6 := F2.wr W5 gb1
  have F7 := F3.other W5 ne1_dz
  have hA8 := CHr.wr W5 own_sf0 hC.1
  have sf_b1 := hA8.safe V1.lt sf_b1
  have hkk := Nat.le_trans hkk hA8.2.1
  have hC := hC.trans hA8
  have V5 : Arv Z h5 b1 c1 .double (2 : Int32) [(.double (FP.l2d ((x0_ % (1000 : Int32)).toInt64))), (.double (FP.l2d (0 : Int64)))] (.double (FP.l2d (0 : Int64))) := Arv.set Aq5 Cq5 S5 M5 H5 G5 rfl W5 0 (by decide) (by show 0 < 2; decide)
  have N5 := Fr.snoc X5 N0 gb1
  have Zs5 : n0 ≤ h5.size := by rw [W5.size]; exact Zs1
  refine os st5 ?_
  show OG p e below Φ T5 m 53 #[iv x0_, iv x1_, iv x2_, iv x3_, iv x4_, iv x5_, iv (x0_ % (1000 : Int32)), iv (x1_ % (1000 : Int32)), iv (x2_ % (1000 : Int32)), iv (x3_ % (1000 : Int32)), iv (x4_ % (1000 : Int32)), iv (x5_ % (1000 : Int32)), .unset, .unset, .unset, .unset, .unset, .unset, .unset, .unset] [(.ref b1)]
  refine os (fun _ z => XS.dup X5.here hx rfl (hb hby at_53) rfl rfl z) ?_
  show OG p e below Φ T5 m 54 #[iv x0_, iv x1_, iv x2_, iv x3_, iv x4_, iv x5_, iv (x0_ % (1000 : Int32)), iv (x1_ % (1000 : Int32)), iv (x2_ % (1000 : Int32)), iv (x3_ % (1000 : Int32)), iv (x4_ % (1000 : Int32)), iv (x5_ % (1000 : Int32)), .unset, .unset, .unset, .unset, .unset, .unset, .unset, .unset] [(.ref b1), (.ref b1)]
  refine os (fun _ z => XS.iconst X5.here hx rfl (hb hby at_54) z) ?_
  show OG p e below Φ T5 m 55 #[iv x0_, iv x1_, iv x2_, iv x3_, iv x4_, iv x5_, iv (x0_ % (1000 : Int32)), iv (x1_ % (1000 : Int32)), iv (x2_ % (1000 : Int32)), iv (x3_ % (1000 : Int32)), iv (x4_ % (1000 : Int32)), iv (x5_ % (1000 : Int32)), .unset, .unset, .unset, .unset, .unset, .unset, .unset, .unset] [(.int 1), (.ref b1), (.ref b1)]
  refine os (fun _ z => XS.iload X5.here hx rfl (hb hby at_55) rfl z) ?_
  show OG p e below Φ T5 m 57 #[iv x0_, iv x1_, iv x2_, iv x3_, iv x4_, iv x5_, iv (x0_ % (1000 : Int32)), iv (x1_ % (1000 : Int32)), iv (x2_ % (1000 : Int32)), iv (x3_ % (1000 : Int32)), iv (x4_ % (1000 : Int32)), iv (x5_ % (1000 : Int32)), .unset, .unset, .unset, .unset, .unset, .unset, .unset, .unset] [(.int (x1_ % (1000 : Int32))), (.int 1), (.ref b1), (.ref b1)]
  refine os (fun _ z => XS.i2dS X5.here hx rfl (hb hby at_57) rfl (i2d_w _) z) ?_
  show OG p e below Φ T5 m 58 #[iv x0_, iv x1_, iv x2_, iv x3_, iv x4_, iv x5_, iv (x0_ % (1000 : Int32)), iv (x1_ % (1000 : Int32)), iv (x2_ % (1000 : Int32)), iv (x3_ % (1000 : Int32)), iv (x4_ % (1000 : Int32)), iv (x5_ % (1000 : Int32)), .unset, .unset, .unset, .unset, .unset, .unset, .unset, .unset] [(.double (FP.l2d ((x1_ % (1000 : Int32)).toInt64))), (.int 1), (.ref b1), (.ref b1)]
  obtain ⟨cl9, Aq9, Cq9, S9, M9, H9, G9⟩ := id V5
  have in9 : ¬ ((1 : Int32) < 0 ∨ cl9.slots.size ≤ (1 : Int32).toNatClampNeg) := inb_of S9 ⟨by decide, by decide⟩
  obtain ⟨T9, h9, X9, e9, W9, st9⟩ := stD X5 hx hZ e5 Aq9 in9 (g := (mkF m 58 #[iv x0_, iv x1_, iv x2_, iv x3_, iv x4_, iv x5_, iv (x0_ % (1000 : Int32)), iv (x1_ % (1000 : Int32)), iv (x2_ % (1000 : Int32)), iv (x3_ % (1000 : Int32)), iv (x4_ % (1000 : Int32)), iv (x5_ % (1000 : Int32)), .unset, .unset, .unset, .unset, .unset, .unset, .unset, .unset] [(.double (FP.l2d ((x1_ % (1000 : Int32)).toInt64))), (.int 1), (.ref b1), (.ref b1)])) rfl rfl (hb hby at_58)
  have F10 := F6.wr W9 gb1
  have F11 := F7.other W9 ne1_dz
  have hA12 := CHr.wr W9 own_sf0 hC.1
  have sf_b1 := hA12.safe V5.lt sf_b1
  have hkk := Nat.le_trans hkk hA12.2.1
  have hC := hC.trans hA12
  have V9 : Arv Z h9 b1 c1 .double (2 : Int32) [(.double (FP.l2d ((x0_ % (1000 : Int32)).toInt64))), (.double (FP.l2d ((x1_ % (1000 : Int32)).toInt64)))] (.double (FP.l2d (0 : Int64))) := Arv.set Aq9 Cq9 S9 M9 H9 G9 rfl W9 1 (by decide) (by show 1 < 2; decide)
  have N9 := Fr.snoc X9 N5 gb1
  have Zs9 : n0 ≤ h9.size := by rw [W9.size]; exact Zs5
  refine os st9 ?_
  show OG p e below Φ T9 m 59 #[iv x0_, iv x1_, iv x2_, iv x3_, iv x4_, iv x5_, iv (x0_ % (1000 : Int32)), iv (x1_ % (1000 : Int32)), iv (x2_ % (1000 : Int32)), iv (x3_ % (1000 : Int32)), iv (x4_ % (1000 : Int32)), iv (x5_ % (1000 : Int32)), .unset, .unset, .unset, .unset, .unset, .unset, .unset, .unset] [(.ref b1)]
  refine os (fun _ z => XS.astore X9.here hx rfl (hb hby at_59) rfl rfl (l' := #[iv x0_, iv x1_, iv x2_, iv x3_, iv x4_, iv x5_, iv (x0_ % (1000 : Int32)), iv (x1_ % (1000 : Int32)), iv (x2_ % (1000 : Int32)), iv (x3_ % (1000 : Int32)), iv (x4_ % (1000 : Int32)), iv (x5_ % (1000 : Int32)), rv b1, .unset, .unset, .unset, .unset, .unset, .unset, .unset]) rfl z) ?_
  show OG p e below Φ T9 m 61 #[iv x0_, iv x1_, iv x2_, iv x3_, iv x4_, iv x5_, iv (x0_ % (1000 : Int32)), iv (x1_ % (1000 : Int32)), iv (x2_ % (1000 : Int32)), iv (x3_ % (1000 : Int32)), iv (x4_ % (1000 : Int32)), iv (x5_ % (1000 : Int32)), rv b1, .unset, .unset, .unset, .unset, .unset, .unset, .unset] []
  refine os (fun _ z => XS.iconst X9.here hx rfl (hb hby at_61) z) ?_
  show OG p e below Φ T9 m 62 #[iv x0_, iv x1_, iv x2_, iv x3_, iv x4_, iv x5_, iv (x0_ % (1000 : Int32)), iv (x1_ % (1000 : Int32)), iv (x2_ % (1000 : Int32)), iv (x3_ % (1000 : Int32)), iv (x4_ % (1000 : Int32)), iv (x5_ % (1000 : Int32)), rv b1, .unset, .unset, .unset, .unset, .unset, .unset, .unset] [(.int 0)]
  obtain ⟨T13, h13, c13, X13, e13, E13, Ar13, st13⟩ := newP (aty := .double) X9 hx hZ (ow0 hw) e9 (g := (mkF m 62 #[iv x0_, iv x1_, iv x2_, iv x3_, iv x4_, iv x5_, iv (x0_ % (1000 : Int32)), iv (x1_ % (1000 : Int32)), iv (x2_ % (1000 : Int32)), iv (x3_ % (1000 : Int32)), iv (x4_ % (1000 : Int32)), iv (x5_ % (1000 : Int32)), rv b1, .unset, .unset, .unset, .unset, .unset, .unset, .unset] [(.int 0)])) rfl (hb hby at_62) rfl (by decide) (cap := 0) (by decide) (by decide) (by decide) (by decide)
  obtain ⟨b13, g13⟩ : ∃ z, z = h9.size := ⟨_, rfl⟩
  rw [← g13] at Ar13 st13
  have ne13_b1 : b1 ≠ b13 := by rw [g13]; exact Nat.ne_of_lt V9.lt
  have ne13_dz : dz ≠ b13 := by rw [g13]; exact Nat.ne_of_lt F11.lt
  have F14 := F10.ext E13
  have F15 := F11.ext E13
  have F16 := V9.ext E13
  have gb13 : n0 ≤ b13 := Nat.le_trans Zs9 (Nat.le_of_eq g13.symm)
  have Zs13 : n0 ≤ h13.size := Nat.le_trans Zs9 E13.1
  have hA17 := CHr.ext E13 hC.1
  have sf_b13 := Safe.ext E13 hC.1 (Safe.new (Nat.le_of_eq g13.symm))
  have sf_b1 := hA17.safe V9.lt sf_b1
  have hkk := Nat.le_trans hkk hA17.2.1
  have hC := hC.trans hA17
  have V13 : Arv Z h13 b13 c13 .double (0 : Int32) [] (.double (FP.l2d (0 : Int64))) := (Arv.newD Ar13 (by decide)).pad (pad_rep [] _ 0)
  refine os st13 ?_
  show OG p e below Φ T13 m 64 #[iv x0_, iv x1_, iv x2_, iv x3_, iv x4_, iv x5_, iv (x0_ % (1000 : Int32)), iv (x1_ % (1000 : Int32)), iv (x2_ % (1000 : Int32)), iv (x3_ % (1000 : Int32)), iv (x4_ % (1000 : Int32)), iv (x5_ % (1000 : Int32)), rv b1, .unset, .unset, .unset, .unset, .unset, .unset, .unset] [(.ref b13)]
  refine os (fun _ z => XS.astore X13.here hx rfl (hb hby at_64) rfl rfl (l' := #[iv x0_, iv x1_, iv x2_, iv x3_, iv x4_, iv x5_, iv (x0_ % (1000 : Int32)), iv (x1_ % (1000 : Int32)), iv (x2_ % (1000 : Int32)), iv (x3_ % (1000 : Int32)), iv (x4_ % (1000 : Int32)), iv (x5_ % (1000 : Int32)), rv b1, rv b13, .unset, .unset, .unset, .unset, .unset, .unset]) rfl z) ?_
  show OG p e below Φ T13 m 66 #[iv x0_, iv x1_, iv x2_, iv x3_, iv x4_, iv x5_, iv (x0_ % (1000 : Int32)), iv (x1_ % (1000 : Int32)), iv (x2_ % (1000 : Int32)), iv (x3_ % (1000 : Int32)), iv (x4_ % (1000 : Int32)), iv (x5_ % (1000 : Int32)), rv b1, rv b13, .unset, .unset, .unset, .unset, .unset, .unset] []
  refine os (fun _ z => XS.iconst X13.here hx rfl (hb hby at_66) z) ?_
  show OG p e below Φ T13 m 67 #[iv x0_, iv x1_, iv x2_, iv x3_, iv x4_, iv x5_, iv (x0_ % (1000 : Int32)), iv (x1_ % (1000 : Int32)), iv (x2_ % (1000 : Int32)), iv (x3_ % (1000 : Int32)), iv (x4_ % (1000 : Int32)), iv (x5_ % (1000 : Int32)), rv b1, rv b13, .unset, .unset, .unset, .unset, .unset, .unset] [(.int 2)]
  obtain ⟨T18, h18, c18, X18, e18, E18, Ar18, st18⟩ := newP (aty := .double) X13 hx hZ (ow0 hw) e13 (g := (mkF m 67 #[iv x0_, iv x1_, iv x2_, iv x3_, iv x4_, iv x5_, iv (x0_ % (1000 : Int32)), iv (x1_ % (1000 : Int32)), iv (x2_ % (1000 : Int32)), iv (x3_ % (1000 : Int32)), iv (x4_ % (1000 : Int32)), iv (x5_ % (1000 : Int32)), rv b1, rv b13, .unset, .unset, .unset, .unset, .unset, .unset] [(.int 2)])) rfl (hb hby at_67) rfl (by decide) (cap := 2) (by decide) (by decide) (by decide) (by decide)
  obtain ⟨b18, g18⟩ : ∃ z, z = h13.size := ⟨_, rfl⟩
  rw [← g18] at Ar18 st18
  have ne18_b1 : b1 ≠ b18 := by rw [g18]; exact Nat.ne_of_lt F16.lt
  have ne18_b13 : b13 ≠ b18 := by rw [g18]; exact Nat.ne_of_lt V13.lt
  have ne18_dz : dz ≠ b18 := by rw [g18]; exact Nat.ne_of_lt F15.lt
  have F19 := F14.ext E18
  have F20 := F15.ext E18
  have F21 := F16.ext E18
  have F22 := V13.ext E18
  have gb18 : n0 ≤ b18 := Nat.le_trans Zs13 (Nat.le_of_eq g18.symm)
  have Zs18 : n0 ≤ h18.size := Nat.le_trans Zs13 E18.1
  have hA23 := CHr.ext E18 hC.1
  have sf_b18 := Safe.ext E18 hC.1 (Safe.new (Nat.le_of_eq g18.symm))
  have sf_b1 := hA23.safe F16.lt sf_b1
  have sf_b13 := hA23.safe V13.lt sf_b13
  have hkk := Nat.le_trans hkk hA23.2.1
  have hC := hC.trans hA23
  have V18 : Arv Z h18 b18 c18 .double (2 : Int32) [(.double (FP.l2d (0 : Int64))), (.double (FP.l2d (0 : Int64)))] (.double (FP.l2d (0 : Int64))) := (Arv.newD Ar18 (by decide)).pad (pad_rep [] _ 2)
  refine os st18 ?_
  show OG p e below Φ T18 m 69 #[iv x0_, iv x1_, iv x2_, iv x3_, iv x4_, iv x5_, iv (x0_ % (1000 : Int32)), iv (x1_ % (1000 : Int32)), iv (x2_ % (1000 : Int32)), iv (x3_ % (1000 : Int32)), iv (x4_ % (1000 : Int32)), iv (x5_ % (1000 : Int32)), rv b1, rv b13, .unset, .unset, .unset, .unset, .unset, .unset] [(.ref b18)]
  refine os (fun _ z => XS.dup X18.here hx rfl (hb hby at_69) rfl rfl z) ?_
  show OG p e below Φ T18 m 70 #[iv x0_, iv x1_, iv x2_, iv x3_, iv x4_, iv x5_, iv (x0_ % (1000 : Int32)), iv (x1_ % (1000 : Int32)), iv (x2_ % (1000 : Int32)), iv (x3_ % (1000 : Int32)), iv (x4_ % (1000 : Int32)), iv (x5_ % (1000 : Int32)), rv b1, rv b13, .unset, .unset, .unset, .unset, .unset, .unset] [(.ref b18), (.ref b18)]
  refine os (fun _ z => XS.iconst X18.here hx rfl (hb hby at_70) z) ?_
  show OG p e below Φ T18 m 71 #[iv x0_, iv x1_, iv x2_, iv x3_, iv x4_, iv x5_, iv (x0_ % (1000 : Int32)), iv (x1_ % (1000 : Int32)), iv (x2_ % (1000 : Int32)), iv (x3_ % (1000 : Int32)), iv (x4_ % (1000 : Int32)), iv (x5_ % (1000 : Int32)), rv b1, rv b13, .unset, .unset, .unset, .unset, .unset, .unset] [(.int 0), (.ref b18), (.ref b18)]
  refine os (fun _ z => XS.iload X18.here hx rfl (hb hby at_71) rfl z) ?_
  show OG p e below Φ T18 m 73 #[iv x0_, iv x1_, iv x2_, iv x3_, iv x4_, iv x5_, iv (x0_ % (1000 : Int32)), iv (x1_ % (1000 : Int32)), iv (x2_ % (1000 : Int32)), iv (x3_ % (1000 : Int32)), iv (x4_ % (1000 : Int32)), iv (x5_ % (1000 : Int32)), rv b1, rv b13, .unset, .unset, .unset, .unset, .unset, .unset] [(.int (x4_ % (1000 : Int32))), (.int 0), (.ref b18), (.ref b18)]
  refine os (fun _ z => XS.i2dS X18.here hx rfl (hb hby at_73) rfl (i2d_w _) z) ?_
  show OG p e below Φ T18 m 74 #[iv x0_, iv x1_, iv x2_, iv x3_, iv x4_, iv x5_, iv (x0_ % (1000 : Int32)), iv (x1_ % (1000 : Int32)), iv (x2_ % (1000 : Int32)), iv (x3_ % (1000 : Int32)), iv (x4_ % (1000 : Int32)), iv (x5_ % (1000 : Int32)), rv b1, rv b13, .unset, .unset, .unset, .unset, .unset, .unset] [(.double (FP.l2d ((x4_ % (1000 : Int32)).toInt64))), (.int 0), (.ref b18), (.ref b18)]
  obtain ⟨cl24, Aq24, Cq24, S24, M24, H24, G24⟩ := id V18
  have in24 : ¬ ((0 : Int32) < 0 ∨ cl24.slots.size ≤ (0 : Int32).toNatClampNeg) := inb_of S24 ⟨by decide, by decide⟩
  obtain ⟨T24, h24, X24, e24, W24, st24⟩ := stD X18 hx hZ e18 Aq24 in24 (g := (mkF m 74 #[iv x0_, iv x1_, iv x2_, iv x3_, iv x4_, iv x5_, iv (x0_ % (1000 : Int32)), iv (x1_ % (1000 : Int32)), iv (x2_ % (1000 : Int32)), iv (x3_ % (1000 : Int32)), iv (x4_ % (1000 : Int32)), iv (x5_ % (1000 : Int32)), rv b1, rv b13, .unset, .unset, .unset, .unset, .unset, .unset] [(.double (FP.l2d ((x4_ % (1000 : Int32)).toInt64))), (.int 0), (.ref b18), (.ref b18)])) rfl rfl (hb hby at_74)
  have F25 := F19.wr W24 gb18
  have F26 := F20.other W24 ne18_dz
  have F27 := F21.other W24 ne18_b1
  have F28 := F22.other W24 ne18_b13
  have hA29 := CHr.wr W24 own_sf0 hC.1
  have sf_b1 := hA29.safe F21.lt sf_b1
  have sf_b13 := hA29.safe F22.lt sf_b13
  have sf_b18 := hA29.safe V18.lt sf_b18
  have hkk := Nat.le_trans hkk hA29.2.1
  have hC := hC.trans hA29
  have V24 : Arv Z h24 b18 c18 .double (2 : Int32) [(.double (FP.l2d ((x4_ % (1000 : Int32)).toInt64))), (.double (FP.l2d (0 : Int64)))] (.double (FP.l2d (0 : Int64))) := Arv.set Aq24 Cq24 S24 M24 H24 G24 rfl W24 0 (by decide) (by show 0 < 2; decide)
  have N24 := Fr.snoc X24 N9 gb18
  have Zs24 : n0 ≤ h24.size := by rw [W24.size]; exact Zs18
  refine os st24 ?_
  show OG p e below Φ T24 m 75 #[iv x0_, iv x1_, iv x2_, iv x3_, iv x4_, iv x5_, iv (x0_ % (1000 : Int32)), iv (x1_ % (1000 : Int32)), iv (x2_ % (1000 : Int32)), iv (x3_ % (1000 : Int32)), iv (x4_ % (1000 : Int32)), iv (x5_ % (1000 : Int32)), rv b1, rv b13, .unset, .unset, .unset, .unset, .unset, .unset] [(.ref b18)]
  refine os (fun _ z => XS.dup X24.here hx rfl (hb hby at_75) rfl rfl z) ?_
  show OG p e below Φ T24 m 76 #[iv x0_, iv x1_, iv x2_, iv x3_, iv x4_, iv x5_, iv (x0_ % (1000 : Int32)), iv (x1_ % (1000 : Int32)), iv (x2_ % (1000 : Int32)), iv (x3_ % (1000 : Int32)), iv (x4_ % (1000 : Int32)), iv (x5_ % (1000 : Int32)), rv b1, rv b13, .unset, .unset, .unset, .unset, .unset, .unset] [(.ref b18), (.ref b18)]
  refine os (fun _ z => XS.iconst X24.here hx rfl (hb hby at_76) z) ?_
  show OG p e below Φ T24 m 77 #[iv x0_, iv x1_, iv x2_, iv x3_, iv x4_, iv x5_, iv (x0_ % (1000 : Int32)), iv (x1_ % (1000 : Int32)), iv (x2_ % (1000 : Int32)), iv (x3_ % (1000 : Int32)), iv (x4_ % (1000 : Int32)), iv (x5_ % (1000 : Int32)), rv b1, rv b13, .unset, .unset, .unset, .unset, .unset, .unset] [(.int 1), (.ref b18), (.ref b18)]
  refine os (fun _ z => XS.iload X24.here hx rfl (hb hby at_77) rfl z) ?_
  show OG p e below Φ T24 m 79 #[iv x0_, iv x1_, iv x2_, iv x3_, iv x4_, iv x5_, iv (x0_ % (1000 : Int32)), iv (x1_ % (1000 : Int32)), iv (x2_ % (1000 : Int32)), iv (x3_ % (1000 : Int32)), iv (x4_ % (1000 : Int32)), iv (x5_ % (1000 : Int32)), rv b1, rv b13, .unset, .unset, .unset, .unset, .unset, .unset] [(.int (x5_ % (1000 : Int32))), (.int 1), (.ref b18), (.ref b18)]
  refine os (fun _ z => XS.i2dS X24.here hx rfl (hb hby at_79) rfl (i2d_w _) z) ?_
  show OG p e below Φ T24 m 80 #[iv x0_, iv x1_, iv x2_, iv x3_, iv x4_, iv x5_, iv (x0_ % (1000 : Int32)), iv (x1_ % (1000 : Int32)), iv (x2_ % (1000 : Int32)), iv (x3_ % (1000 : Int32)), iv (x4_ % (1000 : Int32)), iv (x5_ % (1000 : Int32)), rv b1, rv b13, .unset, .unset, .unset, .unset, .unset, .unset] [(.double (FP.l2d ((x5_ % (1000 : Int32)).toInt64))), (.int 1), (.ref b18), (.ref b18)]
  obtain ⟨cl30, Aq30, Cq30, S30, M30, H30, G30⟩ := id V24
  have in30 : ¬ ((1 : Int32) < 0 ∨ cl30.slots.size ≤ (1 : Int32).toNatClampNeg) := inb_of S30 ⟨by decide, by decide⟩
  obtain ⟨T30, h30, X30, e30, W30, st30⟩ := stD X24 hx hZ e24 Aq30 in30 (g := (mkF m 80 #[iv x0_, iv x1_, iv x2_, iv x3_, iv x4_, iv x5_, iv (x0_ % (1000 : Int32)), iv (x1_ % (1000 : Int32)), iv (x2_ % (1000 : Int32)), iv (x3_ % (1000 : Int32)), iv (x4_ % (1000 : Int32)), iv (x5_ % (1000 : Int32)), rv b1, rv b13, .unset, .unset, .unset, .unset, .unset, .unset] [(.double (FP.l2d ((x5_ % (1000 : Int32)).toInt64))), (.int 1), (.ref b18), (.ref b18)])) rfl rfl (hb hby at_80)
  have F31 := F25.wr W30 gb18
  have F32 := F26.other W30 ne18_dz
  have F33 := F27.other W30 ne18_b1
  have F34 := F28.other W30 ne18_b13
  have hA35 := CHr.wr W30 own_sf0 hC.1
  have sf_b1 := hA35.safe F27.lt sf_b1
  have sf_b13 := hA35.safe F28.lt sf_b13
  have sf_b18 := hA35.safe V24.lt sf_b18
  have hkk := Nat.le_trans hkk hA35.2.1
  have hC := hC.trans hA35
  have V30 : Arv Z h30 b18 c18 .double (2 : Int32) [(.double (FP.l2d ((x4_ % (1000 : Int32)).toInt64))), (.double (FP.l2d ((x5_ % (1000 : Int32)).toInt64)))] (.double (FP.l2d (0 : Int64))) := Arv.set Aq30 Cq30 S30 M30 H30 G30 rfl W30 1 (by decide) (by show 1 < 2; decide)
  have N30 := Fr.snoc X30 N24 gb18
  have Zs30 : n0 ≤ h30.size := by rw [W30.size]; exact Zs24
  refine os st30 ?_
  show OG p e below Φ T30 m 81 #[iv x0_, iv x1_, iv x2_, iv x3_, iv x4_, iv x5_, iv (x0_ % (1000 : Int32)), iv (x1_ % (1000 : Int32)), iv (x2_ % (1000 : Int32)), iv (x3_ % (1000 : Int32)), iv (x4_ % (1000 : Int32)), iv (x5_ % (1000 : Int32)), rv b1, rv b13, .unset, .unset, .unset, .unset, .unset, .unset] [(.ref b18)]
  refine os (fun _ z => XS.astore X30.here hx rfl (hb hby at_81) rfl rfl (l' := #[iv x0_, iv x1_, iv x2_, iv x3_, iv x4_, iv x5_, iv (x0_ % (1000 : Int32)), iv (x1_ % (1000 : Int32)), iv (x2_ % (1000 : Int32)), iv (x3_ % (1000 : Int32)), iv (x4_ % (1000 : Int32)), iv (x5_ % (1000 : Int32)), rv b1, rv b13, rv b18, .unset, .unset, .unset, .unset, .unset]) rfl z) ?_
  show OG p e below Φ T30 m 83 #[iv x0_, iv x1_, iv x2_, iv x3_, iv x4_, iv x5_, iv (x0_ % (1000 : Int32)), iv (x1_ % (1000 : Int32)), iv (x2_ % (1000 : Int32)), iv (x3_ % (1000 : Int32)), iv (x4_ % (1000 : Int32)), iv (x5_ % (1000 : Int32)), rv b1, rv b13, rv b18, .unset, .unset, .unset, .unset, .unset] []
  obtain ⟨T36, h36, X36, e36, E36, A36, D36, U36, st36⟩ := newO X30 hx hZ hown (ow1 hw) (ow2 hw) (ow3 hw) e30 (g := (mkF m 83 #[iv x0_, iv x1_, iv x2_, iv x3_, iv x4_, iv x5_, iv (x0_ % (1000 : Int32)), iv (x1_ % (1000 : Int32)), iv (x2_ % (1000 : Int32)), iv (x3_ % (1000 : Int32)), iv (x4_ % (1000 : Int32)), iv (x5_ % (1000 : Int32)), rv b1, rv b13, rv b18, .unset, .unset, .unset, .unset, .unset] [])) rfl (hb hby at_83) (by decide) (by decide)
  obtain ⟨b36, g36⟩ : ∃ z, z = h30.size := ⟨_, rfl⟩
  rw [← g36] at A36 D36 st36 U36
  have ne36_b1 : b1 ≠ b36 := by rw [g36]; exact Nat.ne_of_lt F33.lt
  have ne36_b13 : b13 ≠ b36 := by rw [g36]; exact Nat.ne_of_lt F34.lt
  have ne36_b18 : b18 ≠ b36 := by rw [g36]; exact Nat.ne_of_lt V30.lt
  have ne36_dz : dz ≠ b36 := by rw [g36]; exact Nat.ne_of_lt F32.lt
  have F37 := F31.ext E36
  have F38 := F32.ext E36
  have F39 := F33.ext E36
  have F40 := F34.ext E36
  have F41 := V30.ext E36
  have gb36 : n0 ≤ b36 := Nat.le_trans Zs30 (Nat.le_of_eq g36.symm)
  have Zs36 : n0 ≤ h36.size := Nat.le_trans Zs30 E36.1
  have F36_23 : Fld Z h36 b36 "java/util/AbstractList" "modCount" "I" (.int (0 : Int32)) := D36 (Or.inl (ow23 hw)) (ty := .int) (by decide)
  have F36_26 : Fld Z h36 b36 "java/util/ArrayList" "elementData" "[Ljava/lang/Object;" .null := D36 (Or.inl (ow26 hw)) (ty := (.array (.object "java/lang/Object"))) (by decide)
  have F36_61 : Fld Z h36 b36 "java/util/ArrayList" "size" "I" (.int (0 : Int32)) := D36 (Or.inl (ow61 hw)) (ty := .int) (by decide)
  have hA42 := CHr.ext E36 hC.1
  have sf_b36 := Safe.ext E36 hC.1 (Safe.new (Nat.le_of_eq g36.symm))
  have sf_b1 := hA42.safe F33.lt sf_b1
  have sf_b13 := hA42.safe F34.lt sf_b13
  have sf_b18 := hA42.safe V30.lt sf_b18
  have hkk := Nat.le_trans hkk hA42.2.1
  have hC := hC.trans hA42
  refine os (st36) ?_
  show OG p e below Φ T36 m 86 #[iv x0_, iv x1_, iv x2_, iv x3_, iv x4_, iv x5_, iv (x0_ % (1000 : Int32)), iv (x1_ % (1000 : Int32)), iv (x2_ % (1000 : Int32)), iv (x3_ % (1000 : Int32)), iv (x4_ % (1000 : Int32)), iv (x5_ % (1000 : Int32)), rv b1, rv b13, rv b18, .unset, .unset, .unset, .unset, .unset] [(.ref b36)]
  refine os (fun _ z => XS.dup X36.here hx rfl (hb hby at_86) rfl rfl z) ?_
  show OG p e below Φ T36 m 87 #[iv x0_, iv x1_, iv x2_, iv x3_, iv x4_, iv x5_, iv (x0_ % (1000 : Int32)), iv (x1_ % (1000 : Int32)), iv (x2_ % (1000 : Int32)), iv (x3_ % (1000 : Int32)), iv (x4_ % (1000 : Int32)), iv (x5_ % (1000 : Int32)), rv b1, rv b13, rv b18, .unset, .unset, .unset, .unset, .unset] [(.ref b36), (.ref b36)]
  obtain ⟨_, T43, L43, X43, hQ43, st43⟩ := own_callSp X36 hx hZ rfl hown (ow4 hw) (ow5 hw) (ow3 hw) (ow6 hw) (by decide) (rliali l Z a0 hw [] b36 dz h36 n0 Zs36 A36 gb36 F36_23 F36_61 F36_26 F37 S_d) e36 (W := 1) (by decide) (by decide) (by decide) (by decide) (pc := 87) (ls := #[iv x0_, iv x1_, iv x2_, iv x3_, iv x4_, iv x5_, iv (x0_ % (1000 : Int32)), iv (x1_ % (1000 : Int32)), iv (x2_ % (1000 : Int32)), iv (x3_ % (1000 : Int32)), iv (x4_ % (1000 : Int32)), iv (x5_ % (1000 : Int32)), rv b1, rv b13, rv b18, .unset, .unset, .unset, .unset, .unset]) (stk := [(.ref b36), (.ref b36)]) (by rw [hml]; rfl) (a := b36) (argsL := []) (rest := [(.ref b36)]) (lenOf pd0 rfl) rfl rfl (Nat.le_of_eq rfl) (hb hby at_87)
  obtain ⟨rfl, Nq43, Kq43, Eq43, Fm43, Fs43, Fe43⟩ := hQ43
  have N43 := Fr.app N30 Nq43
  have Zs43 : n0 ≤ T43.heap.size := Nat.le_trans Zs36 Kq43.1
  have F44 := F37.keep Kq43 (allS gb36 all0)
  have F45 := F38.keep Kq43 (ninS ne36_dz nin0)
  have F46 := F39.keep Kq43 (ninS ne36_b1 nin0)
  have F47 := F40.keep Kq43 (ninS ne36_b13 nin0)
  have F48 := F41.keep Kq43 (ninS ne36_b18 nin0)
  have hA49 := CHr.keep Kq43 (sfS own_sf0 sf0) hC.1
  have sf_b1 := hA49.safe F39.lt sf_b1
  have sf_b13 := hA49.safe F40.lt sf_b13
  have sf_b18 := hA49.safe F41.lt sf_b18
  have sf_b36 := hA49.safe A36.lt sf_b36
  have hkk := Nat.le_trans hkk hA49.2.1
  have hC := hC.trans hA49
  refine os st43 ?_
  show OG p e below Φ T43 m 90 #[iv x0_, iv x1_, iv x2_, iv x3_, iv x4_, iv x5_, iv (x0_ % (1000 : Int32)), iv (x1_ % (1000 : Int32)), iv (x2_ % (1000 : Int32)), iv (x3_ % (1000 : Int32)), iv (x4_ % (1000 : Int32)), iv (x5_ % (1000 : Int32)), rv b1, rv b13, rv b18, .unset, .unset, .unset, .unset, .unset] [(.ref b36)]
  refine os (fun _ z => XS.astore X43.here hx rfl (hb hby at_90) rfl rfl (l' := #[iv x0_, iv x1_, iv x2_, iv x3_, iv x4_, iv x5_, iv (x0_ % (1000 : Int32)), iv (x1_ % (1000 : Int32)), iv (x2_ % (1000 : Int32)), iv (x3_ % (1000 : Int32)), iv (x4_ % (1000 : Int32)), iv (x5_ % (1000 : Int32)), rv b1, rv b13, rv b18, rv b36, .unset, .unset, .unset, .unset]) rfl z) ?_
  show OG p e below Φ T43 m 92 #[iv x0_, iv x1_, iv x2_, iv x3_, iv x4_, iv x5_, iv (x0_ % (1000 : Int32)), iv (x1_ % (1000 : Int32)), iv (x2_ % (1000 : Int32)), iv (x3_ % (1000 : Int32)), iv (x4_ % (1000 : Int32)), iv (x5_ % (1000 : Int32)), rv b1, rv b13, rv b18, rv b36, .unset, .unset, .unset, .unset] []
  refine os (fun _ z => XS.aload X43.here hx rfl (hb hby at_92) rfl rfl z) ?_
  show OG p e below Φ T43 m 94 #[iv x0_, iv x1_, iv x2_, iv x3_, iv x4_, iv x5_, iv (x0_ % (1000 : Int32)), iv (x1_ % (1000 : Int32)), iv (x2_ % (1000 : Int32)), iv (x3_ % (1000 : Int32)), iv (x4_ % (1000 : Int32)), iv (x5_ % (1000 : Int32)), rv b1, rv b13, rv b18, rv b36, .unset, .unset, .unset, .unset] [(.ref b36)]
  obtain ⟨T50, h50, X50, e50, E50, A50, D50, U50, st50⟩ := newO X43 hx hZ hown (ow27 hw) (ow28 hw) (ow29 hw) rfl (g := (mkF m 94 #[iv x0_, iv x1_, iv x2_, iv x3_, iv x4_, iv x5_, iv (x0_ % (1000 : Int32)), iv (x1_ % (1000 : Int32)), iv (x2_ % (1000 : Int32)), iv (x3_ % (1000 : Int32)), iv (x4_ % (1000 : Int32)), iv (x5_ % (1000 : Int32)), rv b1, rv b13, rv b18, rv b36, .unset, .unset, .unset, .unset] [(.ref b36)])) rfl (hb hby at_94) (by decide) (by decide)
  obtain ⟨b50, g50⟩ : ∃ z, z = T43.heap.size := ⟨_, rfl⟩
  rw [← g50] at A50 D50 st50 U50
  have ne50_b1 : b1 ≠ b50 := by rw [g50]; exact Nat.ne_of_lt F46.lt
  have ne50_b13 : b13 ≠ b50 := by rw [g50]; exact Nat.ne_of_lt F47.lt
  have ne50_b18 : b18 ≠ b50 := by rw [g50]; exact Nat.ne_of_lt F48.lt
  have ne50_b36 : b36 ≠ b50 := by rw [g50]; exact Nat.ne_of_lt Eq43.lt
  have ne50_dz : dz ≠ b50 := by rw [g50]; exact Nat.ne_of_lt F45.lt
  have F51 := F44.ext E50
  have F52 := F45.ext E50
  have F53 := F46.ext E50
  have F54 := F47.ext E50
  have F55 := F48.ext E50
  have F56 := Eq43.ext E50
  have F57 := Fm43.ext E50
  have F58 := Fs43.ext E50
  have F59 := Fe43.ext E50
  have gb50 : n0 ≤ b50 := Nat.le_trans Zs43 (Nat.le_of_eq g50.symm)
  have Zs50 : n0 ≤ h50.size := Nat.le_trans Zs43 E50.1
  have F50_48 : Fld Z h50 b50 "com/example/hydromeme/hydromeme/Network$Junction" "id" "Ljava/lang/String;" .null := D50 (Or.inr (ow48 hw)) (ty := (.object "java/lang/String")) (by decide)
  have F50_50 : Fld Z h50 b50 "com/example/hydromeme/hydromeme/Network$Junction" "elevation" "D" (.double 0) := D50 (Or.inr (ow50 hw)) (ty := .double) (by decide)
  have F50_52 : Fld Z h50 b50 "com/example/hydromeme/hydromeme/Network$Junction" "demand" "D" (.double 0) := D50 (Or.inr (ow52 hw)) (ty := .double) (by decide)
  have hA60 := CHr.ext E50 hC.1
  have sf_b50 := Safe.ext E50 hC.1 (Safe.new (Nat.le_of_eq g50.symm))
  have sf_b1 := hA60.safe F46.lt sf_b1
  have sf_b13 := hA60.safe F47.lt sf_b13
  have sf_b18 := hA60.safe F48.lt sf_b18
  have sf_b36 := hA60.safe Eq43.lt sf_b36
  have hkk := Nat.le_trans hkk hA60.2.1
  have hC := hC.trans hA60
  refine os (st50) ?_
  show OG p e below Φ T50 m 97 #[iv x0_, iv x1_, iv x2_, iv x3_, iv x4_, iv x5_, iv (x0_ % (1000 : Int32)), iv (x1_ % (1000 : Int32)), iv (x2_ % (1000 : Int32)), iv (x3_ % (1000 : Int32)), iv (x4_ % (1000 : Int32)), iv (x5_ % (1000 : Int32)), rv b1, rv b13, rv b18, rv b36, .unset, .unset, .unset, .unset] [(.ref b50), (.ref b36)]
  refine os (fun _ z => XS.dup X50.here hx rfl (hb hby at_97) rfl rfl z) ?_
  show OG p e below Φ T50 m 98 #[iv x0_, iv x1_, iv x2_, iv x3_, iv x4_, iv x5_, iv (x0_ % (1000 : Int32)), iv (x1_ % (1000 : Int32)), iv (x2_ % (1000 : Int32)), iv (x3_ % (1000 : Int32)), iv (x4_ % (1000 : Int32)), iv (x5_ % (1000 : Int32)), rv b1, rv b13, rv b18, rv b36, .unset, .unset, .unset, .unset] [(.ref b50), (.ref b50), (.ref b36)]
  obtain ⟨a61, T61, h61, kq61, X61, e61, E61, hS, hkk, hZ, hown, st61⟩ := ldcS X50 hx hZ hown (ow30 hw) (own_sA hw) e50 hS hkk (g := (mkF m 98 #[iv x0_, iv x1_, iv x2_, iv x3_, iv x4_, iv x5_, iv (x0_ % (1000 : Int32)), iv (x1_ % (1000 : Int32)), iv (x2_ % (1000 : Int32)), iv (x3_ % (1000 : Int32)), iv (x4_ % (1000 : Int32)), iv (x5_ % (1000 : Int32)), rv b1, rv b13, rv b18, rv b36, .unset, .unset, .unset, .unset] [(.ref b50), (.ref b50), (.ref b36)])) rfl (hb hby at_98) (n := 4) (by decide) (by decide) (by decide) (by decide)
  have F62 := F51.ext E61
  have F63 := F52.ext E61
  have F64 := F53.ext E61
  have F65 := F54.ext E61
  have F66 := F55.ext E61
  have F67 := F56.ext E61
  have F68 := F57.ext E61
  have F69 := F58.ext E61
  have F70 := F59.ext E61
  have F71 := A50.ext E61
  have F72 := F50_48.ext E61
  have F73 := F50_50.ext E61
  have F74 := F50_52.ext E61
  have Zs61 : n0 ≤ h61.size := Nat.le_trans Zs50 E61.1
  have hC := hC.trans (own_chr0 (vm1 := T61.vm) E61)
  have sf_b1 := own_sf0 (Z := Z) (vm := T61.vm) (h := h61) (x := b1)
  have sf_b13 := own_sf0 (Z := Z) (vm := T61.vm) (h := h61) (x := b13)
  have sf_b18 := own_sf0 (Z := Z) (vm := T61.vm) (h := h61) (x := b18)
  have sf_b36 := own_sf0 (Z := Z) (vm := T61.vm) (h := h61) (x := b36)
  have sf_b50 := own_sf0 (Z := Z) (vm := T61.vm) (h := h61) (x := b50)
  refine os st61 ?_
  show OG p e below Φ T61 m 100 #[iv x0_, iv x1_, iv x2_, iv x3_, iv x4_, iv x5_, iv (x0_ % (1000 : Int32)), iv (x1_ % (1000 : Int32)), iv (x2_ % (1000 : Int32)), iv (x3_ % (1000 : Int32)), iv (x4_ % (1000 : Int32)), iv (x5_ % (1000 : Int32)), rv b1, rv b13, rv b18, rv b36, .unset, .unset, .unset, .unset] [(.ref a61), (.ref b50), (.ref b50), (.ref b36)]
  refine os (fun _ z => XS.iload X61.here hx rfl (hb hby at_100) rfl z) ?_
  show OG p e below Φ T61 m 102 #[iv x0_, iv x1_, iv x2_, iv x3_, iv x4_, iv x5_, iv (x0_ % (1000 : Int32)), iv (x1_ % (1000 : Int32)), iv (x2_ % (1000 : Int32)), iv (x3_ % (1000 : Int32)), iv (x4_ % (1000 : Int32)), iv (x5_ % (1000 : Int32)), rv b1, rv b13, rv b18, rv b36, .unset, .unset, .unset, .unset] [(.int (x2_ % (1000 : Int32))), (.ref a61), (.ref b50), (.ref b50), (.ref b36)]
  refine os (fun _ z => XS.i2dS X61.here hx rfl (hb hby at_102) rfl (i2d_w _) z) ?_
  show OG p e below Φ T61 m 103 #[iv x0_, iv x1_, iv x2_, iv x3_, iv x4_, iv x5_, iv (x0_ % (1000 : Int32)), iv (x1_ % (1000 : Int32)), iv (x2_ % (1000 : Int32)), iv (x3_ % (1000 : Int32)), iv (x4_ % (1000 : Int32)), iv (x5_ % (1000 : Int32)), rv b1, rv b13, rv b18, rv b36, .unset, .unset, .unset, .unset] [(.double (FP.l2d ((x2_ % (1000 : Int32)).toInt64))), (.ref a61), (.ref b50), (.ref b50), (.ref b36)]
  refine os (fun _ z => XS.dconst0 X61.here hx rfl (v := FP.l2d (0 : Int64)) (hb hby at_103) own_d0 z) ?_
  show OG p e below Φ T61 m 104 #[iv x0_, iv x1_, iv x2_, iv x3_, iv x4_, iv x5_, iv (x0_ % (1000 : Int32)), iv (x1_ % (1000 : Int32)), iv (x2_ % (1000 : Int32)), iv (x3_ % (1000 : Int32)), iv (x4_ % (1000 : Int32)), iv (x5_ % (1000 : Int32)), rv b1, rv b13, rv b18, rv b36, .unset, .unset, .unset, .unset] [(.double (FP.l2d (0 : Int64))), (.double (FP.l2d ((x2_ % (1000 : Int32)).toInt64))), (.ref a61), (.ref b50), (.ref b50), (.ref b36)]
  obtain ⟨_, T75, L75, X75, hQ75, st75⟩ := own_callSp X61 hx hZ rfl hown (ow38 hw) (ow39 hw) (ow29 hw) (ow40 hw) (by decide) (rju l Z a0 hw [] b50 a61 (FP.l2d ((x2_ % (1000 : Int32)).toInt64)) (FP.l2d (0 : Int64)) .null (.double 0) (.double 0) h61 n0 Zs61 F71 gb50 F72 F73 F74) e61 (W := 2) (by decide) (by decide) (by decide) (by decide) (pc := 104) (ls := #[iv x0_, iv x1_, iv x2_, iv x3_, iv x4_, iv x5_, iv (x0_ % (1000 : Int32)), iv (x1_ % (1000 : Int32)), iv (x2_ % (1000 : Int32)), iv (x3_ % (1000 : Int32)), iv (x4_ % (1000 : Int32)), iv (x5_ % (1000 : Int32)), rv b1, rv b13, rv b18, rv b36, .unset, .unset, .unset, .unset]) (stk := [(.double (FP.l2d (0 : Int64))), (.double (FP.l2d ((x2_ % (1000 : Int32)).toInt64))), (.ref a61), (.ref b50), (.ref b50), (.ref b36)]) (by rw [hml]; rfl) (a := b50) (argsL := [(.ref a61), (.double (FP.l2d ((x2_ % (1000 : Int32)).toInt64))), (.double (FP.l2d (0 : Int64)))]) (rest := [(.ref b50), (.ref b36)]) (lenOf pd10 rfl) rfl rfl (Nat.le_of_eq rfl) (hb hby at_104)
  obtain ⟨rfl, Nq75, Kq75, Eq75, Fq75_0, Fq75_1, Fq75_2⟩ := hQ75
  have N75 := Fr.app N43 Nq75
  have Zs75 : n0 ≤ T75.heap.size := Nat.le_trans Zs61 Kq75.1
  have F76 := F62.keep Kq75 (allS gb50 all0)
  have F77 := F63.keep Kq75 (ninS ne50_dz nin0)
  have F78 := F64.keep Kq75 (ninS ne50_b1 nin0)
  have F79 := F65.keep Kq75 (ninS ne50_b13 nin0)
  have F80 := F66.keep Kq75 (ninS ne50_b18 nin0)
  have F81 := F67.keep Kq75
  have F82 := F68.keep Kq75 (ninS ne50_b36 nin0)
  have F83 := F69.keep Kq75 (ninS ne50_b36 nin0)
  have F84 := F70.keep Kq75 (ninS ne50_b36 nin0)
  have hA85 := CHr.keep Kq75 (sfS own_sf0 sf0) hC.1
  have sf_b1 := hA85.safe F64.lt sf_b1
  have sf_b13 := hA85.safe F65.lt sf_b13
  have sf_b18 := hA85.safe F66.lt sf_b18
  have sf_b36 := hA85.safe F67.lt sf_b36
  have sf_b50 := hA85.safe F71.lt sf_b50
  have hkk := Nat.le_trans hkk hA85.2.1
  have hC := hC.trans hA85
  refine os st75 ?_
  show OG p e below Φ T75 m 107 #[iv x0_, iv x1_, iv x2_, iv x3_, iv x4_, iv x5_, iv (x0_ % (1000 : Int32)), iv (x1_ % (1000 : Int32)), iv (x2_ % (1000 : Int32)), iv (x3_ % (1000 : Int32)), iv (x4_ % (1000 : Int32)), iv (x5_ % (1000 : Int32)), rv b1, rv b13, rv b18, rv b36, .unset, .unset, .unset, .unset] [(.ref b50), (.ref b36)]
  obtain ⟨_, T86, L86, X86, hQ86, st86⟩ := own_callVi X75 hx hZ hown (ow53 hw) (ow54 hw) (notFace_of_selects (args := #[]) (mvT hZ (ow56 hw))) (ow56 hw) (ow55 hw) (ow3 hw) (ow57 hw) (by decide) (rla0a1 l Z a0 hw [] b36 (0 : Int32) dz cz b50 T75.heap n0 Zs75 F81 gb36 F82 F83 F84 F77 ne36_dz (S_d.ext F76.2) Eq75) rfl (W := 0) (by decide) (by decide) (by decide) (by decide) F81 (pc := 107) (ls := #[iv x0_, iv x1_, iv x2_, iv x3_, iv x4_, iv x5_, iv (x0_ % (1000 : Int32)), iv (x1_ % (1000 : Int32)), iv (x2_ % (1000 : Int32)), iv (x3_ % (1000 : Int32)), iv (x4_ % (1000 : Int32)), iv (x5_ % (1000 : Int32)), rv b1, rv b13, rv b18, rv b36, .unset, .unset, .unset, .unset]) (stk := [(.ref b50), (.ref b36)]) (by rw [hml]; rfl) (argsL := [(.ref b50)]) (rest := []) (lenOf pd11 rfl) rfl rfl (Nat.le_of_eq rfl) (hb hby at_107)
  obtain ⟨rfl, Nq86, Kq86, Eq86, Fm86, Fs86, b86, cb86, Fe86, Vq86, Ex86, Ov86, hz86⟩ := hQ86
  have nq86_b1 : b1 ≠ b86 := Nat.ne_of_lt (Nat.lt_of_lt_of_le F78.lt hz86)
  have nq86_b13 : b13 ≠ b86 := Nat.ne_of_lt (Nat.lt_of_lt_of_le F79.lt hz86)
  have nq86_b18 : b18 ≠ b86 := Nat.ne_of_lt (Nat.lt_of_lt_of_le F80.lt hz86)
  have nq86_b36 : b36 ≠ b86 := Nat.ne_of_lt (Nat.lt_of_lt_of_le F81.lt hz86)
  have nq86_b50 : b50 ≠ b86 := Nat.ne_of_lt (Nat.lt_of_lt_of_le Eq75.lt hz86)
  have nq86_dz : dz ≠ b86 := Nat.ne_of_lt (Nat.lt_of_lt_of_le F77.lt hz86)
  have gq86 : n0 ≤ b86 := Nat.le_trans Zs75 hz86
  have N86 := Fr.app N75 Nq86
  have Zs86 : n0 ≤ T86.heap.size := Nat.le_trans Zs75 Kq86.1
  have F87 := F76.keep Kq86 (allS gb36 all0)
  have F88 := F77.keep Kq86 (ninS ne36_dz nin0)
  have F89 := F78.keep Kq86 (ninS ne36_b1 nin0)
  have F90 := F79.keep Kq86 (ninS ne36_b13 nin0)
  have F91 := F80.keep Kq86 (ninS ne36_b18 nin0)
  have F92 := Eq75.keep Kq86
  have F93 := Fq75_0.keep Kq86 (ninS (Ne.symm ne50_b36) nin0)
  have F94 := Fq75_1.keep Kq86 (ninS (Ne.symm ne50_b36) nin0)
  have F95 := Fq75_2.keep Kq86 (ninS (Ne.symm ne50_b36) nin0)
  have hA96 := CHr.keep Kq86 (sfS own_sf0 sf0) hC.1
  have sf_b1 := hA96.safe F78.lt sf_b1
  have sf_b13 := hA96.safe F79.lt sf_b13
  have sf_b18 := hA96.safe F80.lt sf_b18
  have sf_b36 := hA96.safe F81.lt sf_b36
  have sf_b50 := hA96.safe Eq75.lt sf_b50
  have hkk := Nat.le_trans hkk hA96.2.1
  have hC := hC.trans hA96
  refine os st86 ?_
  show OG p e below Φ T86 m 110 #[iv x0_, iv x1_, iv x2_, iv x3_, iv x4_, iv x5_, iv (x0_ % (1000 : Int32)), iv (x1_ % (1000 : Int32)), iv (x2_ % (1000 : Int32)), iv (x3_ % (1000 : Int32)), iv (x4_ % (1000 : Int32)), iv (x5_ % (1000 : Int32)), rv b1, rv b13, rv b18, rv b36, .unset, .unset, .unset, .unset] [(.int 1)]
  refine os (fun _ z => XT.pop X86.here hx rfl (hb hby at_110) rfl rfl z) ?_
  show OG p e below Φ T86 m 111 #[iv x0_, iv x1_, iv x2_, iv x3_, iv x4_, iv x5_, iv (x0_ % (1000 : Int32)), iv (x1_ % (1000 : Int32)), iv (x2_ % (1000 : Int32)), iv (x3_ % (1000 : Int32)), iv (x4_ % (1000 : Int32)), iv (x5_ % (1000 : Int32)), rv b1, rv b13, rv b18, rv b36, .unset, .unset, .unset, .unset] []
  refine os (fun _ z => XS.aload X86.here hx rfl (hb hby at_111) rfl rfl z) ?_
  show OG p e below Φ T86 m 113 #[iv x0_, iv x1_, iv x2_, iv x3_, iv x4_, iv x5_, iv (x0_ % (1000 : Int32)), iv (x1_ % (1000 : Int32)), iv (x2_ % (1000 : Int32)), iv (x3_ % (1000 : Int32)), iv (x4_ % (1000 : Int32)), iv (x5_ % (1000 : Int32)), rv b1, rv b13, rv b18, rv b36, .unset, .unset, .unset, .unset] [(.ref b36)]
  obtain ⟨T97, h97, X97, e97, E97, A97, D97, U97, st97⟩ := newO X86 hx hZ hown (ow27 hw) (ow28 hw) (ow29 hw) rfl (g := (mkF m 113 #[iv x0_, iv x1_, iv x2_, iv x3_, iv x4_, iv x5_, iv (x0_ % (1000 : Int32)), iv (x1_ % (1000 : Int32)), iv (x2_ % (1000 : Int32)), iv (x3_ % (1000 : Int32)), iv (x4_ % (1000 : Int32)), iv (x5_ % (1000 : Int32)), rv b1, rv b13, rv b18, rv b36, .unset, .unset, .unset, .unset] [(.ref b36)])) rfl (hb hby at_113) (by decide) (by decide)
  obtain ⟨b97, g97⟩ : ∃ z, z = T86.heap.size := ⟨_, rfl⟩
  rw [← g97] at A97 D97 st97 U97
  have ne97_b1 : b1 ≠ b97 := by rw [g97]; exact Nat.ne_of_lt F89.lt
  have ne97_b13 : b13 ≠ b97 := by rw [g97]; exact Nat.ne_of_lt F90.lt
  have ne97_b18 : b18 ≠ b97 := by rw [g97]; exact Nat.ne_of_lt F91.lt
  have ne97_b36 : b36 ≠ b97 := by rw [g97]; exact Nat.ne_of_lt Eq86.lt
  have ne97_b50 : b50 ≠ b97 := by rw [g97]; exact Nat.ne_of_lt F92.lt
  have ne97_b86 : b86 ≠ b97 := by rw [g97]; exact Nat.ne_of_lt Vq86.lt
  have ne97_dz : dz ≠ b97 := by rw [g97]; exact Nat.ne_of_lt F88.lt
  have F98 := F87.ext E97
  have F99 := F88.ext E97
  have F100 := F89.ext E97
  have F101 := F90.ext E97
  have F102 := F91.ext E97
  have F103 := F92.ext E97
  have F104 := F93.ext E97
  have F105 := F94.ext E97
  have F106 := F95.ext E97
  have F107 := Eq86.ext E97
  have F108 := Fm86.ext E97
  have F109 := Fs86.ext E97
  have F110 := Fe86.ext E97
  have F111 := Vq86.ext E97
  have F112 := Ex86.ext E97
  have gb97 : n0 ≤ b97 := Nat.le_trans Zs86 (Nat.le_of_eq g97.symm)
  have Zs97 : n0 ≤ h97.size := Nat.le_trans Zs86 E97.1
  have F97_48 : Fld Z h97 b97 "com/example/hydromeme/hydromeme/Network$Junction" "id" "Ljava/lang/String;" .null := D97 (Or.inr (ow48 hw)) (ty := (.object "java/lang/String")) (by decide)
  have F97_50 : Fld Z h97 b97 "com/example/hydromeme/hydromeme/Network$Junction" "elevation" "D" (.double 0) := D97 (Or.inr (ow50 hw)) (ty := .double) (by decide)
  have F97_52 : Fld Z h97 b97 "com/example/hydromeme/hydromeme/Network$Junction" "demand" "D" (.double 0) := D97 (Or.inr (ow52 hw)) (ty := .double) (by decide)
  have hA113 := CHr.ext E97 hC.1
  have sf_b97 := Safe.ext E97 hC.1 (Safe.new (Nat.le_of_eq g97.symm))
  have sf_b1 := hA113.safe F89.lt sf_b1
  have sf_b13 := hA113.safe F90.lt sf_b13
  have sf_b18 := hA113.safe F91.lt sf_b18
  have sf_b36 := hA113.safe Eq86.lt sf_b36
  have sf_b50 := hA113.safe F92.lt sf_b50
  have hkk := Nat.le_trans hkk hA113.2.1
  have hC := hC.trans hA113
  refine os (st97) ?_
  show OG p e below Φ T97 m 116 #[iv x0_, iv x1_, iv x2_, iv x3_, iv x4_, iv x5_, iv (x0_ % (1000 : Int32)), iv (x1_ % (1000 : Int32)), iv (x2_ % (1000 : Int32)), iv (x3_ % (1000 : Int32)), iv (x4_ % (1000 : Int32)), iv (x5_ % (1000 : Int32)), rv b1, rv b13, rv b18, rv b36, .unset, .unset, .unset, .unset] [(.ref b97), (.ref b36)]
  refine os (fun _ z => XS.dup X97.here hx rfl (hb hby at_116) rfl rfl z) ?_
  show OG p e below Φ T97 m 117 #[iv x0_, iv x1_, iv x2_, iv x3_, iv x4_, iv x5_, iv (x0_ % (1000 : Int32)), iv (x1_ % (1000 : Int32)), iv (x2_ % (1000 : Int32)), iv (x3_ % (1000 : Int32)), iv (x4_ % (1000 : Int32)), iv (x5_ % (1000 : Int32)), rv b1, rv b13, rv b18, rv b36, .unset, .unset, .unset, .unset] [(.ref b97), (.ref b97), (.ref b36)]
  obtain ⟨a114, T114, h114, kq114, X114, e114, E114, hS, hkk, hZ, hown, st114⟩ := ldcS X97 hx hZ hown (ow84 hw) (own_sA hw) e97 hS hkk (g := (mkF m 117 #[iv x0_, iv x1_, iv x2_, iv x3_, iv x4_, iv x5_, iv (x0_ % (1000 : Int32)), iv (x1_ % (1000 : Int32)), iv (x2_ % (1000 : Int32)), iv (x3_ % (1000 : Int32)), iv (x4_ % (1000 : Int32)), iv (x5_ % (1000 : Int32)), rv b1, rv b13, rv b18, rv b36, .unset, .unset, .unset, .unset] [(.ref b97), (.ref b97), (.ref b36)])) rfl (hb hby at_117) (n := 4) (by decide) (by decide) (by decide) (by decide)
  have F115 := F98.ext E114
  have F116 := F99.ext E114
  have F117 := F100.ext E114
  have F118 := F101.ext E114
  have F119 := F102.ext E114
  have F120 := F103.ext E114
  have F121 := F104.ext E114
  have F122 := F105.ext E114
  have F123 := F106.ext E114
  have F124 := F107.ext E114
  have F125 := F108.ext E114
  have F126 := F109.ext E114
  have F127 := F110.ext E114
  have F128 := F111.ext E114
  have F129 := F112.ext E114
  have F130 := A97.ext E114
  have F131 := F97_48.ext E114
  have F132 := F97_50.ext E114
  have F133 := F97_52.ext E114
  have Zs114 : n0 ≤ h114.size := Nat.le_trans Zs97 E114.1
  have hC := hC.trans (own_chr0 (vm1 := T114.vm) E114)
  have sf_b1 := own_sf0 (Z := Z) (vm := T114.vm) (h := h114) (x := b1)
  have sf_b13 := own_sf0 (Z := Z) (vm := T114.vm) (h := h114) (x := b13)
  have sf_b18 := own_sf0 (Z := Z) (vm := T114.vm) (h := h114) (x := b18)
  have sf_b36 := own_sf0 (Z := Z) (vm := T114.vm) (h := h114) (x := b36)
  have sf_b50 := own_sf0 (Z := Z) (vm := T114.vm) (h := h114) (x := b50)
  have sf_b97 := own_sf0 (Z := Z) (vm := T114.vm) (h := h114) (x := b97)
  refine os st114 ?_
  show OG p e below Φ T114 m 119 #[iv x0_, iv x1_, iv x2_, iv x3_, iv x4_, iv x5_, iv (x0_ % (1000 : Int32)), iv (x1_ % (1000 : Int32)), iv (x2_ % (1000 : Int32)), iv (x3_ % (1000 : Int32)), iv (x4_ % (1000 : Int32)), iv (x5_ % (1000 : Int32)), rv b1, rv b13, rv b18, rv b36, .unset, .unset, .unset, .unset] [(.ref a114), (.ref b97), (.ref b97), (.ref b36)]
  refine os (fun _ z => XS.iload X114.here hx rfl (hb hby at_119) rfl z) ?_
  show OG p e below Φ T114 m 121 #[iv x0_, iv x1_, iv x2_, iv x3_, iv x4_, iv x5_, iv (x0_ % (1000 : Int32)), iv (x1_ % (1000 : Int32)), iv (x2_ % (1000 : Int32)), iv (x3_ % (1000 : Int32)), iv (x4_ % (1000 : Int32)), iv (x5_ % (1000 : Int32)), rv b1, rv b13, rv b18, rv b36, .unset, .unset, .unset, .unset] [(.int (x3_ % (1000 : Int32))), (.ref a114), (.ref b97), (.ref b97), (.ref b36)]
  refine os (fun _ z => XS.i2dS X114.here hx rfl (hb hby at_121) rfl (i2d_w _) z) ?_
  show OG p e below Φ T114 m 122 #[iv x0_, iv x1_, iv x2_, iv x3_, iv x4_, iv x5_, iv (x0_ % (1000 : Int32)), iv (x1_ % (1000 : Int32)), iv (x2_ % (1000 : Int32)), iv (x3_ % (1000 : Int32)), iv (x4_ % (1000 : Int32)), iv (x5_ % (1000 : Int32)), rv b1, rv b13, rv b18, rv b36, .unset, .unset, .unset, .unset] [(.double (FP.l2d ((x3_ % (1000 : Int32)).toInt64))), (.ref a114), (.ref b97), (.ref b97), (.ref b36)]
  refine os (fun _ z => XS.dconst0 X114.here hx rfl (v := FP.l2d (0 : Int64)) (hb hby at_122) own_d0 z) ?_
  show OG p e below Φ T114 m 123 #[iv x0_, iv x1_, iv x2_, iv x3_, iv x4_, iv x5_, iv (x0_ % (1000 : Int32)), iv (x1_ % (1000 : Int32)), iv (x2_ % (1000 : Int32)), iv (x3_ % (1000 : Int32)), iv (x4_ % (1000 : Int32)), iv (x5_ % (1000 : Int32)), rv b1, rv b13, rv b18, rv b36, .unset, .unset, .unset, .unset] [(.double (FP.l2d (0 : Int64))), (.double (FP.l2d ((x3_ % (1000 : Int32)).toInt64))), (.ref a114), (.ref b97), (.ref b97), (.ref b36)]
  obtain ⟨_, T134, L134, X134, hQ134, st134⟩ := own_callSp X114 hx hZ rfl hown (ow38 hw) (ow39 hw) (ow29 hw) (ow40 hw) (by decide) (rju l Z a0 hw [] b97 a114 (FP.l2d ((x3_ % (1000 : Int32)).toInt64)) (FP.l2d (0 : Int64)) .null (.double 0) (.double 0) h114 n0 Zs114 F130 gb97 F131 F132 F133) e114 (W := 2) (by decide) (by decide) (by decide) (by decide) (pc := 123) (ls := #[iv x0_, iv x1_, iv x2_, iv x3_, iv x4_, iv x5_, iv (x0_ % (1000 : Int32)), iv (x1_ % (1000 : Int32)), iv (x2_ % (1000 : Int32)), iv (x3_ % (1000 : Int32)), iv (x4_ % (1000 : Int32)), iv (x5_ % (1000 : Int32)), rv b1, rv b13, rv b18, rv b36, .unset, .unset, .unset, .unset]) (stk := [(.double (FP.l2d (0 : Int64))), (.double (FP.l2d ((x3_ % (1000 : Int32)).toInt64))), (.ref a114), (.ref b97), (.ref b97), (.ref b36)]) (by rw [hml]; rfl) (a := b97) (argsL := [(.ref a114), (.double (FP.l2d ((x3_ % (1000 : Int32)).toInt64))), (.double (FP.l2d (0 : Int64)))]) (rest := [(.ref b97), (.ref b36)]) (lenOf pd10 rfl) rfl rfl (Nat.le_of_eq rfl) (hb hby at_123)
  obtain ⟨rfl, Nq134, Kq134, Eq134, Fq134_0, Fq134_1, Fq134_2⟩ := hQ134
  have N134 := Fr.app N86 Nq134
  have Zs134 : n0 ≤ T134.heap.size := Nat.le_trans Zs114 Kq134.1
  have F135 := F115.keep Kq134 (allS gb97 all0)
  have F136 := F116.keep Kq134 (ninS ne97_dz nin0)
  have F137 := F117.keep Kq134 (ninS ne97_b1 nin0)
  have F138 := F118.keep Kq134 (ninS ne97_b13 nin0)
  have F139 := F119.keep Kq134 (ninS ne97_b18 nin0)
  have F140 := F120.keep Kq134
  have F141 := F121.keep Kq134 (ninS ne97_b50 nin0)
  have F142 := F122.keep Kq134 (ninS ne97_b50 nin0)
  have F143 := F123.keep Kq134 (ninS ne97_b50 nin0)
  have F144 := F124.keep Kq134
  have F145 := F125.keep Kq134 (ninS ne97_b36 nin0)
  have F146 := F126.keep Kq134 (ninS ne97_b36 nin0)
  have F147 := F127.keep Kq134 (ninS ne97_b36 nin0)
  have F148 := F128.keep Kq134 (ninS ne97_b86 nin0)
  have F149 := F129.keep Kq134
  have hA150 := CHr.keep Kq134 (sfS own_sf0 sf0) hC.1
  have sf_b1 := hA150.safe F117.lt sf_b1
  have sf_b13 := hA150.safe F118.lt sf_b13
  have sf_b18 := hA150.safe F119.lt sf_b18
  have sf_b36 := hA150.safe F124.lt sf_b36
  have sf_b50 := hA150.safe F120.lt sf_b50
  have sf_b97 := hA150.safe F130.lt sf_b97
  have hkk := Nat.le_trans hkk hA150.2.1
  have hC := hC.trans hA150
  refine os st134 ?_
  show OG p e below Φ T134 m 126 #[iv x0_, iv x1_, iv x2_, iv x3_, iv x4_, iv x5_, iv (x0_ % (1000 : Int32)), iv (x1_ % (1000 : Int32)), iv (x2_ % (1000 : Int32)), iv (x3_ % (1000 : Int32)), iv (x4_ % (1000 : Int32)), iv (x5_ % (1000 : Int32)), rv b1, rv b13, rv b18, rv b36, .unset, .unset, .unset, .unset] [(.ref b97), (.ref b36)]
  obtain ⟨_, T151, L151, X151, hQ151, st151⟩ := own_callVi X134 hx hZ hown (ow53 hw) (ow54 hw) (notFace_of_selects (args := #[]) (mvT hZ (ow56 hw))) (ow56 hw) (ow55 hw) (ow3 hw) (ow57 hw) (by decide) (rla1a1 l Z a0 hw [] b36 (1 : Int32) b86 cb86 b97 b50 T134.heap n0 Zs134 F144 gb36 F145 F146 F147 F148 F149 Ov86 gq86 nq86_b36 Eq134) rfl (W := 0) (by decide) (by decide) (by decide) (by decide) F144 (pc := 126) (ls := #[iv x0_, iv x1_, iv x2_, iv x3_, iv x4_, iv x5_, iv (x0_ % (1000 : Int32)), iv (x1_ % (1000 : Int32)), iv (x2_ % (1000 : Int32)), iv (x3_ % (1000 : Int32)), iv (x4_ % (1000 : Int32)), iv (x5_ % (1000 : Int32)), rv b1, rv b13, rv b18, rv b36, .unset, .unset, .unset, .unset]) (stk := [(.ref b97), (.ref b36)]) (by rw [hml]; rfl) (argsL := [(.ref b97)]) (rest := []) (lenOf pd11 rfl) rfl rfl (Nat.le_of_eq rfl) (hb hby at_126)
  obtain ⟨rfl, Nq151, Kq151, Eq151, Fm151, Fs151, Fe151, Vq151, Ex151⟩ := hQ151
  have N151 := Fr.app N134 Nq151
  have Zs151 : n0 ≤ T151.heap.size := Nat.le_trans Zs134 Kq151.1
  have F152 := F135.keep Kq151 (allS gb36 (allS gq86 all0))
  have F153 := F136.keep Kq151 (ninS ne36_dz (ninS nq86_dz nin0))
  have F154 := F137.keep Kq151 (ninS ne36_b1 (ninS nq86_b1 nin0))
  have F155 := F138.keep Kq151 (ninS ne36_b13 (ninS nq86_b13 nin0))
  have F156 := F139.keep Kq151 (ninS ne36_b18 (ninS nq86_b18 nin0))
  have F157 := F140.keep Kq151
  have F158 := F141.keep Kq151 (ninS (Ne.symm ne50_b36) (ninS nq86_b50 nin0))
  have F159 := F142.keep Kq151 (ninS (Ne.symm ne50_b36) (ninS nq86_b50 nin0))
  have F160 := F143.keep Kq151 (ninS (Ne.symm ne50_b36) (ninS nq86_b50 nin0))
  have F161 := Eq134.keep Kq151
  have F162 := Fq134_0.keep Kq151 (ninS (Ne.symm ne97_b36) (ninS (Ne.symm ne97_b86) nin0))
  have F163 := Fq134_1.keep Kq151 (ninS (Ne.symm ne97_b36) (ninS (Ne.symm ne97_b86) nin0))
  have F164 := Fq134_2.keep Kq151 (ninS (Ne.symm ne97_b36) (ninS (Ne.symm ne97_b86) nin0))
  have hA165 := CHr.keep Kq151 (sfS own_sf0 (sfS own_sf0 sf0)) hC.1
  have sf_b1 := hA165.safe F137.lt sf_b1
  have sf_b13 := hA165.safe F138.lt sf_b13
  have sf_b18 := hA165.safe F139.lt sf_b18
  have sf_b36 := hA165.safe F144.lt sf_b36
  have sf_b50 := hA165.safe F140.lt sf_b50
  have sf_b97 := hA165.safe Eq134.lt sf_b97
  have hkk := Nat.le_trans hkk hA165.2.1
  have hC := hC.trans hA165
  refine os st151 ?_
  show OG p e below Φ T151 m 129 #[iv x0_, iv x1_, iv x2_, iv x3_, iv x4_, iv x5_, iv (x0_ % (1000 : Int32)), iv (x1_ % (1000 : Int32)), iv (x2_ % (1000 : Int32)), iv (x3_ % (1000 : Int32)), iv (x4_ % (1000 : Int32)), iv (x5_ % (1000 : Int32)), rv b1, rv b13, rv b18, rv b36, .unset, .unset, .unset, .unset] [(.int 1)]
  refine os (fun _ z => XT.pop X151.here hx rfl (hb hby at_129) rfl rfl z) ?_
  show OG p e below Φ T151 m 130 #[iv x0_, iv x1_, iv x2_, iv x3_, iv x4_, iv x5_, iv (x0_ % (1000 : Int32)), iv (x1_ % (1000 : Int32)), iv (x2_ % (1000 : Int32)), iv (x3_ % (1000 : Int32)), iv (x4_ % (1000 : Int32)), iv (x5_ % (1000 : Int32)), rv b1, rv b13, rv b18, rv b36, .unset, .unset, .unset, .unset] []
  refine os (fun _ z => XS.dconst0 X151.here hx rfl (v := FP.l2d (0 : Int64)) (hb hby at_130) own_d0 z) ?_
  show OG p e below Φ T151 m 131 #[iv x0_, iv x1_, iv x2_, iv x3_, iv x4_, iv x5_, iv (x0_ % (1000 : Int32)), iv (x1_ % (1000 : Int32)), iv (x2_ % (1000 : Int32)), iv (x3_ % (1000 : Int32)), iv (x4_ % (1000 : Int32)), iv (x5_ % (1000 : Int32)), rv b1, rv b13, rv b18, rv b36, .unset, .unset, .unset, .unset] [(.double (FP.l2d (0 : Int64)))]
  refine os (fun _ z => XS.aload X151.here hx rfl (hb hby at_131) rfl rfl z) ?_
  show OG p e below Φ T151 m 133 #[iv x0_, iv x1_, iv x2_, iv x3_, iv x4_, iv x5_, iv (x0_ % (1000 : Int32)), iv (x1_ % (1000 : Int32)), iv (x2_ % (1000 : Int32)), iv (x3_ % (1000 : Int32)), iv (x4_ % (1000 : Int32)), iv (x5_ % (1000 : Int32)), rv b1, rv b13, rv b18, rv b36, .unset, .unset, .unset, .unset] [(.ref b1), (.double (FP.l2d (0 : Int64)))]
  refine os (fun _ z => XS.aload X151.here hx rfl (hb hby at_133) rfl rfl z) ?_
  show OG p e below Φ T151 m 135 #[iv x0_, iv x1_, iv x2_, iv x3_, iv x4_, iv x5_, iv (x0_ % (1000 : Int32)), iv (x1_ % (1000 : Int32)), iv (x2_ % (1000 : Int32)), iv (x3_ % (1000 : Int32)), iv (x4_ % (1000 : Int32)), iv (x5_ % (1000 : Int32)), rv b1, rv b13, rv b18, rv b36, .unset, .unset, .unset, .unset] [(.ref b13), (.ref b1), (.double (FP.l2d (0 : Int64)))]
  refine os (fun _ z => XS.aload X151.here hx rfl (hb hby at_135) rfl rfl z) ?_
  show OG p e below Φ T151 m 137 #[iv x0_, iv x1_, iv x2_, iv x3_, iv x4_, iv x5_, iv (x0_ % (1000 : Int32)), iv (x1_ % (1000 : Int32)), iv (x2_ % (1000 : Int32)), iv (x3_ % (1000 : Int32)), iv (x4_ % (1000 : Int32)), iv (x5_ % (1000 : Int32)), rv b1, rv b13, rv b18, rv b36, .unset, .unset, .unset, .unset] [(.ref b36), (.ref b13), (.ref b1), (.double (FP.l2d (0 : Int64)))]
  refine os (fun _ z => XS.aload X151.here hx rfl (hb hby at_137) rfl rfl z) ?_
  show OG p e below Φ T151 m 139 #[iv x0_, iv x1_, iv x2_, iv x3_, iv x4_, iv x5_, iv (x0_ % (1000 : Int32)), iv (x1_ % (1000 : Int32)), iv (x2_ % (1000 : Int32)), iv (x3_ % (1000 : Int32)), iv (x4_ % (1000 : Int32)), iv (x5_ % (1000 : Int32)), rv b1, rv b13, rv b18, rv b36, .unset, .unset, .unset, .unset] [(.ref b18), (.ref b36), (.ref b13), (.ref b1), (.double (FP.l2d (0 : Int64)))]
  obtain ⟨_, T166, L166, X166, hQ166, st166⟩ := own_callSt X151 hx hZ hown (ow85 hw) (ow86 hw) (ow87 hw) (ow88 hw) (by decide) (rof l Z a0 hw [] (FP.l2d (0 : Int64)) b1 c1 b13 b36 (2 : Int32) b86 cb86 b50 b97 b18 c18 ((x0_ % (1000 : Int32)).toInt64) ((x1_ % (1000 : Int32)).toInt64) ((x2_ % (1000 : Int32)).toInt64) ((x3_ % (1000 : Int32)).toInt64) ((x4_ % (1000 : Int32)).toInt64) ((x5_ % (1000 : Int32)).toInt64) T151.heap n0 Zs151 F154 F156 Eq151 Fm151 Fs151 Fe151 Vq151 F157 F161 F159 F163 (own_bdI x0_) (own_bdI x1_) (own_bdI x2_) (own_bdI x3_) (own_bdI x4_) (own_bdI x5_)) rfl (W := 0) (by decide) (by decide) (by decide) (by decide) (pc := 139) (ls := #[iv x0_, iv x1_, iv x2_, iv x3_, iv x4_, iv x5_, iv (x0_ % (1000 : Int32)), iv (x1_ % (1000 : Int32)), iv (x2_ % (1000 : Int32)), iv (x3_ % (1000 : Int32)), iv (x4_ % (1000 : Int32)), iv (x5_ % (1000 : Int32)), rv b1, rv b13, rv b18, rv b36, .unset, .unset, .unset, .unset]) (stk := [(.ref b18), (.ref b36), (.ref b13), (.ref b1), (.double (FP.l2d (0 : Int64)))]) (by rw [hml]; rfl) (argsL := [(.double (FP.l2d (0 : Int64))), (.ref b1), (.ref b13), (.ref b36), (.ref b18)]) (rest := []) (lenOf pd12 rfl) rfl rfl (Nat.le_of_eq rfl) (hb hby at_139)
  obtain ⟨ev166, rfl, Nq166, Kq166, Eq166, Fq166, Bq166, hz166⟩ := hQ166
  have nq166_b1 : b1 ≠ ev166 := Nat.ne_of_lt (Nat.lt_of_lt_of_le F154.lt hz166)
  have nq166_b13 : b13 ≠ ev166 := Nat.ne_of_lt (Nat.lt_of_lt_of_le F155.lt hz166)
  have nq166_b18 : b18 ≠ ev166 := Nat.ne_of_lt (Nat.lt_of_lt_of_le F156.lt hz166)
  have nq166_b36 : b36 ≠ ev166 := Nat.ne_of_lt (Nat.lt_of_lt_of_le Eq151.lt hz166)
  have nq166_b50 : b50 ≠ ev166 := Nat.ne_of_lt (Nat.lt_of_lt_of_le F157.lt hz166)
  have nq166_b86 : b86 ≠ ev166 := Nat.ne_of_lt (Nat.lt_of_lt_of_le Vq151.lt hz166)
  have nq166_b97 : b97 ≠ ev166 := Nat.ne_of_lt (Nat.lt_of_lt_of_le F161.lt hz166)
  have nq166_dz : dz ≠ ev166 := Nat.ne_of_lt (Nat.lt_of_lt_of_le F153.lt hz166)
  have gq166 : n0 ≤ ev166 := Nat.le_trans Zs151 hz166
  have N166 := Fr.app N151 Nq166
  have Zs166 : n0 ≤ T166.heap.size := Nat.le_trans Zs151 Kq166.1
  have F167 := F152.keep Kq166 all0
  have F168 := F153.keep Kq166 nin0
  have F169 := F154.keep Kq166 nin0
  have F170 := F155.keep Kq166 nin0
  have F171 := F156.keep Kq166 nin0
  have F172 := F157.keep Kq166
  have F173 := F158.keep Kq166 nin0
  have F174 := F159.keep Kq166 nin0
  have F175 := F160.keep Kq166 nin0
  have F176 := F161.keep Kq166
  have F177 := F162.keep Kq166 nin0
  have F178 := F163.keep Kq166 nin0
  have F179 := F164.keep Kq166 nin0
  have F180 := Eq151.keep Kq166
  have F181 := Fm151.keep Kq166 nin0
  have F182 := Fs151.keep Kq166 nin0
  have F183 := Fe151.keep Kq166 nin0
  have F184 := Vq151.keep Kq166 nin0
  have F185 := Ex151.keep Kq166
  have hA186 := CHr.keep Kq166 sf0 hC.1
  have sf_b1 := hA186.safe F154.lt sf_b1
  have sf_b13 := hA186.safe F155.lt sf_b13
  have sf_b18 := hA186.safe F156.lt sf_b18
  have sf_b36 := hA186.safe Eq151.lt sf_b36
  have sf_b50 := hA186.safe F157.lt sf_b50
  have sf_b97 := hA186.safe F161.lt sf_b97
  have hkk := Nat.le_trans hkk hA186.2.1
  have hC := hC.trans hA186
  refine os st166 ?_
  show OG p e below Φ T166 m 142 #[iv x0_, iv x1_, iv x2_, iv x3_, iv x4_, iv x5_, iv (x0_ % (1000 : Int32)), iv (x1_ % (1000 : Int32)), iv (x2_ % (1000 : Int32)), iv (x3_ % (1000 : Int32)), iv (x4_ % (1000 : Int32)), iv (x5_ % (1000 : Int32)), rv b1, rv b13, rv b18, rv b36, .unset, .unset, .unset, .unset] [(.ref ev166)]
  refine os (fun _ z => XS.astore X166.here hx rfl (hb hby at_142) rfl rfl (l' := #[iv x0_, iv x1_, iv x2_, iv x3_, iv x4_, iv x5_, iv (x0_ % (1000 : Int32)), iv (x1_ % (1000 : Int32)), iv (x2_ % (1000 : Int32)), iv (x3_ % (1000 : Int32)), iv (x4_ % (1000 : Int32)), iv (x5_ % (1000 : Int32)), rv b1, rv b13, rv b18, rv b36, rv ev166, .unset, .unset, .unset]) rfl z) ?_
  show OG p e below Φ T166 m 144 #[iv x0_, iv x1_, iv x2_, iv x3_, iv x4_, iv x5_, iv (x0_ % (1000 : Int32)), iv (x1_ % (1000 : Int32)), iv (x2_ % (1000 : Int32)), iv (x3_ % (1000 : Int32)), iv (x4_ % (1000 : Int32)), iv (x5_ % (1000 : Int32)), rv b1, rv b13, rv b18, rv b36, rv ev166, .unset, .unset, .unset] []
  refine os (fun _ z => XS.iload X166.here hx rfl (hb hby at_144) rfl z) ?_
  show OG p e below Φ T166 m 146 #[iv x0_, iv x1_, iv x2_, iv x3_, iv x4_, iv x5_, iv (x0_ % (1000 : Int32)), iv (x1_ % (1000 : Int32)), iv (x2_ % (1000 : Int32)), iv (x3_ % (1000 : Int32)), iv (x4_ % (1000 : Int32)), iv (x5_ % (1000 : Int32)), rv b1, rv b13, rv b18, rv b36, rv ev166, .unset, .unset, .unset] [(.int (x0_ % (1000 : Int32)))]
  refine os (fun _ z => XS.iload X166.here hx rfl (hb hby at_146) rfl z) ?_
  show OG p e below Φ T166 m 148 #[iv x0_, iv x1_, iv x2_, iv x3_, iv x4_, iv x5_, iv (x0_ % (1000 : Int32)), iv (x1_ % (1000 : Int32)), iv (x2_ % (1000 : Int32)), iv (x3_ % (1000 : Int32)), iv (x4_ % (1000 : Int32)), iv (x5_ % (1000 : Int32)), rv b1, rv b13, rv b18, rv b36, rv ev166, .unset, .unset, .unset] [(.int (x2_ % (1000 : Int32))), (.int (x0_ % (1000 : Int32)))]
  refine os (fun _ z => XS.isub X166.here hx rfl (hb hby at_148) rfl z) ?_
  show OG p e below Φ T166 m 149 #[iv x0_, iv x1_, iv x2_, iv x3_, iv x4_, iv x5_, iv (x0_ % (1000 : Int32)), iv (x1_ % (1000 : Int32)), iv (x2_ % (1000 : Int32)), iv (x3_ % (1000 : Int32)), iv (x4_ % (1000 : Int32)), iv (x5_ % (1000 : Int32)), rv b1, rv b13, rv b18, rv b36, rv ev166, .unset, .unset, .unset] [(.int ((x0_ % (1000 : Int32)) - (x2_ % (1000 : Int32))))]
  refine os (fun _ z => XS.iload X166.here hx rfl (hb hby at_149) rfl z) ?_
  show OG p e below Φ T166 m 151 #[iv x0_, iv x1_, iv x2_, iv x3_, iv x4_, iv x5_, iv (x0_ % (1000 : Int32)), iv (x1_ % (1000 : Int32)), iv (x2_ % (1000 : Int32)), iv (x3_ % (1000 : Int32)), iv (x4_ % (1000 : Int32)), iv (x5_ % (1000 : Int32)), rv b1, rv b13, rv b18, rv b36, rv ev166, .unset, .unset, .unset] [(.int (x4_ % (1000 : Int32))), (.int ((x0_ % (1000 : Int32)) - (x2_ % (1000 : Int32))))]
  by_cases hc187 : ((x0_ % (1000 : Int32)) - (x2_ % (1000 : Int32))) < (x4_ % (1000 : Int32))
  · refine os (fun _ z => XS.icmpYes X166.here hx rfl (pc0 := 151) (pc' := 158) rfl (hb hby at_151) rfl (XT.ii_lt_t hc187) (by decide) (by decide) z) ?_
    show OG p e below Φ T166 m 158 #[iv x0_, iv x1_, iv x2_, iv x3_, iv x4_, iv x5_, iv (x0_ % (1000 : Int32)), iv (x1_ % (1000 : Int32)), iv (x2_ % (1000 : Int32)), iv (x3_ % (1000 : Int32)), iv (x4_ % (1000 : Int32)), iv (x5_ % (1000 : Int32)), rv b1, rv b13, rv b18, rv b36, rv ev166, .unset, .unset, .unset] []
    refine os (fun _ z => XS.iconst X166.here hx rfl (hb hby at_158) z) ?_
    show OG p e below Φ T166 m 159 #[iv x0_, iv x1_, iv x2_, iv x3_, iv x4_, iv x5_, iv (x0_ % (1000 : Int32)), iv (x1_ % (1000 : Int32)), iv (x2_ % (1000 : Int32)), iv (x3_ % (1000 : Int32)), iv (x4_ % (1000 : Int32)), iv (x5_ % (1000 : Int32)), rv b1, rv b13, rv b18, rv b36, rv ev166, .unset, .unset, .unset] [(.int 0)]
    refine os (fun _ z => XS.istore X166.here hx rfl (hb hby at_159) rfl (l' := #[iv x0_, iv x1_, iv x2_, iv x3_, iv x4_, iv x5_, iv (x0_ % (1000 : Int32)), iv (x1_ % (1000 : Int32)), iv (x2_ % (1000 : Int32)), iv (x3_ % (1000 : Int32)), iv (x4_ % (1000 : Int32)), iv (x5_ % (1000 : Int32)), rv b1, rv b13, rv b18, rv b36, rv ev166, iv 0, .unset, .unset]) rfl z) ?_
    show OG p e below Φ T166 m 161 #[iv x0_, iv x1_, iv x2_, iv x3_, iv x4_, iv x5_, iv (x0_ % (1000 : Int32)), iv (x1_ % (1000 : Int32)), iv (x2_ % (1000 : Int32)), iv (x3_ % (1000 : Int32)), iv (x4_ % (1000 : Int32)), iv (x5_ % (1000 : Int32)), rv b1, rv b13, rv b18, rv b36, rv ev166, iv 0, .unset, .unset] []
    refine os (fun _ z => XS.iload X166.here hx rfl (hb hby at_161) rfl z) ?_
    show OG p e below Φ T166 m 163 #[iv x0_, iv x1_, iv x2_, iv x3_, iv x4_, iv x5_, iv (x0_ % (1000 : Int32)), iv (x1_ % (1000 : Int32)), iv (x2_ % (1000 : Int32)), iv (x3_ % (1000 : Int32)), iv (x4_ % (1000 : Int32)), iv (x5_ % (1000 : Int32)), rv b1, rv b13, rv b18, rv b36, rv ev166, iv 0, .unset, .unset] [(.int (x1_ % (1000 : Int32)))]
    refine os (fun _ z => XS.iload X166.here hx rfl (hb hby at_163) rfl z) ?_
    show OG p e below Φ T166 m 165 #[iv x0_, iv x1_, iv x2_, iv x3_, iv x4_, iv x5_, iv (x0_ % (1000 : Int32)), iv (x1_ % (1000 : Int32)), iv (x2_ % (1000 : Int32)), iv (x3_ % (1000 : Int32)), iv (x4_ % (1000 : Int32)), iv (x5_ % (1000 : Int32)), rv b1, rv b13, rv b18, rv b36, rv ev166, iv 0, .unset, .unset] [(.int (x3_ % (1000 : Int32))), (.int (x1_ % (1000 : Int32)))]
    refine os (fun _ z => XS.isub X166.here hx rfl (hb hby at_165) rfl z) ?_
    show OG p e below Φ T166 m 166 #[iv x0_, iv x1_, iv x2_, iv x3_, iv x4_, iv x5_, iv (x0_ % (1000 : Int32)), iv (x1_ % (1000 : Int32)), iv (x2_ % (1000 : Int32)), iv (x3_ % (1000 : Int32)), iv (x4_ % (1000 : Int32)), iv (x5_ % (1000 : Int32)), rv b1, rv b13, rv b18, rv b36, rv ev166, iv 0, .unset, .unset] [(.int ((x1_ % (1000 : Int32)) - (x3_ % (1000 : Int32))))]
    refine os (fun _ z => XS.iload X166.here hx rfl (hb hby at_166) rfl z) ?_
    show OG p e below Φ T166 m 168 #[iv x0_, iv x1_, iv x2_, iv x3_, iv x4_, iv x5_, iv (x0_ % (1000 : Int32)), iv (x1_ % (1000 : Int32)), iv (x2_ % (1000 : Int32)), iv (x3_ % (1000 : Int32)), iv (x4_ % (1000 : Int32)), iv (x5_ % (1000 : Int32)), rv b1, rv b13, rv b18, rv b36, rv ev166, iv 0, .unset, .unset] [(.int (x5_ % (1000 : Int32))), (.int ((x1_ % (1000 : Int32)) - (x3_ % (1000 : Int32))))]
    by_cases hc188 : ((x1_ % (1000 : Int32)) - (x3_ % (1000 : Int32))) < (x5_ % (1000 : Int32))
    · refine os (fun _ z => XS.icmpYes X166.here hx rfl (pc0 := 168) (pc' := 175) rfl (hb hby at_168) rfl (XT.ii_lt_t hc188) (by decide) (by decide) z) ?_
      show OG p e below Φ T166 m 175 #[iv x0_, iv x1_, iv x2_, iv x3_, iv x4_, iv x5_, iv (x0_ % (1000 : Int32)), iv (x1_ % (1000 : Int32)), iv (x2_ % (1000 : Int32)), iv (x3_ % (1000 : Int32)), iv (x4_ % (1000 : Int32)), iv (x5_ % (1000 : Int32)), rv b1, rv b13, rv b18, rv b36, rv ev166, iv 0, .unset, .unset] []
      refine os (fun _ z => XS.iconst X166.here hx rfl (hb hby at_175) z) ?_
      show OG p e below Φ T166 m 176 #[iv x0_, iv x1_, iv x2_, iv x3_, iv x4_, iv x5_, iv (x0_ % (1000 : Int32)), iv (x1_ % (1000 : Int32)), iv (x2_ % (1000 : Int32)), iv (x3_ % (1000 : Int32)), iv (x4_ % (1000 : Int32)), iv (x5_ % (1000 : Int32)), rv b1, rv b13, rv b18, rv b36, rv ev166, iv 0, .unset, .unset] [(.int 0)]
      refine os (fun _ z => XS.istore X166.here hx rfl (hb hby at_176) rfl (l' := #[iv x0_, iv x1_, iv x2_, iv x3_, iv x4_, iv x5_, iv (x0_ % (1000 : Int32)), iv (x1_ % (1000 : Int32)), iv (x2_ % (1000 : Int32)), iv (x3_ % (1000 : Int32)), iv (x4_ % (1000 : Int32)), iv (x5_ % (1000 : Int32)), rv b1, rv b13, rv b18, rv b36, rv ev166, iv 0, iv 0, .unset]) rfl z) ?_
      show OG p e below Φ T166 m 178 #[iv x0_, iv x1_, iv x2_, iv x3_, iv x4_, iv x5_, iv (x0_ % (1000 : Int32)), iv (x1_ % (1000 : Int32)), iv (x2_ % (1000 : Int32)), iv (x3_ % (1000 : Int32)), iv (x4_ % (1000 : Int32)), iv (x5_ % (1000 : Int32)), rv b1, rv b13, rv b18, rv b36, rv ev166, iv 0, iv 0, .unset] []
      refine os (fun _ z => XS.iload X166.here hx rfl (hb hby at_178) rfl z) ?_
      show OG p e below Φ T166 m 180 #[iv x0_, iv x1_, iv x2_, iv x3_, iv x4_, iv x5_, iv (x0_ % (1000 : Int32)), iv (x1_ % (1000 : Int32)), iv (x2_ % (1000 : Int32)), iv (x3_ % (1000 : Int32)), iv (x4_ % (1000 : Int32)), iv (x5_ % (1000 : Int32)), rv b1, rv b13, rv b18, rv b36, rv ev166, iv 0, iv 0, .unset] [(.int 0)]
      refine os (fun _ z => XS.ifYes X166.here hx rfl (pc0 := 180) (pc' := 192) rfl (hb hby at_180) rfl (XT.i0_eq_t (by decide)) (by decide) (by decide) z) ?_
      show OG p e below Φ T166 m 192 #[iv x0_, iv x1_, iv x2_, iv x3_, iv x4_, iv x5_, iv (x0_ % (1000 : Int32)), iv (x1_ % (1000 : Int32)), iv (x2_ % (1000 : Int32)), iv (x3_ % (1000 : Int32)), iv (x4_ % (1000 : Int32)), iv (x5_ % (1000 : Int32)), rv b1, rv b13, rv b18, rv b36, rv ev166, iv 0, iv 0, .unset] []
      refine os (fun _ z => XS.iconst X166.here hx rfl (hb hby at_192) z) ?_
      show OG p e below Φ T166 m 193 #[iv x0_, iv x1_, iv x2_, iv x3_, iv x4_, iv x5_, iv (x0_ % (1000 : Int32)), iv (x1_ % (1000 : Int32)), iv (x2_ % (1000 : Int32)), iv (x3_ % (1000 : Int32)), iv (x4_ % (1000 : Int32)), iv (x5_ % (1000 : Int32)), rv b1, rv b13, rv b18, rv b36, rv ev166, iv 0, iv 0, .unset] [(.int 0)]
      refine os (fun _ z => XS.istore X166.here hx rfl (hb hby at_193) rfl (l' := #[iv x0_, iv x1_, iv x2_, iv x3_, iv x4_, iv x5_, iv (x0_ % (1000 : Int32)), iv (x1_ % (1000 : Int32)), iv (x2_ % (1000 : Int32)), iv (x3_ % (1000 : Int32)), iv (x4_ % (1000 : Int32)), iv (x5_ % (1000 : Int32)), rv b1, rv b13, rv b18, rv b36, rv ev166, iv 0, iv 0, iv 0]) rfl z) ?_
      show OG p e below Φ T166 m 195 #[iv x0_, iv x1_, iv x2_, iv x3_, iv x4_, iv x5_, iv (x0_ % (1000 : Int32)), iv (x1_ % (1000 : Int32)), iv (x2_ % (1000 : Int32)), iv (x3_ % (1000 : Int32)), iv (x4_ % (1000 : Int32)), iv (x5_ % (1000 : Int32)), rv b1, rv b13, rv b18, rv b36, rv ev166, iv 0, iv 0, iv 0] []
      refine os (fun _ z => XS.aload X166.here hx rfl (hb hby at_195) rfl rfl z) ?_
      show OG p e below Φ T166 m 197 #[iv x0_, iv x1_, iv x2_, iv x3_, iv x4_, iv x5_, iv (x0_ % (1000 : Int32)), iv (x1_ % (1000 : Int32)), iv (x2_ % (1000 : Int32)), iv (x3_ % (1000 : Int32)), iv (x4_ % (1000 : Int32)), iv (x5_ % (1000 : Int32)), rv b1, rv b13, rv b18, rv b36, rv ev166, iv 0, iv 0, iv 0] [(.ref ev166)]
      obtain ⟨_, T189, L189, X189, hQ189, st189⟩ := own_callVi X166 hx hZ hown (ow141 hw) (ow142 hw) (notFace_of_selects (args := #[]) (mvT hZ (ow144 hw))) (ow144 hw) (ow143 hw) (ow87 hw) (ow145 hw) (by decide) (rfe l Z a0 hw [] ev166 (own_def ((x0_ % (1000 : Int32)).toInt64) ((x2_ % (1000 : Int32)).toInt64) ((x4_ % (1000 : Int32)).toInt64) ((x1_ % (1000 : Int32)).toInt64) ((x3_ % (1000 : Int32)).toInt64) ((x5_ % (1000 : Int32)).toInt64)) T166.heap n0 Zs166 Fq166 Bq166) rfl (W := 0) (by decide) (by decide) (by decide) (by decide) Eq166 (pc := 197) (ls := #[iv x0_, iv x1_, iv x2_, iv x3_, iv x4_, iv x5_, iv (x0_ % (1000 : Int32)), iv (x1_ % (1000 : Int32)), iv (x2_ % (1000 : Int32)), iv (x3_ % (1000 : Int32)), iv (x4_ % (1000 : Int32)), iv (x5_ % (1000 : Int32)), rv b1, rv b13, rv b18, rv b36, rv ev166, iv 0, iv 0, iv 0]) (stk := [(.ref ev166)]) (by rw [hml]; rfl) (argsL := []) (rest := []) (lenOf pd13 rfl) rfl rfl (Nat.le_of_eq rfl) (hb hby at_197)
      obtain ⟨rfl, Nq189, e189⟩ := hQ189
      have N189 := Fr.app N166 Nq189
      refine os st189 ?_
      show OG p e below Φ T189 m 200 #[iv x0_, iv x1_, iv x2_, iv x3_, iv x4_, iv x5_, iv (x0_ % (1000 : Int32)), iv (x1_ % (1000 : Int32)), iv (x2_ % (1000 : Int32)), iv (x3_ % (1000 : Int32)), iv (x4_ % (1000 : Int32)), iv (x5_ % (1000 : Int32)), rv b1, rv b13, rv b18, rv b36, rv ev166, iv 0, iv 0, iv 0] [(.int (own_f (own_def ((x0_ % (1000 : Int32)).toInt64) ((x2_ % (1000 : Int32)).toInt64) ((x4_ % (1000 : Int32)).toInt64) ((x1_ % (1000 : Int32)).toInt64) ((x3_ % (1000 : Int32)).toInt64) ((x5_ % (1000 : Int32)).toInt64))))]
      refine os (fun _ z => XS.iload X189.here hx rfl (hb hby at_200) rfl z) ?_
      show OG p e below Φ T189 m 202 #[iv x0_, iv x1_, iv x2_, iv x3_, iv x4_, iv x5_, iv (x0_ % (1000 : Int32)), iv (x1_ % (1000 : Int32)), iv (x2_ % (1000 : Int32)), iv (x3_ % (1000 : Int32)), iv (x4_ % (1000 : Int32)), iv (x5_ % (1000 : Int32)), rv b1, rv b13, rv b18, rv b36, rv ev166, iv 0, iv 0, iv 0] [(.int 0), (.int (own_f (own_def ((x0_ % (1000 : Int32)).toInt64) ((x2_ % (1000 : Int32)).toInt64) ((x4_ % (1000 : Int32)).toInt64) ((x1_ % (1000 : Int32)).toInt64) ((x3_ % (1000 : Int32)).toInt64) ((x5_ % (1000 : Int32)).toInt64))))]
      by_cases hc190 : (own_f (own_def ((x0_ % (1000 : Int32)).toInt64) ((x2_ % (1000 : Int32)).toInt64) ((x4_ % (1000 : Int32)).toInt64) ((x1_ % (1000 : Int32)).toInt64) ((x3_ % (1000 : Int32)).toInt64) ((x5_ % (1000 : Int32)).toInt64))) = (0 : Int32)
      · refine os (fun _ z => XS.icmpNo X189.here hx rfl (hb hby at_202) rfl (XT.ii_ne_f hc190) z) ?_
        show OG p e below Φ T189 m 205 #[iv x0_, iv x1_, iv x2_, iv x3_, iv x4_, iv x5_, iv (x0_ % (1000 : Int32)), iv (x1_ % (1000 : Int32)), iv (x2_ % (1000 : Int32)), iv (x3_ % (1000 : Int32)), iv (x4_ % (1000 : Int32)), iv (x5_ % (1000 : Int32)), rv b1, rv b13, rv b18, rv b36, rv ev166, iv 0, iv 0, iv 0] []
        refine os (fun _ z => XS.iconst X189.here hx rfl (hb hby at_205) z) ?_
        show OG p e below Φ T189 m 206 #[iv x0_, iv x1_, iv x2_, iv x3_, iv x4_, iv x5_, iv (x0_ % (1000 : Int32)), iv (x1_ % (1000 : Int32)), iv (x2_ % (1000 : Int32)), iv (x3_ % (1000 : Int32)), iv (x4_ % (1000 : Int32)), iv (x5_ % (1000 : Int32)), rv b1, rv b13, rv b18, rv b36, rv ev166, iv 0, iv 0, iv 0] [(.int 1)]
        refine os (fun _ z => XS.goto X189.here hx rfl (pc0 := 206) (pc' := 210) rfl (hb hby at_206) (by decide) (by decide) z) ?_
        show OG p e below Φ T189 m 210 #[iv x0_, iv x1_, iv x2_, iv x3_, iv x4_, iv x5_, iv (x0_ % (1000 : Int32)), iv (x1_ % (1000 : Int32)), iv (x2_ % (1000 : Int32)), iv (x3_ % (1000 : Int32)), iv (x4_ % (1000 : Int32)), iv (x5_ % (1000 : Int32)), rv b1, rv b13, rv b18, rv b36, rv ev166, iv 0, iv 0, iv 0] [(.int 1)]
        refine OGo.finW X189 hlk hS e189 hkk (v := (some (.int 1))) (fun h => by rw [hret] at h; cases h) (by decide) (by decide) hZ (own_EW hw) hC (fun fs hr => X189.ireturnOut hx hret rfl (by simp) (hb hby at_210) hr) fun U eU hc hF => hΦ _ _ _ ?_ hc hF
        rw [eU]
        show Q_rm0 Z x0_ x1_ x2_ x3_ x4_ x5_ dz cz h0 n0 _ _ _
        exact ⟨rfl, N189⟩
      · refine os (fun _ z => XS.icmpYes X189.here hx rfl (pc0 := 202) (pc' := 209) rfl (hb hby at_202) rfl (XT.ii_ne_t hc190) (by decide) (by decide) z) ?_
        show OG p e below Φ T189 m 209 #[iv x0_, iv x1_, iv x2_, iv x3_, iv x4_, iv x5_, iv (x0_ % (1000 : Int32)), iv (x1_ % (1000 : Int32)), iv (x2_ % (1000 : Int32)), iv (x3_ % (1000 : Int32)), iv (x4_ % (1000 : Int32)), iv (x5_ % (1000 : Int32)), rv b1, rv b13, rv b18, rv b36, rv ev166, iv 0, iv 0, iv 0] []
        refine os (fun _ z => XS.iconst X189.here hx rfl (hb hby at_209) z) ?_
        show OG p e below Φ T189 m 210 #[iv x0_, iv x1_, iv x2_, iv x3_, iv x4_, iv x5_, iv (x0_ % (1000 : Int32)), iv (x1_ % (1000 : Int32)), iv (x2_ % (1000 : Int32)), iv (x3_ % (1000 : Int32)), iv (x4_ % (1000 : Int32)), iv (x5_ % (1000 : Int32)), rv b1, rv b13, rv b18, rv b36, rv ev166, iv 0, iv 0, iv 0] [(.int 0)]
        exact absurd (by rw [own_lawR]; simp only [hc187, hc188, if_true, if_false]) hc190
    · refine os (fun _ z => XS.icmpNo X166.here hx rfl (hb hby at_168) rfl (XT.ii_lt_f hc188) z) ?_
      show OG p e below Φ T166 m 171 #[iv x0_, iv x1_, iv x2_, iv x3_, iv x4_, iv x5_, iv (x0_ % (1000 : Int32)), iv (x1_ % (1000 : Int32)), iv (x2_ % (1000 : Int32)), iv (x3_ % (1000 : Int32)), iv (x4_ % (1000 : Int32)), iv (x5_ % (1000 : Int32)), rv b1, rv b13, rv b18, rv b36, rv ev166, iv 0, .unset, .unset] []
      refine os (fun _ z => XS.iconst X166.here hx rfl (hb hby at_171) z) ?_
      show OG p e below Φ T166 m 172 #[iv x0_, iv x1_, iv x2_, iv x3_, iv x4_, iv x5_, iv (x0_ % (1000 : Int32)), iv (x1_ % (1000 : Int32)), iv (x2_ % (1000 : Int32)), iv (x3_ % (1000 : Int32)), iv (x4_ % (1000 : Int32)), iv (x5_ % (1000 : Int32)), rv b1, rv b13, rv b18, rv b36, rv ev166, iv 0, .unset, .unset] [(.int 1)]
      refine os (fun _ z => XS.goto X166.here hx rfl (pc0 := 172) (pc' := 176) rfl (hb hby at_172) (by decide) (by decide) z) ?_
      show OG p e below Φ T166 m 176 #[iv x0_, iv x1_, iv x2_, iv x3_, iv x4_, iv x5_, iv (x0_ % (1000 : Int32)), iv (x1_ % (1000 : Int32)), iv (x2_ % (1000 : Int32)), iv (x3_ % (1000 : Int32)), iv (x4_ % (1000 : Int32)), iv (x5_ % (1000 : Int32)), rv b1, rv b13, rv b18, rv b36, rv ev166, iv 0, .unset, .unset] [(.int 1)]
      refine os (fun _ z => XS.istore X166.here hx rfl (hb hby at_176) rfl (l' := #[iv x0_, iv x1_, iv x2_, iv x3_, iv x4_, iv x5_, iv (x0_ % (1000 : Int32)), iv (x1_ % (1000 : Int32)), iv (x2_ % (1000 : Int32)), iv (x3_ % (1000 : Int32)), iv (x4_ % (1000 : Int32)), iv (x5_ % (1000 : Int32)), rv b1, rv b13, rv b18, rv b36, rv ev166, iv 0, iv 1, .unset]) rfl z) ?_
      show OG p e below Φ T166 m 178 #[iv x0_, iv x1_, iv x2_, iv x3_, iv x4_, iv x5_, iv (x0_ % (1000 : Int32)), iv (x1_ % (1000 : Int32)), iv (x2_ % (1000 : Int32)), iv (x3_ % (1000 : Int32)), iv (x4_ % (1000 : Int32)), iv (x5_ % (1000 : Int32)), rv b1, rv b13, rv b18, rv b36, rv ev166, iv 0, iv 1, .unset] []
      refine os (fun _ z => XS.iload X166.here hx rfl (hb hby at_178) rfl z) ?_
      show OG p e below Φ T166 m 180 #[iv x0_, iv x1_, iv x2_, iv x3_, iv x4_, iv x5_, iv (x0_ % (1000 : Int32)), iv (x1_ % (1000 : Int32)), iv (x2_ % (1000 : Int32)), iv (x3_ % (1000 : Int32)), iv (x4_ % (1000 : Int32)), iv (x5_ % (1000 : Int32)), rv b1, rv b13, rv b18, rv b36, rv ev166, iv 0, iv 1, .unset] [(.int 0)]
      refine os (fun _ z => XS.ifYes X166.here hx rfl (pc0 := 180) (pc' := 192) rfl (hb hby at_180) rfl (XT.i0_eq_t (by decide)) (by decide) (by decide) z) ?_
      show OG p e below Φ T166 m 192 #[iv x0_, iv x1_, iv x2_, iv x3_, iv x4_, iv x5_, iv (x0_ % (1000 : Int32)), iv (x1_ % (1000 : Int32)), iv (x2_ % (1000 : Int32)), iv (x3_ % (1000 : Int32)), iv (x4_ % (1000 : Int32)), iv (x5_ % (1000 : Int32)), rv b1, rv b13, rv b18, rv b36, rv ev166, iv 0, iv 1, .unset] []
      refine os (fun _ z => XS.iconst X166.here hx rfl (hb hby at_192) z) ?_
      show OG p e below Φ T166 m 193 #[iv x0_, iv x1_, iv x2_, iv x3_, iv x4_, iv x5_, iv (x0_ % (1000 : Int32)), iv (x1_ % (1000 : Int32)), iv (x2_ % (1000 : Int32)), iv (x3_ % (1000 : Int32)), iv (x4_ % (1000 : Int32)), iv (x5_ % (1000 : Int32)), rv b1, rv b13, rv b18, rv b36, rv ev166, iv 0, iv 1, .unset] [(.int 0)]
      refine os (fun _ z => XS.istore X166.here hx rfl (hb hby at_193) rfl (l' := #[iv x0_, iv x1_, iv x2_, iv x3_, iv x4_, iv x5_, iv (x0_ % (1000 : Int32)), iv (x1_ % (1000 : Int32)), iv (x2_ % (1000 : Int32)), iv (x3_ % (1000 : Int32)), iv (x4_ % (1000 : Int32)), iv (x5_ % (1000 : Int32)), rv b1, rv b13, rv b18, rv b36, rv ev166, iv 0, iv 1, iv 0]) rfl z) ?_
      show OG p e below Φ T166 m 195 #[iv x0_, iv x1_, iv x2_, iv x3_, iv x4_, iv x5_, iv (x0_ % (1000 : Int32)), iv (x1_ % (1000 : Int32)), iv (x2_ % (1000 : Int32)), iv (x3_ % (1000 : Int32)), iv (x4_ % (1000 : Int32)), iv (x5_ % (1000 : Int32)), rv b1, rv b13, rv b18, rv b36, rv ev166, iv 0, iv 1, iv 0] []
      refine os (fun _ z => XS.aload X166.here hx rfl (hb hby at_195) rfl rfl z) ?_
      show OG p e below Φ T166 m 197 #[iv x0_, iv x1_, iv x2_, iv x3_, iv x4_, iv x5_, iv (x0_ % (1000 : Int32)), iv (x1_ % (1000 : Int32)), iv (x2_ % (1000 : Int32)), iv (x3_ % (1000 : Int32)), iv (x4_ % (1000 : Int32)), iv (x5_ % (1000 : Int32)), rv b1, rv b13, rv b18, rv b36, rv ev166, iv 0, iv 1, iv 0] [(.ref ev166)]
      obtain ⟨_, T191, L191, X191, hQ191, st191⟩ := own_callVi X166 hx hZ hown (ow141 hw) (ow142 hw) (notFace_of_selects (args := #[]) (mvT hZ (ow144 hw))) (ow144 hw) (ow143 hw) (ow87 hw) (ow145 hw) (by decide) (rfe l Z a0 hw [] ev166 (own_def ((x0_ % (1000 : Int32)).toInt64) ((x2_ % (1000 : Int32)).toInt64) ((x4_ % (1000 : Int32)).toInt64) ((x1_ % (1000 : Int32)).toInt64) ((x3_ % (1000 : Int32)).toInt64) ((x5_ % (1000 : Int32)).toInt64)) T166.heap n0 Zs166 Fq166 Bq166) rfl (W := 0) (by decide) (by decide) (by decide) (by decide) Eq166 (pc := 197) (ls := #[iv x0_, iv x1_, iv x2_, iv x3_, iv x4_, iv x5_, iv (x0_ % (1000 : Int32)), iv (x1_ % (1000 : Int32)), iv (x2_ % (1000 : Int32)), iv (x3_ % (1000 : Int32)), iv (x4_ % (1000 : Int32)), iv (x5_ % (1000 : Int32)), rv b1, rv b13, rv b18, rv b36, rv ev166, iv 0, iv 1, iv 0]) (stk := [(.ref ev166)]) (by rw [hml]; rfl) (argsL := []) (rest := []) (lenOf pd13 rfl) rfl rfl (Nat.le_of_eq rfl) (hb hby at_197)
      obtain ⟨rfl, Nq191, e191⟩ := hQ191
      have N191 := Fr.app N166 Nq191
      refine os st191 ?_
      show OG p e below Φ T191 m 200 #[iv x0_, iv x1_, iv x2_, iv x3_, iv x4_, iv x5_, iv (x0_ % (1000 : Int32)), iv (x1_ % (1000 : Int32)), iv (x2_ % (1000 : Int32)), iv (x3_ % (1000 : Int32)), iv (x4_ % (1000 : Int32)), iv (x5_ % (1000 : Int32)), rv b1, rv b13, rv b18, rv b36, rv ev166, iv 0, iv 1, iv 0] [(.int (own_f (own_def ((x0_ % (1000 : Int32)).toInt64) ((x2_ % (1000 : Int32)).toInt64) ((x4_ % (1000 : Int32)).toInt64) ((x1_ % (1000 : Int32)).toInt64) ((x3_ % (1000 : Int32)).toInt64) ((x5_ % (1000 : Int32)).toInt64))))]
      refine os (fun _ z => XS.iload X191.here hx rfl (hb hby at_200) rfl z) ?_
      show OG p e below Φ T191 m 202 #[iv x0_, iv x1_, iv x2_, iv x3_, iv x4_, iv x5_, iv (x0_ % (1000 : Int32)), iv (x1_ % (1000 : Int32)), iv (x2_ % (1000 : Int32)), iv (x3_ % (1000 : Int32)), iv (x4_ % (1000 : Int32)), iv (x5_ % (1000 : Int32)), rv b1, rv b13, rv b18, rv b36, rv ev166, iv 0, iv 1, iv 0] [(.int 0), (.int (own_f (own_def ((x0_ % (1000 : Int32)).toInt64) ((x2_ % (1000 : Int32)).toInt64) ((x4_ % (1000 : Int32)).toInt64) ((x1_ % (1000 : Int32)).toInt64) ((x3_ % (1000 : Int32)).toInt64) ((x5_ % (1000 : Int32)).toInt64))))]
      by_cases hc192 : (own_f (own_def ((x0_ % (1000 : Int32)).toInt64) ((x2_ % (1000 : Int32)).toInt64) ((x4_ % (1000 : Int32)).toInt64) ((x1_ % (1000 : Int32)).toInt64) ((x3_ % (1000 : Int32)).toInt64) ((x5_ % (1000 : Int32)).toInt64))) = (0 : Int32)
      · refine os (fun _ z => XS.icmpNo X191.here hx rfl (hb hby at_202) rfl (XT.ii_ne_f hc192) z) ?_
        show OG p e below Φ T191 m 205 #[iv x0_, iv x1_, iv x2_, iv x3_, iv x4_, iv x5_, iv (x0_ % (1000 : Int32)), iv (x1_ % (1000 : Int32)), iv (x2_ % (1000 : Int32)), iv (x3_ % (1000 : Int32)), iv (x4_ % (1000 : Int32)), iv (x5_ % (1000 : Int32)), rv b1, rv b13, rv b18, rv b36, rv ev166, iv 0, iv 1, iv 0] []
        refine os (fun _ z => XS.iconst X191.here hx rfl (hb hby at_205) z) ?_
        show OG p e below Φ T191 m 206 #[iv x0_, iv x1_, iv x2_, iv x3_, iv x4_, iv x5_, iv (x0_ % (1000 : Int32)), iv (x1_ % (1000 : Int32)), iv (x2_ % (1000 : Int32)), iv (x3_ % (1000 : Int32)), iv (x4_ % (1000 : Int32)), iv (x5_ % (1000 : Int32)), rv b1, rv b13, rv b18, rv b36, rv ev166, iv 0, iv 1, iv 0] [(.int 1)]
        refine os (fun _ z => XS.goto X191.here hx rfl (pc0 := 206) (pc' := 210) rfl (hb hby at_206) (by decide) (by decide) z) ?_
        show OG p e below Φ T191 m 210 #[iv x0_, iv x1_, iv x2_, iv x3_, iv x4_, iv x5_, iv (x0_ % (1000 : Int32)), iv (x1_ % (1000 : Int32)), iv (x2_ % (1000 : Int32)), iv (x3_ % (1000 : Int32)), iv (x4_ % (1000 : Int32)), iv (x5_ % (1000 : Int32)), rv b1, rv b13, rv b18, rv b36, rv ev166, iv 0, iv 1, iv 0] [(.int 1)]
        refine OGo.finW X191 hlk hS e191 hkk (v := (some (.int 1))) (fun h => by rw [hret] at h; cases h) (by decide) (by decide) hZ (own_EW hw) hC (fun fs hr => X191.ireturnOut hx hret rfl (by simp) (hb hby at_210) hr) fun U eU hc hF => hΦ _ _ _ ?_ hc hF
        rw [eU]
        show Q_rm0 Z x0_ x1_ x2_ x3_ x4_ x5_ dz cz h0 n0 _ _ _
        exact ⟨rfl, N191⟩
      · refine os (fun _ z => XS.icmpYes X191.here hx rfl (pc0 := 202) (pc' := 209) rfl (hb hby at_202) rfl (XT.ii_ne_t hc192) (by decide) (by decide) z) ?_
        show OG p e below Φ T191 m 209 #[iv x0_, iv x1_, iv x2_, iv x3_, iv x4_, iv x5_, iv (x0_ % (1000 : Int32)), iv (x1_ % (1000 : Int32)), iv (x2_ % (1000 : Int32)), iv (x3_ % (1000 : Int32)), iv (x4_ % (1000 : Int32)), iv (x5_ % (1000 : Int32)), rv b1, rv b13, rv b18, rv b36, rv ev166, iv 0, iv 1, iv 0] []
        refine os (fun _ z => XS.iconst X191.here hx rfl (hb hby at_209) z) ?_
        show OG p e below Φ T191 m 210 #[iv x0_, iv x1_, iv x2_, iv x3_, iv x4_, iv x5_, iv (x0_ % (1000 : Int32)), iv (x1_ % (1000 : Int32)), iv (x2_ % (1000 : Int32)), iv (x3_ % (1000 : Int32)), iv (x4_ % (1000 : Int32)), iv (x5_ % (1000 : Int32)), rv b1, rv b13, rv b18, rv b36, rv ev166, iv 0, iv 1, iv 0] [(.int 0)]
        exact absurd (by rw [own_lawR]; simp only [hc187, hc188, if_true, if_false]) hc192
  · refine os (fun _ z => XS.icmpNo X166.here hx rfl (hb hby at_151) rfl (XT.ii_lt_f hc187) z) ?_
    show OG p e below Φ T166 m 154 #[iv x0_, iv x1_, iv x2_, iv x3_, iv x4_, iv x5_, iv (x0_ % (1000 : Int32)), iv (x1_ % (1000 : Int32)), iv (x2_ % (1000 : Int32)), iv (x3_ % (1000 : Int32)), iv (x4_ % (1000 : Int32)), iv (x5_ % (1000 : Int32)), rv b1, rv b13, rv b18, rv b36, rv ev166, .unset, .unset, .unset] []
    refine os (fun _ z => XS.iconst X166.here hx rfl (hb hby at_154) z) ?_
    show OG p e below Φ T166 m 155 #[iv x0_, iv x1_, iv x2_, iv x3_, iv x4_, iv x5_, iv (x0_ % (1000 : Int32)), iv (x1_ % (1000 : Int32)), iv (x2_ % (1000 : Int32)), iv (x3_ % (1000 : Int32)), iv (x4_ % (1000 : Int32)), iv (x5_ % (1000 : Int32)), rv b1, rv b13, rv b18, rv b36, rv ev166, .unset, .unset, .unset] [(.int 1)]
    refine os (fun _ z => XS.goto X166.here hx rfl (pc0 := 155) (pc' := 159) rfl (hb hby at_155) (by decide) (by decide) z) ?_
    show OG p e below Φ T166 m 159 #[iv x0_, iv x1_, iv x2_, iv x3_, iv x4_, iv x5_, iv (x0_ % (1000 : Int32)), iv (x1_ % (1000 : Int32)), iv (x2_ % (1000 : Int32)), iv (x3_ % (1000 : Int32)), iv (x4_ % (1000 : Int32)), iv (x5_ % (1000 : Int32)), rv b1, rv b13, rv b18, rv b36, rv ev166, .unset, .unset, .unset] [(.int 1)]
    refine os (fun _ z => XS.istore X166.here hx rfl (hb hby at_159) rfl (l' := #[iv x0_, iv x1_, iv x2_, iv x3_, iv x4_, iv x5_, iv (x0_ % (1000 : Int32)), iv (x1_ % (1000 : Int32)), iv (x2_ % (1000 : Int32)), iv (x3_ % (1000 : Int32)), iv (x4_ % (1000 : Int32)), iv (x5_ % (1000 : Int32)), rv b1, rv b13, rv b18, rv b36, rv ev166, iv 1, .unset, .unset]) rfl z) ?_
    show OG p e below Φ T166 m 161 #[iv x0_, iv x1_, iv x2_, iv x3_, iv x4_, iv x5_, iv (x0_ % (1000 : Int32)), iv (x1_ % (1000 : Int32)), iv (x2_ % (1000 : Int32)), iv (x3_ % (1000 : Int32)), iv (x4_ % (1000 : Int32)), iv (x5_ % (1000 : Int32)), rv b1, rv b13, rv b18, rv b36, rv ev166, iv 1, .unset, .unset] []
    refine os (fun _ z => XS.iload X166.here hx rfl (hb hby at_161) rfl z) ?_
    show OG p e below Φ T166 m 163 #[iv x0_, iv x1_, iv x2_, iv x3_, iv x4_, iv x5_, iv (x0_ % (1000 : Int32)), iv (x1_ % (1000 : Int32)), iv (x2_ % (1000 : Int32)), iv (x3_ % (1000 : Int32)), iv (x4_ % (1000 : Int32)), iv (x5_ % (1000 : Int32)), rv b1, rv b13, rv b18, rv b36, rv ev166, iv 1, .unset, .unset] [(.int (x1_ % (1000 : Int32)))]
    refine os (fun _ z => XS.iload X166.here hx rfl (hb hby at_163) rfl z) ?_
    show OG p e below Φ T166 m 165 #[iv x0_, iv x1_, iv x2_, iv x3_, iv x4_, iv x5_, iv (x0_ % (1000 : Int32)), iv (x1_ % (1000 : Int32)), iv (x2_ % (1000 : Int32)), iv (x3_ % (1000 : Int32)), iv (x4_ % (1000 : Int32)), iv (x5_ % (1000 : Int32)), rv b1, rv b13, rv b18, rv b36, rv ev166, iv 1, .unset, .unset] [(.int (x3_ % (1000 : Int32))), (.int (x1_ % (1000 : Int32)))]
    refine os (fun _ z => XS.isub X166.here hx rfl (hb hby at_165) rfl z) ?_
    show OG p e below Φ T166 m 166 #[iv x0_, iv x1_, iv x2_, iv x3_, iv x4_, iv x5_, iv (x0_ % (1000 : Int32)), iv (x1_ % (1000 : Int32)), iv (x2_ % (1000 : Int32)), iv (x3_ % (1000 : Int32)), iv (x4_ % (1000 : Int32)), iv (x5_ % (1000 : Int32)), rv b1, rv b13, rv b18, rv b36, rv ev166, iv 1, .unset, .unset] [(.int ((x1_ % (1000 : Int32)) - (x3_ % (1000 : Int32))))]
    refine os (fun _ z => XS.iload X166.here hx rfl (hb hby at_166) rfl z) ?_
    show OG p e below Φ T166 m 168 #[iv x0_, iv x1_, iv x2_, iv x3_, iv x4_, iv x5_, iv (x0_ % (1000 : Int32)), iv (x1_ % (1000 : Int32)), iv (x2_ % (1000 : Int32)), iv (x3_ % (1000 : Int32)), iv (x4_ % (1000 : Int32)), iv (x5_ % (1000 : Int32)), rv b1, rv b13, rv b18, rv b36, rv ev166, iv 1, .unset, .unset] [(.int (x5_ % (1000 : Int32))), (.int ((x1_ % (1000 : Int32)) - (x3_ % (1000 : Int32))))]
    by_cases hc193 : ((x1_ % (1000 : Int32)) - (x3_ % (1000 : Int32))) < (x5_ % (1000 : Int32))
    · refine os (fun _ z => XS.icmpYes X166.here hx rfl (pc0 := 168) (pc' := 175) rfl (hb hby at_168) rfl (XT.ii_lt_t hc193) (by decide) (by decide) z) ?_
      show OG p e below Φ T166 m 175 #[iv x0_, iv x1_, iv x2_, iv x3_, iv x4_, iv x5_, iv (x0_ % (1000 : Int32)), iv (x1_ % (1000 : Int32)), iv (x2_ % (1000 : Int32)), iv (x3_ % (1000 : Int32)), iv (x4_ % (1000 : Int32)), iv (x5_ % (1000 : Int32)), rv b1, rv b13, rv b18, rv b36, rv ev166, iv 1, .unset, .unset] []
      refine os (fun _ z => XS.iconst X166.here hx rfl (hb hby at_175) z) ?_
      show OG p e below Φ T166 m 176 #[iv x0_, iv x1_, iv x2_, iv x3_, iv x4_, iv x5_, iv (x0_ % (1000 : Int32)), iv (x1_ % (1000 : Int32)), iv (x2_ % (1000 : Int32)), iv (x3_ % (1000 : Int32)), iv (x4_ % (1000 : Int32)), iv (x5_ % (1000 : Int32)), rv b1, rv b13, rv b18, rv b36, rv ev166, iv 1, .unset, .unset] [(.int 0)]
      refine os (fun _ z => XS.istore X166.here hx rfl (hb hby at_176) rfl (l' := #[iv x0_, iv x1_, iv x2_, iv x3_, iv x4_, iv x5_, iv (x0_ % (1000 : Int32)), iv (x1_ % (1000 : Int32)), iv (x2_ % (1000 : Int32)), iv (x3_ % (1000 : Int32)), iv (x4_ % (1000 : Int32)), iv (x5_ % (1000 : Int32)), rv b1, rv b13, rv b18, rv b36, rv ev166, iv 1, iv 0, .unset]) rfl z) ?_
      show OG p e below Φ T166 m 178 #[iv x0_, iv x1_, iv x2_, iv x3_, iv x4_, iv x5_, iv (x0_ % (1000 : Int32)), iv (x1_ % (1000 : Int32)), iv (x2_ % (1000 : Int32)), iv (x3_ % (1000 : Int32)), iv (x4_ % (1000 : Int32)), iv (x5_ % (1000 : Int32)), rv b1, rv b13, rv b18, rv b36, rv ev166, iv 1, iv 0, .unset] []
      refine os (fun _ z => XS.iload X166.here hx rfl (hb hby at_178) rfl z) ?_
      show OG p e below Φ T166 m 180 #[iv x0_, iv x1_, iv x2_, iv x3_, iv x4_, iv x5_, iv (x0_ % (1000 : Int32)), iv (x1_ % (1000 : Int32)), iv (x2_ % (1000 : Int32)), iv (x3_ % (1000 : Int32)), iv (x4_ % (1000 : Int32)), iv (x5_ % (1000 : Int32)), rv b1, rv b13, rv b18, rv b36, rv ev166, iv 1, iv 0, .unset] [(.int 1)]
      refine os (fun _ z => XS.ifNo X166.here hx rfl (hb hby at_180) rfl (XT.i0_eq_f (by decide)) z) ?_
      show OG p e below Φ T166 m 183 #[iv x0_, iv x1_, iv x2_, iv x3_, iv x4_, iv x5_, iv (x0_ % (1000 : Int32)), iv (x1_ % (1000 : Int32)), iv (x2_ % (1000 : Int32)), iv (x3_ % (1000 : Int32)), iv (x4_ % (1000 : Int32)), iv (x5_ % (1000 : Int32)), rv b1, rv b13, rv b18, rv b36, rv ev166, iv 1, iv 0, .unset] []
      refine os (fun _ z => XS.iload X166.here hx rfl (hb hby at_183) rfl z) ?_
      show OG p e below Φ T166 m 185 #[iv x0_, iv x1_, iv x2_, iv x3_, iv x4_, iv x5_, iv (x0_ % (1000 : Int32)), iv (x1_ % (1000 : Int32)), iv (x2_ % (1000 : Int32)), iv (x3_ % (1000 : Int32)), iv (x4_ % (1000 : Int32)), iv (x5_ % (1000 : Int32)), rv b1, rv b13, rv b18, rv b36, rv ev166, iv 1, iv 0, .unset] [(.int 0)]
      refine os (fun _ z => XS.ifYes X166.here hx rfl (pc0 := 185) (pc' := 192) rfl (hb hby at_185) rfl (XT.i0_eq_t (by decide)) (by decide) (by decide) z) ?_
      show OG p e below Φ T166 m 192 #[iv x0_, iv x1_, iv x2_, iv x3_, iv x4_, iv x5_, iv (x0_ % (1000 : Int32)), iv (x1_ % (1000 : Int32)), iv (x2_ % (1000 : Int32)), iv (x3_ % (1000 : Int32)), iv (x4_ % (1000 : Int32)), iv (x5_ % (1000 : Int32)), rv b1, rv b13, rv b18, rv b36, rv ev166, iv 1, iv 0, .unset] []
      refine os (fun _ z => XS.iconst X166.here hx rfl (hb hby at_192) z) ?_
      show OG p e below Φ T166 m 193 #[iv x0_, iv x1_, iv x2_, iv x3_, iv x4_, iv x5_, iv (x0_ % (1000 : Int32)), iv (x1_ % (1000 : Int32)), iv (x2_ % (1000 : Int32)), iv (x3_ % (1000 : Int32)), iv (x4_ % (1000 : Int32)), iv (x5_ % (1000 : Int32)), rv b1, rv b13, rv b18, rv b36, rv ev166, iv 1, iv 0, .unset] [(.int 0)]
      refine os (fun _ z => XS.istore X166.here hx rfl (hb hby at_193) rfl (l' := #[iv x0_, iv x1_, iv x2_, iv x3_, iv x4_, iv x5_, iv (x0_ % (1000 : Int32)), iv (x1_ % (1000 : Int32)), iv (x2_ % (1000 : Int32)), iv (x3_ % (1000 : Int32)), iv (x4_ % (1000 : Int32)), iv (x5_ % (1000 : Int32)), rv b1, rv b13, rv b18, rv b36, rv ev166, iv 1, iv 0, iv 0]) rfl z) ?_
      show OG p e below Φ T166 m 195 #[iv x0_, iv x1_, iv x2_, iv x3_, iv x4_, iv x5_, iv (x0_ % (1000 : Int32)), iv (x1_ % (1000 : Int32)), iv (x2_ % (1000 : Int32)), iv (x3_ % (1000 : Int32)), iv (x4_ % (1000 : Int32)), iv (x5_ % (1000 : Int32)), rv b1, rv b13, rv b18, rv b36, rv ev166, iv 1, iv 0, iv 0] []
      refine os (fun _ z => XS.aload X166.here hx rfl (hb hby at_195) rfl rfl z) ?_
      show OG p e below Φ T166 m 197 #[iv x0_, iv x1_, iv x2_, iv x3_, iv x4_, iv x5_, iv (x0_ % (1000 : Int32)), iv (x1_ % (1000 : Int32)), iv (x2_ % (1000 : Int32)), iv (x3_ % (1000 : Int32)), iv (x4_ % (1000 : Int32)), iv (x5_ % (1000 : Int32)), rv b1, rv b13, rv b18, rv b36, rv ev166, iv 1, iv 0, iv 0] [(.ref ev166)]
      obtain ⟨_, T194, L194, X194, hQ194, st194⟩ := own_callVi X166 hx hZ hown (ow141 hw) (ow142 hw) (notFace_of_selects (args := #[]) (mvT hZ (ow144 hw))) (ow144 hw) (ow143 hw) (ow87 hw) (ow145 hw) (by decide) (rfe l Z a0 hw [] ev166 (own_def ((x0_ % (1000 : Int32)).toInt64) ((x2_ % (1000 : Int32)).toInt64) ((x4_ % (1000 : Int32)).toInt64) ((x1_ % (1000 : Int32)).toInt64) ((x3_ % (1000 : Int32)).toInt64) ((x5_ % (1000 : Int32)).toInt64)) T166.heap n0 Zs166 Fq166 Bq166) rfl (W := 0) (by decide) (by decide) (by decide) (by decide) Eq166 (pc := 197) (ls := #[iv x0_, iv x1_, iv x2_, iv x3_, iv x4_, iv x5_, iv (x0_ % (1000 : Int32)), iv (x1_ % (1000 : Int32)), iv (x2_ % (1000 : Int32)), iv (x3_ % (1000 : Int32)), iv (x4_ % (1000 : Int32)), iv (x5_ % (1000 : Int32)), rv b1, rv b13, rv b18, rv b36, rv ev166, iv 1, iv 0, iv 0]) (stk := [(.ref ev166)]) (by rw [hml]; rfl) (argsL := []) (rest := []) (lenOf pd13 rfl) rfl rfl (Nat.le_of_eq rfl) (hb hby at_197)
      obtain ⟨rfl, Nq194, e194⟩ := hQ194
      have N194 := Fr.app N166 Nq194
      refine os st194 ?_
      show OG p e below Φ T194 m 200 #[iv x0_, iv x1_, iv x2_, iv x3_, iv x4_, iv x5_, iv (x0_ % (1000 : Int32)), iv (x1_ % (1000 : Int32)), iv (x2_ % (1000 : Int32)), iv (x3_ % (1000 : Int32)), iv (x4_ % (1000 : Int32)), iv (x5_ % (1000 : Int32)), rv b1, rv b13, rv b18, rv b36, rv ev166, iv 1, iv 0, iv 0] [(.int (own_f (own_def ((x0_ % (1000 : Int32)).toInt64) ((x2_ % (1000 : Int32)).toInt64) ((x4_ % (1000 : Int32)).toInt64) ((x1_ % (1000 : Int32)).toInt64) ((x3_ % (1000 : Int32)).toInt64) ((x5_ % (1000 : Int32)).toInt64))))]
      refine os (fun _ z => XS.iload X194.here hx rfl (hb hby at_200) rfl z) ?_
      show OG p e below Φ T194 m 202 #[iv x0_, iv x1_, iv x2_, iv x3_, iv x4_, iv x5_, iv (x0_ % (1000 : Int32)), iv (x1_ % (1000 : Int32)), iv (x2_ % (1000 : Int32)), iv (x3_ % (1000 : Int32)), iv (x4_ % (1000 : Int32)), iv (x5_ % (1000 : Int32)), rv b1, rv b13, rv b18, rv b36, rv ev166, iv 1, iv 0, iv 0] [(.int 0), (.int (own_f (own_def ((x0_ % (1000 : Int32)).toInt64) ((x2_ % (1000 : Int32)).toInt64) ((x4_ % (1000 : Int32)).toInt64) ((x1_ % (1000 : Int32)).toInt64) ((x3_ % (1000 : Int32)).toInt64) ((x5_ % (1000 : Int32)).toInt64))))]
      by_cases hc195 : (own_f (own_def ((x0_ % (1000 : Int32)).toInt64) ((x2_ % (1000 : Int32)).toInt64) ((x4_ % (1000 : Int32)).toInt64) ((x1_ % (1000 : Int32)).toInt64) ((x3_ % (1000 : Int32)).toInt64) ((x5_ % (1000 : Int32)).toInt64))) = (0 : Int32)
      · refine os (fun _ z => XS.icmpNo X194.here hx rfl (hb hby at_202) rfl (XT.ii_ne_f hc195) z) ?_
        show OG p e below Φ T194 m 205 #[iv x0_, iv x1_, iv x2_, iv x3_, iv x4_, iv x5_, iv (x0_ % (1000 : Int32)), iv (x1_ % (1000 : Int32)), iv (x2_ % (1000 : Int32)), iv (x3_ % (1000 : Int32)), iv (x4_ % (1000 : Int32)), iv (x5_ % (1000 : Int32)), rv b1, rv b13, rv b18, rv b36, rv ev166, iv 1, iv 0, iv 0] []
        refine os (fun _ z => XS.iconst X194.here hx rfl (hb hby at_205) z) ?_
        show OG p e below Φ T194 m 206 #[iv x0_, iv x1_, iv x2_, iv x3_, iv x4_, iv x5_, iv (x0_ % (1000 : Int32)), iv (x1_ % (1000 : Int32)), iv (x2_ % (1000 : Int32)), iv (x3_ % (1000 : Int32)), iv (x4_ % (1000 : Int32)), iv (x5_ % (1000 : Int32)), rv b1, rv b13, rv b18, rv b36, rv ev166, iv 1, iv 0, iv 0] [(.int 1)]
        refine os (fun _ z => XS.goto X194.here hx rfl (pc0 := 206) (pc' := 210) rfl (hb hby at_206) (by decide) (by decide) z) ?_
        show OG p e below Φ T194 m 210 #[iv x0_, iv x1_, iv x2_, iv x3_, iv x4_, iv x5_, iv (x0_ % (1000 : Int32)), iv (x1_ % (1000 : Int32)), iv (x2_ % (1000 : Int32)), iv (x3_ % (1000 : Int32)), iv (x4_ % (1000 : Int32)), iv (x5_ % (1000 : Int32)), rv b1, rv b13, rv b18, rv b36, rv ev166, iv 1, iv 0, iv 0] [(.int 1)]
        refine OGo.finW X194 hlk hS e194 hkk (v := (some (.int 1))) (fun h => by rw [hret] at h; cases h) (by decide) (by decide) hZ (own_EW hw) hC (fun fs hr => X194.ireturnOut hx hret rfl (by simp) (hb hby at_210) hr) fun U eU hc hF => hΦ _ _ _ ?_ hc hF
        rw [eU]
        show Q_rm0 Z x0_ x1_ x2_ x3_ x4_ x5_ dz cz h0 n0 _ _ _
        exact ⟨rfl, N194⟩
      · refine os (fun _ z => XS.icmpYes X194.here hx rfl (pc0 := 202) (pc' := 209) rfl (hb hby at_202) rfl (XT.ii_ne_t hc195) (by decide) (by decide) z) ?_
        show OG p e below Φ T194 m 209 #[iv x0_, iv x1_, iv x2_, iv x3_, iv x4_, iv x5_, iv (x0_ % (1000 : Int32)), iv (x1_ % (1000 : Int32)), iv (x2_ % (1000 : Int32)), iv (x3_ % (1000 : Int32)), iv (x4_ % (1000 : Int32)), iv (x5_ % (1000 : Int32)), rv b1, rv b13, rv b18, rv b36, rv ev166, iv 1, iv 0, iv 0] []
        refine os (fun _ z => XS.iconst X194.here hx rfl (hb hby at_209) z) ?_
        show OG p e below Φ T194 m 210 #[iv x0_, iv x1_, iv x2_, iv x3_, iv x4_, iv x5_, iv (x0_ % (1000 : Int32)), iv (x1_ % (1000 : Int32)), iv (x2_ % (1000 : Int32)), iv (x3_ % (1000 : Int32)), iv (x4_ % (1000 : Int32)), iv (x5_ % (1000 : Int32)), rv b1, rv b13, rv b18, rv b36, rv ev166, iv 1, iv 0, iv 0] [(.int 0)]
        exact absurd (by rw [own_lawR]; simp only [hc187, hc193, if_true, if_false]) hc195
    · refine os (fun _ z => XS.icmpNo X166.here hx rfl (hb hby at_168) rfl (XT.ii_lt_f hc193) z) ?_
      show OG p e below Φ T166 m 171 #[iv x0_, iv x1_, iv x2_, iv x3_, iv x4_, iv x5_, iv (x0_ % (1000 : Int32)), iv (x1_ % (1000 : Int32)), iv (x2_ % (1000 : Int32)), iv (x3_ % (1000 : Int32)), iv (x4_ % (1000 : Int32)), iv (x5_ % (1000 : Int32)), rv b1, rv b13, rv b18, rv b36, rv ev166, iv 1, .unset, .unset] []
      refine os (fun _ z => XS.iconst X166.here hx rfl (hb hby at_171) z) ?_
      show OG p e below Φ T166 m 172 #[iv x0_, iv x1_, iv x2_, iv x3_, iv x4_, iv x5_, iv (x0_ % (1000 : Int32)), iv (x1_ % (1000 : Int32)), iv (x2_ % (1000 : Int32)), iv (x3_ % (1000 : Int32)), iv (x4_ % (1000 : Int32)), iv (x5_ % (1000 : Int32)), rv b1, rv b13, rv b18, rv b36, rv ev166, iv 1, .unset, .unset] [(.int 1)]
      refine os (fun _ z => XS.goto X166.here hx rfl (pc0 := 172) (pc' := 176) rfl (hb hby at_172) (by decide) (by decide) z) ?_
      show OG p e below Φ T166 m 176 #[iv x0_, iv x1_, iv x2_, iv x3_, iv x4_, iv x5_, iv (x0_ % (1000 : Int32)), iv (x1_ % (1000 : Int32)), iv (x2_ % (1000 : Int32)), iv (x3_ % (1000 : Int32)), iv (x4_ % (1000 : Int32)), iv (x5_ % (1000 : Int32)), rv b1, rv b13, rv b18, rv b36, rv ev166, iv 1, .unset, .unset] [(.int 1)]
      refine os (fun _ z => XS.istore X166.here hx rfl (hb hby at_176) rfl (l' := #[iv x0_, iv x1_, iv x2_, iv x3_, iv x4_, iv x5_, iv (x0_ % (1000 : Int32)), iv (x1_ % (1000 : Int32)), iv (x2_ % (1000 : Int32)), iv (x3_ % (1000 : Int32)), iv (x4_ % (1000 : Int32)), iv (x5_ % (1000 : Int32)), rv b1, rv b13, rv b18, rv b36, rv ev166, iv 1, iv 1, .unset]) rfl z) ?_
      show OG p e below Φ T166 m 178 #[iv x0_, iv x1_, iv x2_, iv x3_, iv x4_, iv x5_, iv (x0_ % (1000 : Int32)), iv (x1_ % (1000 : Int32)), iv (x2_ % (1000 : Int32)), iv (x3_ % (1000 : Int32)), iv (x4_ % (1000 : Int32)), iv (x5_ % (1000 : Int32)), rv b1, rv b13, rv b18, rv b36, rv ev166, iv 1, iv 1, .unset] []
      refine os (fun _ z => XS.iload X166.here hx rfl (hb hby at_178) rfl z) ?_
      show OG p e below Φ T166 m 180 #[iv x0_, iv x1_, iv x2_, iv x3_, iv x4_, iv x5_, iv (x0_ % (1000 : Int32)), iv (x1_ % (1000 : Int32)), iv (x2_ % (1000 : Int32)), iv (x3_ % (1000 : Int32)), iv (x4_ % (1000 : Int32)), iv (x5_ % (1000 : Int32)), rv b1, rv b13, rv b18, rv b36, rv ev166, iv 1, iv 1, .unset] [(.int 1)]
      refine os (fun _ z => XS.ifNo X166.here hx rfl (hb hby at_180) rfl (XT.i0_eq_f (by decide)) z) ?_
      show OG p e below Φ T166 m 183 #[iv x0_, iv x1_, iv x2_, iv x3_, iv x4_, iv x5_, iv (x0_ % (1000 : Int32)), iv (x1_ % (1000 : Int32)), iv (x2_ % (1000 : Int32)), iv (x3_ % (1000 : Int32)), iv (x4_ % (1000 : Int32)), iv (x5_ % (1000 : Int32)), rv b1, rv b13, rv b18, rv b36, rv ev166, iv 1, iv 1, .unset] []
      refine os (fun _ z => XS.iload X166.here hx rfl (hb hby at_183) rfl z) ?_
      show OG p e below Φ T166 m 185 #[iv x0_, iv x1_, iv x2_, iv x3_, iv x4_, iv x5_, iv (x0_ % (1000 : Int32)), iv (x1_ % (1000 : Int32)), iv (x2_ % (1000 : Int32)), iv (x3_ % (1000 : Int32)), iv (x4_ % (1000 : Int32)), iv (x5_ % (1000 : Int32)), rv b1, rv b13, rv b18, rv b36, rv ev166, iv 1, iv 1, .unset] [(.int 1)]
      refine os (fun _ z => XS.ifNo X166.here hx rfl (hb hby at_185) rfl (XT.i0_eq_f (by decide)) z) ?_
      show OG p e below Φ T166 m 188 #[iv x0_, iv x1_, iv x2_, iv x3_, iv x4_, iv x5_, iv (x0_ % (1000 : Int32)), iv (x1_ % (1000 : Int32)), iv (x2_ % (1000 : Int32)), iv (x3_ % (1000 : Int32)), iv (x4_ % (1000 : Int32)), iv (x5_ % (1000 : Int32)), rv b1, rv b13, rv b18, rv b36, rv ev166, iv 1, iv 1, .unset] []
      refine os (fun _ z => XS.iconst X166.here hx rfl (hb hby at_188) z) ?_
      show OG p e below Φ T166 m 189 #[iv x0_, iv x1_, iv x2_, iv x3_, iv x4_, iv x5_, iv (x0_ % (1000 : Int32)), iv (x1_ % (1000 : Int32)), iv (x2_ % (1000 : Int32)), iv (x3_ % (1000 : Int32)), iv (x4_ % (1000 : Int32)), iv (x5_ % (1000 : Int32)), rv b1, rv b13, rv b18, rv b36, rv ev166, iv 1, iv 1, .unset] [(.int 1)]
      refine os (fun _ z => XS.goto X166.here hx rfl (pc0 := 189) (pc' := 193) rfl (hb hby at_189) (by decide) (by decide) z) ?_
      show OG p e below Φ T166 m 193 #[iv x0_, iv x1_, iv x2_, iv x3_, iv x4_, iv x5_, iv (x0_ % (1000 : Int32)), iv (x1_ % (1000 : Int32)), iv (x2_ % (1000 : Int32)), iv (x3_ % (1000 : Int32)), iv (x4_ % (1000 : Int32)), iv (x5_ % (1000 : Int32)), rv b1, rv b13, rv b18, rv b36, rv ev166, iv 1, iv 1, .unset] [(.int 1)]
      refine os (fun _ z => XS.istore X166.here hx rfl (hb hby at_193) rfl (l' := #[iv x0_, iv x1_, iv x2_, iv x3_, iv x4_, iv x5_, iv (x0_ % (1000 : Int32)), iv (x1_ % (1000 : Int32)), iv (x2_ % (1000 : Int32)), iv (x3_ % (1000 : Int32)), iv (x4_ % (1000 : Int32)), iv (x5_ % (1000 : Int32)), rv b1, rv b13, rv b18, rv b36, rv ev166, iv 1, iv 1, iv 1]) rfl z) ?_
      show OG p e below Φ T166 m 195 #[iv x0_, iv x1_, iv x2_, iv x3_, iv x4_, iv x5_, iv (x0_ % (1000 : Int32)), iv (x1_ % (1000 : Int32)), iv (x2_ % (1000 : Int32)), iv (x3_ % (1000 : Int32)), iv (x4_ % (1000 : Int32)), iv (x5_ % (1000 : Int32)), rv b1, rv b13, rv b18, rv b36, rv ev166, iv 1, iv 1, iv 1] []
      refine os (fun _ z => XS.aload X166.here hx rfl (hb hby at_195) rfl rfl z) ?_
      show OG p e below Φ T166 m 197 #[iv x0_, iv x1_, iv x2_, iv x3_, iv x4_, iv x5_, iv (x0_ % (1000 : Int32)), iv (x1_ % (1000 : Int32)), iv (x2_ % (1000 : Int32)), iv (x3_ % (1000 : Int32)), iv (x4_ % (1000 : Int32)), iv (x5_ % (1000 : Int32)), rv b1, rv b13, rv b18, rv b36, rv ev166, iv 1, iv 1, iv 1] [(.ref ev166)]
      obtain ⟨_, T196, L196, X196, hQ196, st196⟩ := own_callVi X166 hx hZ hown (ow141 hw) (ow142 hw) (notFace_of_selects (args := #[]) (mvT hZ (ow144 hw))) (ow144 hw) (ow143 hw) (ow87 hw) (ow145 hw) (by decide) (rfe l Z a0 hw [] ev166 (own_def ((x0_ % (1000 : Int32)).toInt64) ((x2_ % (1000 : Int32)).toInt64) ((x4_ % (1000 : Int32)).toInt64) ((x1_ % (1000 : Int32)).toInt64) ((x3_ % (1000 : Int32)).toInt64) ((x5_ % (1000 : Int32)).toInt64)) T166.heap n0 Zs166 Fq166 Bq166) rfl (W := 0) (by decide) (by decide) (by decide) (by decide) Eq166 (pc := 197) (ls := #[iv x0_, iv x1_, iv x2_, iv x3_, iv x4_, iv x5_, iv (x0_ % (1000 : Int32)), iv (x1_ % (1000 : Int32)), iv (x2_ % (1000 : Int32)), iv (x3_ % (1000 : Int32)), iv (x4_ % (1000 : Int32)), iv (x5_ % (1000 : Int32)), rv b1, rv b13, rv b18, rv b36, rv ev166, iv 1, iv 1, iv 1]) (stk := [(.ref ev166)]) (by rw [hml]; rfl) (argsL := []) (rest := []) (lenOf pd13 rfl) rfl rfl (Nat.le_of_eq rfl) (hb hby at_197)
      obtain ⟨rfl, Nq196, e196⟩ := hQ196
      have N196 := Fr.app N166 Nq196
      refine os st196 ?_
      show OG p e below Φ T196 m 200 #[iv x0_, iv x1_, iv x2_, iv x3_, iv x4_, iv x5_, iv (x0_ % (1000 : Int32)), iv (x1_ % (1000 : Int32)), iv (x2_ % (1000 : Int32)), iv (x3_ % (1000 : Int32)), iv (x4_ % (1000 : Int32)), iv (x5_ % (1000 : Int32)), rv b1, rv b13, rv b18, rv b36, rv ev166, iv 1, iv 1, iv 1] [(.int (own_f (own_def ((x0_ % (1000 : Int32)).toInt64) ((x2_ % (1000 : Int32)).toInt64) ((x4_ % (1000 : Int32)).toInt64) ((x1_ % (1000 : Int32)).toInt64) ((x3_ % (1000 : Int32)).toInt64) ((x5_ % (1000 : Int32)).toInt64))))]
      refine os (fun _ z => XS.iload X196.here hx rfl (hb hby at_200) rfl z) ?_
      show OG p e below Φ T196 m 202 #[iv x0_, iv x1_, iv x2_, iv x3_, iv x4_, iv x5_, iv (x0_ % (1000 : Int32)), iv (x1_ % (1000 : Int32)), iv (x2_ % (1000 : Int32)), iv (x3_ % (1000 : Int32)), iv (x4_ % (1000 : Int32)), iv (x5_ % (1000 : Int32)), rv b1, rv b13, rv b18, rv b36, rv ev166, iv 1, iv 1, iv 1] [(.int 1), (.int (own_f (own_def ((x0_ % (1000 : Int32)).toInt64) ((x2_ % (1000 : Int32)).toInt64) ((x4_ % (1000 : Int32)).toInt64) ((x1_ % (1000 : Int32)).toInt64) ((x3_ % (1000 : Int32)).toInt64) ((x5_ % (1000 : Int32)).toInt64))))]
      by_cases hc197 : (own_f (own_def ((x0_ % (1000 : Int32)).toInt64) ((x2_ % (1000 : Int32)).toInt64) ((x4_ % (1000 : Int32)).toInt64) ((x1_ % (1000 : Int32)).toInt64) ((x3_ % (1000 : Int32)).toInt64) ((x5_ % (1000 : Int32)).toInt64))) = (1 : Int32)
      · refine os (fun _ z => XS.icmpNo X196.here hx rfl (hb hby at_202) rfl (XT.ii_ne_f hc197) z) ?_
        show OG p e below Φ T196 m 205 #[iv x0_, iv x1_, iv x2_, iv x3_, iv x4_, iv x5_, iv (x0_ % (1000 : Int32)), iv (x1_ % (1000 : Int32)), iv (x2_ % (1000 : Int32)), iv (x3_ % (1000 : Int32)), iv (x4_ % (1000 : Int32)), iv (x5_ % (1000 : Int32)), rv b1, rv b13, rv b18, rv b36, rv ev166, iv 1, iv 1, iv 1] []
        refine os (fun _ z => XS.iconst X196.here hx rfl (hb hby at_205) z) ?_
        show OG p e below Φ T196 m 206 #[iv x0_, iv x1_, iv x2_, iv x3_, iv x4_, iv x5_, iv (x0_ % (1000 : Int32)), iv (x1_ % (1000 : Int32)), iv (x2_ % (1000 : Int32)), iv (x3_ % (1000 : Int32)), iv (x4_ % (1000 : Int32)), iv (x5_ % (1000 : Int32)), rv b1, rv b13, rv b18, rv b36, rv ev166, iv 1, iv 1, iv 1] [(.int 1)]
        refine os (fun _ z => XS.goto X196.here hx rfl (pc0 := 206) (pc' := 210) rfl (hb hby at_206) (by decide) (by decide) z) ?_
        show OG p e below Φ T196 m 210 #[iv x0_, iv x1_, iv x2_, iv x3_, iv x4_, iv x5_, iv (x0_ % (1000 : Int32)), iv (x1_ % (1000 : Int32)), iv (x2_ % (1000 : Int32)), iv (x3_ % (1000 : Int32)), iv (x4_ % (1000 : Int32)), iv (x5_ % (1000 : Int32)), rv b1, rv b13, rv b18, rv b36, rv ev166, iv 1, iv 1, iv 1] [(.int 1)]
        refine OGo.finW X196 hlk hS e196 hkk (v := (some (.int 1))) (fun h => by rw [hret] at h; cases h) (by decide) (by decide) hZ (own_EW hw) hC (fun fs hr => X196.ireturnOut hx hret rfl (by simp) (hb hby at_210) hr) fun U eU hc hF => hΦ _ _ _ ?_ hc hF
        rw [eU]
        show Q_rm0 Z x0_ x1_ x2_ x3_ x4_ x5_ dz cz h0 n0 _ _ _
        exact ⟨rfl, N196⟩
      · refine os (fun _ z => XS.icmpYes X196.here hx rfl (pc0 := 202) (pc' := 209) rfl (hb hby at_202) rfl (XT.ii_ne_t hc197) (by decide) (by decide) z) ?_
        show OG p e below Φ T196 m 209 #[iv x0_, iv x1_, iv x2_, iv x3_, iv x4_, iv x5_, iv (x0_ % (1000 : Int32)), iv (x1_ % (1000 : Int32)), iv (x2_ % (1000 : Int32)), iv (x3_ % (1000 : Int32)), iv (x4_ % (1000 : Int32)), iv (x5_ % (1000 : Int32)), rv b1, rv b13, rv b18, rv b36, rv ev166, iv 1, iv 1, iv 1] []
        refine os (fun _ z => XS.iconst X196.here hx rfl (hb hby at_209) z) ?_
        show OG p e below Φ T196 m 210 #[iv x0_, iv x1_, iv x2_, iv x3_, iv x4_, iv x5_, iv (x0_ % (1000 : Int32)), iv (x1_ % (1000 : Int32)), iv (x2_ % (1000 : Int32)), iv (x3_ % (1000 : Int32)), iv (x4_ % (1000 : Int32)), iv (x5_ % (1000 : Int32)), rv b1, rv b13, rv b18, rv b36, rv ev166, iv 1, iv 1, iv 1] [(.int 0)]
        exact absurd (by rw [own_lawR]; simp only [hc187, hc193, if_true, if_false]) hc197

set_option maxRecDepth 65536 in
set_option maxHeartbeats 40000000 in
theorem comes_1 {Post : Tables → Env → Array Value → State → Outcome → State → Prop} (hpost : ∀ tb e args s v u, (limb_1_1.after args s (.returned v) u = true ∧ limb_1_2.after args s (.returned v) u = true ∧ True) → FramedW s (.returned v) u (Jvm.fieldLocs frame_1_writes args s ++ Jvm.arrayLocs frame_1_arrays args s ++ Jvm.staticLocs frame_1_statics s) 32 2240 → Post tb e args s (.returned v) u) :
    ArmFor flags0 classFile x code maxLocals ret World_1 tables_1 room_1 Calls_1 rest_1 Pre_1 Post := by
  intro l hfl _ _ p e ha hc hk s m args below hf hA hF happ hP
  obtain ⟨hcalls, hrest, hpre⟩ := hP
  obtain ⟨-, -, -, hnamed, -, -, -, hat⟩ := (Spec.applies_iff hf).mp happ
  obtain ⟨hg, hn⟩ := and_e (Cond.before_iff.mp (show (Jvm.Cond.and given_1 narrow_1).before args s = true from hpre))
  obtain ⟨g0, r0⟩ := and_e hg
  obtain ⟨k0, r1⟩ := and_e r0
  obtain ⟨k1, r2⟩ := and_e r1
  obtain ⟨k2, r3⟩ := and_e r2
  obtain ⟨k3, r4⟩ := and_e r3
  obtain ⟨k4, r5⟩ := and_e r4
  have k5 := r5
  obtain ⟨w0, w1, w2, w3, w4, w5, rfl⟩ : ∃ w0 w1 w2 w3 w4 w5 : Value, args = #[w0, w1, w2, w3, w4, w5] := by
    have hs : args.size = 6 := by simpa [Cond.value, given_1] using g0
    obtain ⟨L⟩ := args
    match L, hs with
    | [w0, w1, w2, w3, w4, w5], _ => exact ⟨w0, w1, w2, w3, w4, w5, rfl⟩
  have hw := fun d (hd : d ∈ tables_1) => atoms_spec (ws := Jvm.Cond.code x code maxLocals ret :: tables_1) hat d (List.mem_cons_of_mem _ hd)
  have hfit : Fit s := fun {y c} hc i hi => by
    obtain ⟨ha, rfl⟩ := Array.getElem?_eq_some_iff.mp hc
    have q := List.all_eq_true.mp ((Array.all_eq_true_iff_forall_mem.mp hF) _ (Array.getElem_mem ha)) i (List.mem_range.mpr hi)
    simpa [Array.getElem?_eq_getElem hi] using q
  obtain ⟨i0, ei0⟩ := is_v k0
  obtain rfl : w0 = (.int i0) := Option.some.inj ei0
  obtain ⟨i1, ei1⟩ := is_v k1
  obtain rfl : w1 = (.int i1) := Option.some.inj ei1
  obtain ⟨i2, ei2⟩ := is_v k2
  obtain rfl : w2 = (.int i2) := Option.some.inj ei2
  obtain ⟨i3, ei3⟩ := is_v k3
  obtain rfl : w3 = (.int i3) := Option.some.inj ei3
  obtain ⟨i4, ei4⟩ := is_v k4
  obtain rfl : w4 = (.int i4) := Option.some.inj ei4
  obtain ⟨i5, ei5⟩ := is_v k5
  obtain rfl : w5 = (.int i5) := Option.some.inj ei5
  have hrc : rest_1_c.before _ s = true := hrest
  rw [rest_1_c_eq] at hrc
  have hsets := (atoms_of jdkStatics_1 hrc).1
  obtain ⟨dz, v_z⟩ := exa_v (Cond.before_iff.mp (hsets _ (List.mem_of_getElem? (i := 7) rfl)))
  have S_d := Sta.start v_z (Or.inr ⟨(ow3 hw), (hsets _ (List.mem_of_getElem? (i := 2) rfl))⟩)
  obtain ⟨cl_z, A_z⟩ := Arr.start v_z (Cond.before_iff.mp (hsets _ (List.mem_of_getElem? (i := 6) rfl)))
  obtain ⟨l1_z, l2_z⟩ := own_lenI v_z A_z (Cond.before_iff.mp (hsets _ (List.mem_of_getElem? (i := 8) rfl)))
  have V_z : Arv s s.heap dz cl_z.cls (.object "java/lang/Object") 0 [] .null := Arv.start hfit A_z l1_z l2_z (by decide) rfl trivial
  obtain ⟨n, o, h1, h2, h3, _, L, rfl, ⟨rfl, N⟩, -, hq⟩ := rm0 l s _ hw tables_1 i0 i1 i2 i3 i4 i5 dz _ s.heap s.heap.size (Nat.le_refl _) (Old.start s) S_d V_z p e ha hc hk s m _ below hf ((Spec.applies_iff_loose hf).mp happ).1 ⟨rfl, State.Warmed39.refl s, rfl, (fun _ hp => nomatch hp), fun _ hx => nomatch hx⟩ trivial
  refine ⟨n, _, h1, h2, h3, hpost _ _ _ _ _ _ ⟨Cond.after_iff.mpr rfl, Cond.after_iff.mpr (eq_i res_at (Term.int_eval (1)) rfl), trivial⟩ ⟨hq.1, hq.2.1, hq.2.2.1, (hq.2.2.2.sift fun y hy => Or.inr (N y hy)).mono (by decide) (by decide)⟩⟩
theorem main_1_1 : Claimed_1_1 := comes_1 fun _ _ _ _ _ _ h hF => ⟨h.1, hF⟩
theorem main_1_2 : Claimed_1_2 := comes_1 fun _ _ _ _ _ _ h hF => ⟨h.2.1, hF⟩
end Jvm.Pilot.@@N@@
namespace Jvm.Pilot.@@N@@
open Jvm Jvm.ClassFile Sem Op Lib Jvm.Free Jvm.Stand Jvm.Pilot.@@N@@.Jvm.D
/-! MADE BY PROGRAM (witnessworld.py) out of the Statement's table words and the real class files: 30 classes; the members and pool entries that the words name. The judged class is class 1, her method 1. -/
namespace start1
open Jvm.ClassFile
def u (s : String) : CpInfo := .utf8 (stringToUtf16 s)
/-- a pool by its gaps: so many unusable entries, then the entry; so many at the end -/
def gap : Nat → List CpInfo → List CpInfo
  | 0, r => r
  | n + 1, r => .unusable :: gap n r
def poolList (es : List (Nat × CpInfo)) (last : Nat) : List CpInfo := es.foldr (fun e r => gap e.1 (e.2 :: r)) (gap last [])
def pool (es : List (Nat × CpInfo)) (last : Nat) : Array CpInfo := ⟨poolList es last⟩
def fileOf (pool : Array CpInfo) (this : Nat) (attrs : Array Attribute := #[]) (ms : Array MethodInfo := #[]) (fl : Nat := 33) (sup : Nat := 0) (ifs : Array Nat := #[]) (fds : Array FieldInfo := #[]) : ClassFile where
  minorVersion := 0
  majorVersion := 65
  constantPool := pool
  accessFlags := fl
  thisClass := this
  superClass := sup
  interfaces := ifs
  fields := fds
  methods := ms
  attributes := attrs
def plain (name : String) (sup : Option ClassId) : Class where
  name := name
  kind := .ordinary
  loader := none
  accessFlags := 33
  super := sup
  interfaces := #[]
  cf := none
  fields := #[]
  methods := #[]
  instanceTypes := #[]
  staticTypes := #[]
  resolved := #[]
  callSites := []
  init := .initialized
  statics := none
  mirror := none

def pool0 : Array CpInfo := pool [(5, u "<init>"), (0, u "()V"), (1, .class_ 10), (1, u "java/lang/Object")] 113

def k0c0 : Code := { maxStack := 0, maxLocals := 1, code := object_method_1_code, exceptionTable := #[], attributes := #[] }
def k0m0 : Method := { name := "<init>", desc := "()V", sig := { parameters := [], returnType := none }, accessFlags := 1, code := some k0c0 }
/-- java/lang/Object -/
def k0 : Class := { plain "java/lang/Object" none with
  accessFlags := 33
  interfaces := #[]
  cf := some (fileOf pool0 8 #[] #[{ accessFlags := 1, nameIndex := 5, descriptorIndex := 6, attributes := #[] }] 33 0 #[] #[])
  fields := #[]
  methods := #[k0m0]
  instanceTypes := #[]
  staticTypes := #[]
  resolved := Array.replicate 124 none
  statics := none }

def pool1 : Array CpInfo := pool [(2, .class_ 4), (0, .nameAndType 5 6), (0, u "java/lang/Object"), (0, u "<init>"), (0, u "()V"), (0, .class_ 8), (0, u "java/util/ArrayList"), (0, .methodref 7 3), (0, .class_ 11), (0, u "com/example/hydromeme/hydromeme/Network$Junction"), (0, .string 13), (0, u "a"), (0, .methodref 10 15), (0, .nameAndType 5 16), (0, u "(Ljava/lang/String;DD)V"), (0, .methodref 7 18), (0, .nameAndType 19 20), (0, u "add"), (0, u "(Ljava/lang/Object;)Z"), (0, .string 22), (0, u "b"), (0, .methodref 24 25), (0, .class_ 26), (0, .nameAndType 27 28), (0, u "com/example/hydromeme/hydromeme/Evaluation"), (0, u "of"), (0, u "(D[D[DLjava/util/List;[D)Lcom/example/hydromeme/hydromeme/Evaluation;"), (0, .methodref 24 30), (0, .nameAndType 31 32), (0, u "feasible"), (0, u "()Z"), (0, .class_ 34), (0, u "com/example/hydromeme/hydromeme/EvaluationFeasiblePinLaw"), (2, u "law"), (0, u "(IIIIII)Z")] 9

def k1m0 : Method := { name := "<init>", desc := "()V", sig := { parameters := [], returnType := none }, accessFlags := 1, code := none }
def k1c1 : Code := { maxStack := 8, maxLocals := 20, code := code, exceptionTable := #[], attributes := #[] }
def k1m1 : Method := { name := "law", desc := "(IIIIII)Z", sig := { parameters := [.int, .int, .int, .int, .int, .int], returnType := some .boolean }, accessFlags := 9, code := some k1c1 }
/-- com/example/hydromeme/hydromeme/EvaluationFeasiblePinLaw -/
def k1 : Class := { plain "com/example/hydromeme/hydromeme/EvaluationFeasiblePinLaw" (some 0) with
  accessFlags := 49
  interfaces := #[]
  cf := some (fileOf pool1 33 #[] #[{ accessFlags := 1, nameIndex := 5, descriptorIndex := 6, attributes := #[] }, { accessFlags := 9, nameIndex := 37, descriptorIndex := 38, attributes := #[] }] 49 2 #[] #[])
  fields := #[]
  methods := #[k1m0, k1m1]
  instanceTypes := #[]
  staticTypes := #[]
  resolved := Array.replicate 48 none
  statics := none }

def pool2 : Array CpInfo := pool [(8, .class_ 10), (1, u "java/lang/Iterable"), (24, .class_ 36), (0, u "java/lang/Object")] 25

/-- java/lang/Iterable -/
def k2 : Class := { plain "java/lang/Iterable" (some 0) with
  accessFlags := 1537
  interfaces := #[]
  cf := some (fileOf pool2 8 #[] #[] 1537 35 #[] #[])
  fields := #[]
  methods := #[]
  instanceTypes := #[]
  staticTypes := #[]
  resolved := Array.replicate 62 none
  statics := none }

def pool3 : Array CpInfo := pool [(10, .class_ 12), (1, u "java/util/Collection"), (47, .class_ 61), (0, u "java/lang/Object"), (0, .class_ 63), (0, u "java/lang/Iterable")] 51

/-- java/util/Collection -/
def k3 : Class := { plain "java/util/Collection" (some 0) with
  accessFlags := 1537
  interfaces := #[2]
  cf := some (fileOf pool3 10 #[] #[] 1537 60 #[62] #[])
  fields := #[]
  methods := #[]
  instanceTypes := #[]
  staticTypes := #[]
  resolved := Array.replicate 115 none
  statics := none }

def pool4 : Array CpInfo := pool [(1, .methodref 2 3), (0, .class_ 4), (0, .nameAndType 5 6), (0, u "java/lang/Object"), (0, u "<init>"), (0, u "()V"), (1, .class_ 10), (1, u "java/util/AbstractCollection"), (66, .class_ 78), (0, u "java/util/Collection")] 81

def k4c0 : Code := { maxStack := 1, maxLocals := 1, code := jdk_22_method_1_code, exceptionTable := #[], attributes := #[] }
def k4m0 : Method := { name := "<init>", desc := "()V", sig := { parameters := [], returnType := none }, accessFlags := 4, code := some k4c0 }
/-- java/util/AbstractCollection -/
def k4 : Class := { plain "java/util/AbstractCollection" (some 0) with
  accessFlags := 1057
  interfaces := #[3]
  cf := some (fileOf pool4 8 #[] #[{ accessFlags := 4, nameIndex := 5, descriptorIndex := 6, attributes := #[] }] 1057 2 #[77] #[])
  fields := #[]
  methods := #[k4m0]
  instanceTypes := #[]
  staticTypes := #[]
  resolved := Array.replicate 160 none
  statics := none }

def pool5 : Array CpInfo := pool [(8, .class_ 10), (1, u "java/util/SequencedCollection"), (15, .class_ 27), (0, u "java/lang/Object"), (0, .class_ 29), (0, u "java/util/Collection")] 27

/-- java/util/SequencedCollection -/
def k5 : Class := { plain "java/util/SequencedCollection" (some 0) with
  accessFlags := 1537
  interfaces := #[3]
  cf := some (fileOf pool5 8 #[] #[] 1537 26 #[28] #[])
  fields := #[]
  methods := #[]
  instanceTypes := #[]
  staticTypes := #[]
  resolved := Array.replicate 57 none
  statics := none }

def pool6 : Array CpInfo := pool [(8, .class_ 10), (1, u "java/util/List"), (64, u "get"), (0, u "(I)Ljava/lang/Object;"), (26, .class_ 104), (0, u "java/lang/Object"), (15, .class_ 121), (0, u "java/util/SequencedCollection")] 129

def k6m0 : Method := { name := "get", desc := "(I)Ljava/lang/Object;", sig := { parameters := [.int], returnType := some (.object "java/lang/Object") }, accessFlags := 1025, code := none }
/-- java/util/List -/
def k6 : Class := { plain "java/util/List" (some 0) with
  accessFlags := 1537
  interfaces := #[5]
  cf := some (fileOf pool6 8 #[] #[{ accessFlags := 1025, nameIndex := 75, descriptorIndex := 76, attributes := #[] }] 1537 103 #[120] #[])
  fields := #[]
  methods := #[k6m0]
  instanceTypes := #[]
  staticTypes := #[]
  resolved := Array.replicate 251 none
  statics := none }

def pool7 : Array CpInfo := pool [(1, .methodref 2 3), (0, .class_ 4), (0, .nameAndType 5 6), (0, u "java/util/AbstractCollection"), (0, u "<init>"), (0, u "()V"), (0, .fieldref 8 9), (0, .class_ 10), (0, .nameAndType 11 12), (0, u "java/util/AbstractList"), (0, u "modCount"), (0, u "I"), (64, .class_ 78), (0, u "java/util/AbstractList$Itr"), (3, .class_ 83), (0, u "java/util/AbstractList$ListItr"), (9, .class_ 94), (0, u "java/util/AbstractList$RandomAccessSubList"), (3, .class_ 99), (0, u "java/util/AbstractList$SubList"), (33, .class_ 134), (0, u "java/util/List"), (73, .class_ 209), (0, u "java/util/AbstractList$SubList$1"), (0, .class_ 211), (0, u "java/util/AbstractList$RandomAccessSpliterator")] 6

def k7c0 : Code := { maxStack := 2, maxLocals := 1, code := jdk_39_method_1_code, exceptionTable := #[], attributes := #[] }
def k7m0 : Method := { name := "<init>", desc := "()V", sig := { parameters := [], returnType := none }, accessFlags := 4, code := some k7c0 }
/-- java/util/AbstractList -/
def k7 : Class := { plain "java/util/AbstractList" (some 4) with
  accessFlags := 1057
  interfaces := #[6]
  cf := some (fileOf pool7 8 #[.nestMembers #[93, 98, 208, 210, 82, 77]] #[{ accessFlags := 4, nameIndex := 5, descriptorIndex := 6, attributes := #[] }] 1057 2 #[133] #[{ accessFlags := 132, nameIndex := 11, descriptorIndex := 12, attributes := #[] }])
  fields := #[{ name := "modCount", type := .int, accessFlags := 132, slot := 0, constantValue := 0 }]
  methods := #[k7m0]
  instanceTypes := #[.int]
  staticTypes := #[]
  resolved := Array.replicate 218 none
  statics := none }

def pool8 : Array CpInfo := pool [(1, .class_ 2), (0, u "java/util/RandomAccess"), (0, .class_ 4), (0, u "java/lang/Object")] 2

/-- java/util/RandomAccess -/
def k8 : Class := { plain "java/util/RandomAccess" (some 0) with
  accessFlags := 1537
  interfaces := #[]
  cf := some (fileOf pool8 1 #[] #[] 1537 3 #[] #[])
  fields := #[]
  methods := #[]
  instanceTypes := #[]
  staticTypes := #[]
  resolved := Array.replicate 7 none
  statics := none }

def pool9 : Array CpInfo := pool [(1, .class_ 2), (0, u "java/lang/Cloneable"), (0, .class_ 4), (0, u "java/lang/Object")] 2

/-- java/lang/Cloneable -/
def k9 : Class := { plain "java/lang/Cloneable" (some 0) with
  accessFlags := 1537
  interfaces := #[]
  cf := some (fileOf pool9 1 #[] #[] 1537 3 #[] #[])
  fields := #[]
  methods := #[]
  instanceTypes := #[]
  staticTypes := #[]
  resolved := Array.replicate 7 none
  statics := none }

def pool10 : Array CpInfo := pool [(1, .class_ 2), (0, u "java/io/Serializable"), (0, .class_ 4), (0, u "java/lang/Object")] 2

/-- java/io/Serializable -/
def k10 : Class := { plain "java/io/Serializable" (some 0) with
  accessFlags := 1537
  interfaces := #[]
  cf := some (fileOf pool10 1 #[] #[] 1537 3 #[] #[])
  fields := #[]
  methods := #[]
  instanceTypes := #[]
  staticTypes := #[]
  resolved := Array.replicate 7 none
  statics := none }

def pool11 : Array CpInfo := pool [(1, .methodref 2 3), (0, .class_ 4), (0, .nameAndType 5 6), (0, u "java/util/AbstractList"), (0, u "<init>"), (0, u "()V"), (0, .class_ 8), (0, u "java/lang/Object"), (0, .fieldref 10 11), (0, .class_ 12), (0, .nameAndType 13 14), (0, u "java/util/ArrayList"), (0, u "elementData"), (0, u "[Ljava/lang/Object;"), (2, u "EMPTY_ELEMENTDATA"), (21, .fieldref 10 40), (0, .nameAndType 41 14), (0, u "DEFAULTCAPACITY_EMPTY_ELEMENTDATA"), (5, u "()[Ljava/lang/Object;"), (0, .fieldref 10 49), (0, .nameAndType 50 51), (0, u "size"), (0, u "I"), (11, .fieldref 10 64), (0, .nameAndType 65 51), (0, u "modCount"), (3, .methodref 10 70), (0, .nameAndType 71 72), (0, u "grow"), (0, u "(I)[Ljava/lang/Object;"), (6, .methodref 80 81), (0, .class_ 82), (0, .nameAndType 83 84), (0, u "java/lang/Math"), (0, u "max"), (0, u "(II)I"), (11, u "(Ljava/lang/Object;)Z"), (21, .methodref 119 120), (0, .class_ 121), (0, .nameAndType 122 84), (0, u "java/util/Objects"), (0, u "checkIndex"), (0, .methodref 10 124), (0, .nameAndType 13 125), (0, u "(I)Ljava/lang/Object;"), (3, .methodref 10 130), (0, .nameAndType 71 47), (0, .methodref 10 132), (0, .nameAndType 133 134), (0, u "add"), (0, u "(Ljava/lang/Object;[Ljava/lang/Object;I)V"), (13, .class_ 149), (0, u "java/util/List"), (112, .class_ 263), (0, u "java/util/ArrayList$ListItr"), (3, .class_ 268), (0, u "java/util/ArrayList$Itr"), (7, .class_ 277), (0, u "java/util/ArrayList$SubList"), (12, .class_ 291), (0, u "java/util/ArrayList$ArrayListSpliterator"), (37, .class_ 330), (0, u "java/util/RandomAccess"), (0, .class_ 332), (0, u "java/lang/Cloneable"), (0, .class_ 334), (0, u "java/io/Serializable"), (0, u "serialVersionUID"), (0, u "J"), (3, u "DEFAULT_CAPACITY"), (40, u "get"), (118, .class_ 501), (0, u "java/util/ArrayList$SubList$2"), (0, .class_ 503), (0, u "java/util/ArrayList$SubList$1")] 5

def k11c0 : Code := { maxStack := 2, maxLocals := 1, code := jdk_38_method_2_code, exceptionTable := #[], attributes := #[] }
def k11m0 : Method := { name := "<init>", desc := "()V", sig := { parameters := [], returnType := none }, accessFlags := 1, code := some k11c0 }
def k11c1 : Code := { maxStack := 4, maxLocals := 4, code := jdk_38_method_6_code, exceptionTable := #[], attributes := #[] }
def k11m1 : Method := { name := "grow", desc := "(I)[Ljava/lang/Object;", sig := { parameters := [.int], returnType := some (.array (.object "java/lang/Object")) }, accessFlags := 2, code := some k11c1 }
def k11c2 : Code := { maxStack := 3, maxLocals := 1, code := jdk_38_method_7_code, exceptionTable := #[], attributes := #[] }
def k11m2 : Method := { name := "grow", desc := "()[Ljava/lang/Object;", sig := { parameters := [], returnType := some (.array (.object "java/lang/Object")) }, accessFlags := 2, code := some k11c2 }
def k11c3 : Code := { maxStack := 2, maxLocals := 2, code := jdk_38_method_18_code, exceptionTable := #[], attributes := #[] }
def k11m3 : Method := { name := "elementData", desc := "(I)Ljava/lang/Object;", sig := { parameters := [.int], returnType := some (.object "java/lang/Object") }, accessFlags := 0, code := some k11c3 }
def k11c4 : Code := { maxStack := 2, maxLocals := 2, code := jdk_38_method_20_code, exceptionTable := #[], attributes := #[] }
def k11m4 : Method := { name := "get", desc := "(I)Ljava/lang/Object;", sig := { parameters := [.int], returnType := some (.object "java/lang/Object") }, accessFlags := 1, code := some k11c4 }
def k11c5 : Code := { maxStack := 3, maxLocals := 4, code := jdk_38_method_24_code, exceptionTable := #[], attributes := #[] }
def k11m5 : Method := { name := "add", desc := "(Ljava/lang/Object;[Ljava/lang/Object;I)V", sig := { parameters := [(.object "java/lang/Object"), (.array (.object "java/lang/Object")), .int], returnType := none }, accessFlags := 2, code := some k11c5 }
def k11c6 : Code := { maxStack := 4, maxLocals := 2, code := jdk_38_method_25_code, exceptionTable := #[], attributes := #[] }
def k11m6 : Method := { name := "add", desc := "(Ljava/lang/Object;)Z", sig := { parameters := [(.object "java/lang/Object")], returnType := some .boolean }, accessFlags := 1, code := some k11c6 }
/-- java/util/ArrayList -/
def k11 : Class := { plain "java/util/ArrayList" (some 7) with
  accessFlags := 33
  interfaces := #[6, 8, 9, 10]
  cf := some (fileOf pool11 10 #[.nestMembers #[290, 276, 500, 502, 262, 267]] #[{ accessFlags := 1, nameIndex := 5, descriptorIndex := 6, attributes := #[] }, { accessFlags := 2, nameIndex := 71, descriptorIndex := 72, attributes := #[] }, { accessFlags := 2, nameIndex := 71, descriptorIndex := 47, attributes := #[] }, { accessFlags := 0, nameIndex := 13, descriptorIndex := 125, attributes := #[] }, { accessFlags := 1, nameIndex := 381, descriptorIndex := 125, attributes := #[] }, { accessFlags := 2, nameIndex := 133, descriptorIndex := 134, attributes := #[] }, { accessFlags := 1, nameIndex := 133, descriptorIndex := 96, attributes := #[] }] 33 2 #[148, 329, 331, 333] #[{ accessFlags := 26, nameIndex := 335, descriptorIndex := 336, attributes := #[] }, { accessFlags := 26, nameIndex := 340, descriptorIndex := 51, attributes := #[] }, { accessFlags := 26, nameIndex := 17, descriptorIndex := 14, attributes := #[] }, { accessFlags := 26, nameIndex := 41, descriptorIndex := 14, attributes := #[] }, { accessFlags := 128, nameIndex := 13, descriptorIndex := 14, attributes := #[] }, { accessFlags := 2, nameIndex := 50, descriptorIndex := 51, attributes := #[] }])
  fields := #[{ name := "serialVersionUID", type := .long, accessFlags := 26, slot := 0, constantValue := 0 }, { name := "DEFAULT_CAPACITY", type := .int, accessFlags := 26, slot := 1, constantValue := 0 }, { name := "EMPTY_ELEMENTDATA", type := (.array (.object "java/lang/Object")), accessFlags := 26, slot := 2, constantValue := 0 }, { name := "DEFAULTCAPACITY_EMPTY_ELEMENTDATA", type := (.array (.object "java/lang/Object")), accessFlags := 26, slot := 3, constantValue := 0 }, { name := "elementData", type := (.array (.object "java/lang/Object")), accessFlags := 128, slot := 1, constantValue := 0 }, { name := "size", type := .int, accessFlags := 2, slot := 2, constantValue := 0 }]
  methods := #[k11m0, k11m1, k11m2, k11m3, k11m4, k11m5, k11m6]
  instanceTypes := #[.int, (.array (.object "java/lang/Object")), .int]
  staticTypes := #[.long, .int, (.array (.object "java/lang/Object")), (.array (.object "java/lang/Object"))]
  resolved := Array.replicate 509 none
  statics := some 0 }

def pool12 : Array CpInfo := pool [(1, .methodref 2 3), (0, .class_ 4), (0, .nameAndType 5 6), (0, u "java/lang/Object"), (0, u "<init>"), (0, u "()V"), (0, .class_ 8), (0, u "java/lang/Record")] 13

def k12c0 : Code := { maxStack := 1, maxLocals := 1, code := jdk_30_method_1_code, exceptionTable := #[], attributes := #[] }
def k12m0 : Method := { name := "<init>", desc := "()V", sig := { parameters := [], returnType := none }, accessFlags := 4, code := some k12c0 }
/-- java/lang/Record -/
def k12 : Class := { plain "java/lang/Record" (some 0) with
  accessFlags := 1057
  interfaces := #[]
  cf := some (fileOf pool12 7 #[] #[{ accessFlags := 4, nameIndex := 5, descriptorIndex := 6, attributes := #[] }] 1057 2 #[] #[])
  fields := #[]
  methods := #[k12m0]
  instanceTypes := #[]
  staticTypes := #[]
  resolved := Array.replicate 22 none
  statics := none }

def pool13 : Array CpInfo := pool [(1, .methodref 2 3), (0, .class_ 4), (0, .nameAndType 5 6), (0, u "java/lang/Record"), (0, u "<init>"), (0, u "()V"), (0, .fieldref 8 9), (0, .class_ 10), (0, .nameAndType 11 12), (0, u "com/example/hydromeme/hydromeme/Network$Junction"), (0, u "id"), (0, u "Ljava/lang/String;"), (0, .fieldref 8 14), (0, .nameAndType 15 16), (0, u "elevation"), (0, u "D"), (0, .fieldref 8 18), (0, .nameAndType 19 16), (0, u "demand"), (12, u "(Ljava/lang/String;DD)V"), (6, u "()D"), (3, .class_ 44), (0, u "com/example/hydromeme/hydromeme/Network")] 21

def k13c0 : Code := { maxStack := 3, maxLocals := 6, code := prog_35_method_1_code, exceptionTable := #[], attributes := #[] }
def k13m0 : Method := { name := "<init>", desc := "(Ljava/lang/String;DD)V", sig := { parameters := [(.object "java/lang/String"), .double, .double], returnType := none }, accessFlags := 0, code := some k13c0 }
def k13c1 : Code := { maxStack := 2, maxLocals := 1, code := prog_35_method_6_code, exceptionTable := #[], attributes := #[] }
def k13m1 : Method := { name := "elevation", desc := "()D", sig := { parameters := [], returnType := some .double }, accessFlags := 1, code := some k13c1 }
/-- com/example/hydromeme/hydromeme/Network$Junction -/
def k13 : Class := { plain "com/example/hydromeme/hydromeme/Network$Junction" (some 12) with
  accessFlags := 48
  interfaces := #[]
  cf := some (fileOf pool13 8 #[.nestHost 43] #[{ accessFlags := 0, nameIndex := 5, descriptorIndex := 32, attributes := #[] }, { accessFlags := 1, nameIndex := 15, descriptorIndex := 39, attributes := #[] }] 48 2 #[] #[{ accessFlags := 18, nameIndex := 11, descriptorIndex := 12, attributes := #[] }, { accessFlags := 18, nameIndex := 15, descriptorIndex := 16, attributes := #[] }, { accessFlags := 18, nameIndex := 19, descriptorIndex := 16, attributes := #[] }])
  fields := #[{ name := "id", type := (.object "java/lang/String"), accessFlags := 18, slot := 0, constantValue := 0 }, { name := "elevation", type := .double, accessFlags := 18, slot := 1, constantValue := 0 }, { name := "demand", type := .double, accessFlags := 18, slot := 2, constantValue := 0 }]
  methods := #[k13m0, k13m1]
  instanceTypes := #[(.object "java/lang/String"), .double, .double]
  staticTypes := #[]
  resolved := Array.replicate 66 none
  statics := none }

def pool14 : Array CpInfo := pool [(1, .class_ 2), (0, u "java/lang/Comparable"), (0, .class_ 4), (0, u "java/lang/Object")] 7

/-- java/lang/Comparable -/
def k14 : Class := { plain "java/lang/Comparable" (some 0) with
  accessFlags := 1537
  interfaces := #[]
  cf := some (fileOf pool14 1 #[] #[] 1537 3 #[] #[])
  fields := #[]
  methods := #[]
  instanceTypes := #[]
  staticTypes := #[]
  resolved := Array.replicate 12 none
  statics := none }

def pool15 : Array CpInfo := pool [(2, .class_ 4), (1, u "java/lang/CharSequence"), (42, .class_ 48), (0, u "java/lang/CharSequence$1CodePointIterator"), (10, .class_ 60), (0, u "java/lang/CharSequence$1CharIterator"), (5, .class_ 67), (0, u "java/lang/Object")] 63

/-- java/lang/CharSequence -/
def k15 : Class := { plain "java/lang/CharSequence" (some 0) with
  accessFlags := 1537
  interfaces := #[]
  cf := some (fileOf pool15 2 #[.nestMembers #[47, 59]] #[] 1537 66 #[] #[])
  fields := #[]
  methods := #[]
  instanceTypes := #[]
  staticTypes := #[]
  resolved := Array.replicate 131 none
  statics := none }

def pool16 : Array CpInfo := pool [(1, .class_ 2), (0, u "java/lang/constant/Constable"), (0, .class_ 4), (0, u "java/lang/Object")] 6

/-- java/lang/constant/Constable -/
def k16 : Class := { plain "java/lang/constant/Constable" (some 0) with
  accessFlags := 1537
  interfaces := #[]
  cf := some (fileOf pool16 1 #[] #[] 1537 3 #[] #[])
  fields := #[]
  methods := #[]
  instanceTypes := #[]
  staticTypes := #[]
  resolved := Array.replicate 11 none
  statics := none }

def pool17 : Array CpInfo := pool [(1, .class_ 2), (0, u "java/lang/constant/ConstantDesc"), (0, .class_ 4), (0, u "java/lang/Object")] 32

/-- java/lang/constant/ConstantDesc -/
def k17 : Class := { plain "java/lang/constant/ConstantDesc" (some 0) with
  accessFlags := 1537
  interfaces := #[]
  cf := some (fileOf pool17 1 #[] #[] 1537 3 #[] #[])
  fields := #[]
  methods := #[]
  instanceTypes := #[]
  staticTypes := #[]
  resolved := Array.replicate 37 none
  statics := none }

def pool18 : Array CpInfo := pool [(2, .class_ 4), (1, u "java/lang/Object"), (0, u "<init>"), (0, u "()V"), (3, .class_ 12), (1, u "java/lang/String"), (0, u "value"), (0, u "[B"), (2, u "coder"), (0, u "B"), (2, u "hash"), (0, u "I"), (2, u "hashIsZero"), (0, u "Z"), (13, u "COMPACT_STRINGS"), (534, .class_ 576), (0, u "java/lang/CharSequence"), (22, u "CASE_INSENSITIVE_ORDER"), (0, u "Ljava/util/Comparator;"), (500, u "serialPersistentFields"), (0, u "[Ljava/io/ObjectStreamField;"), (0, .class_ 1104), (0, u "java/lang/String$CaseInsensitiveComparator"), (1, .class_ 1107), (0, u "java/io/Serializable"), (0, .class_ 1109), (0, u "java/lang/Comparable"), (0, .class_ 1111), (0, u "java/lang/constant/Constable"), (0, .class_ 1113), (0, u "java/lang/constant/ConstantDesc"), (2, u "serialVersionUID"), (0, u "J"), (3, u "REPL"), (0, u "C"), (2, u "LATIN1"), (1, u "UTF16")] 323

def k18m0 : Method := { name := "<init>", desc := "()V", sig := { parameters := [], returnType := none }, accessFlags := 1, code := none }
/-- java/lang/String -/
def k18 : Class := { plain "java/lang/String" (some 0) with
  accessFlags := 49
  interfaces := #[10, 14, 15, 16, 17]
  cf := some (fileOf pool18 10 #[.nestMembers #[1103]] #[{ accessFlags := 1, nameIndex := 5, descriptorIndex := 6, attributes := #[] }] 49 2 #[1106, 1108, 575, 1110, 1112] #[{ accessFlags := 18, nameIndex := 13, descriptorIndex := 14, attributes := #[] }, { accessFlags := 18, nameIndex := 17, descriptorIndex := 18, attributes := #[] }, { accessFlags := 2, nameIndex := 21, descriptorIndex := 22, attributes := #[] }, { accessFlags := 2, nameIndex := 25, descriptorIndex := 26, attributes := #[] }, { accessFlags := 26, nameIndex := 1116, descriptorIndex := 1117, attributes := #[] }, { accessFlags := 24, nameIndex := 40, descriptorIndex := 26, attributes := #[] }, { accessFlags := 26, nameIndex := 1101, descriptorIndex := 1102, attributes := #[] }, { accessFlags := 26, nameIndex := 1121, descriptorIndex := 1122, attributes := #[] }, { accessFlags := 25, nameIndex := 599, descriptorIndex := 600, attributes := #[] }, { accessFlags := 24, nameIndex := 1125, descriptorIndex := 18, attributes := #[] }, { accessFlags := 24, nameIndex := 1127, descriptorIndex := 18, attributes := #[] }])
  fields := #[{ name := "value", type := (.array .byte), accessFlags := 18, slot := 0, constantValue := 0 }, { name := "coder", type := .byte, accessFlags := 18, slot := 1, constantValue := 0 }, { name := "hash", type := .int, accessFlags := 2, slot := 2, constantValue := 0 }, { name := "hashIsZero", type := .boolean, accessFlags := 2, slot := 3, constantValue := 0 }, { name := "serialVersionUID", type := .long, accessFlags := 26, slot := 0, constantValue := 0 }, { name := "COMPACT_STRINGS", type := .boolean, accessFlags := 24, slot := 1, constantValue := 0 }, { name := "serialPersistentFields", type := (.array (.object "java/io/ObjectStreamField")), accessFlags := 26, slot := 2, constantValue := 0 }, { name := "REPL", type := .char, accessFlags := 26, slot := 3, constantValue := 0 }, { name := "CASE_INSENSITIVE_ORDER", type := (.object "java/util/Comparator"), accessFlags := 25, slot := 4, constantValue := 0 }, { name := "LATIN1", type := .byte, accessFlags := 24, slot := 5, constantValue := 0 }, { name := "UTF16", type := .byte, accessFlags := 24, slot := 6, constantValue := 0 }]
  methods := #[k18m0]
  instanceTypes := #[(.array .byte), .byte, .int, .boolean]
  staticTypes := #[.long, .boolean, (.array (.object "java/io/ObjectStreamField")), .char, (.object "java/util/Comparator"), .byte, .byte]
  resolved := Array.replicate 1451 none
  statics := none }

def pool19 : Array CpInfo := pool [(1, .class_ 2), (0, u "java/lang/Math"), (1, .class_ 6), (1, u "java/lang/Object"), (0, u "<init>"), (0, u "()V"), (43, u "(DD)D"), (45, .class_ 100), (1, u "java/lang/Math$RandomNumberGeneratorHolder"), (71, u "negativeZeroFloatBits"), (0, u "J"), (2, u "negativeZeroDoubleBits"), (21, u "max"), (46, u "$assertionsDisabled"), (0, u "Z"), (88, u "(II)I"), (2, u "twoToTheDoubleScaleDown"), (0, u "D"), (4, u "twoToTheDoubleScaleUp"), (9, u "E"), (3, u "PI"), (2, u "TAU"), (2, u "DEGREES_TO_RADIANS"), (0, u "RADIANS_TO_DEGREES")] 94

def k19m0 : Method := { name := "<init>", desc := "()V", sig := { parameters := [], returnType := none }, accessFlags := 2, code := none }
def k19c1 : Code := { maxStack := 2, maxLocals := 2, code := jdk_29_method_65_code, exceptionTable := #[], attributes := #[] }
def k19m1 : Method := { name := "max", desc := "(II)I", sig := { parameters := [.int, .int], returnType := some .int }, accessFlags := 9, code := some k19c1 }
def k19c2 : Code := { maxStack := 4, maxLocals := 4, code := jdk_29_method_68_code, exceptionTable := #[], attributes := #[] }
def k19m2 : Method := { name := "max", desc := "(DD)D", sig := { parameters := [.double, .double], returnType := some .double }, accessFlags := 9, code := some k19c2 }
/-- java/lang/Math -/
def k19 : Class := { plain "java/lang/Math" (some 0) with
  accessFlags := 49
  interfaces := #[]
  cf := some (fileOf pool19 1 #[.nestMembers #[98]] #[{ accessFlags := 2, nameIndex := 7, descriptorIndex := 8, attributes := #[] }, { accessFlags := 9, nameIndex := 198, descriptorIndex := 335, attributes := #[] }, { accessFlags := 9, nameIndex := 198, descriptorIndex := 52, attributes := #[] }] 49 4 #[] #[{ accessFlags := 25, nameIndex := 354, descriptorIndex := 339, attributes := #[] }, { accessFlags := 25, nameIndex := 358, descriptorIndex := 339, attributes := #[] }, { accessFlags := 25, nameIndex := 361, descriptorIndex := 339, attributes := #[] }, { accessFlags := 26, nameIndex := 364, descriptorIndex := 339, attributes := #[] }, { accessFlags := 26, nameIndex := 365, descriptorIndex := 339, attributes := #[] }, { accessFlags := 26, nameIndex := 172, descriptorIndex := 173, attributes := #[] }, { accessFlags := 26, nameIndex := 176, descriptorIndex := 173, attributes := #[] }, { accessFlags := 8, nameIndex := 344, descriptorIndex := 339, attributes := #[] }, { accessFlags := 8, nameIndex := 338, descriptorIndex := 339, attributes := #[] }, { accessFlags := 4120, nameIndex := 245, descriptorIndex := 246, attributes := #[] }])
  fields := #[{ name := "E", type := .double, accessFlags := 25, slot := 0, constantValue := 0 }, { name := "PI", type := .double, accessFlags := 25, slot := 1, constantValue := 0 }, { name := "TAU", type := .double, accessFlags := 25, slot := 2, constantValue := 0 }, { name := "DEGREES_TO_RADIANS", type := .double, accessFlags := 26, slot := 3, constantValue := 0 }, { name := "RADIANS_TO_DEGREES", type := .double, accessFlags := 26, slot := 4, constantValue := 0 }, { name := "negativeZeroFloatBits", type := .long, accessFlags := 26, slot := 5, constantValue := 0 }, { name := "negativeZeroDoubleBits", type := .long, accessFlags := 26, slot := 6, constantValue := 0 }, { name := "twoToTheDoubleScaleUp", type := .double, accessFlags := 8, slot := 7, constantValue := 0 }, { name := "twoToTheDoubleScaleDown", type := .double, accessFlags := 8, slot := 8, constantValue := 0 }, { name := "$assertionsDisabled", type := .boolean, accessFlags := 4120, slot := 9, constantValue := 0 }]
  methods := #[k19m0, k19m1, k19m2]
  instanceTypes := #[]
  staticTypes := #[.double, .double, .double, .double, .double, .long, .long, .double, .double, .boolean]
  resolved := Array.replicate 460 none
  statics := none }

def pool20 : Array CpInfo := pool [(1, .methodref 2 3), (0, .class_ 4), (0, .nameAndType 5 6), (0, u "java/lang/Record"), (0, u "<init>"), (0, u "()V"), (0, .fieldref 8 9), (0, .class_ 10), (0, .nameAndType 11 12), (0, u "com/example/hydromeme/hydromeme/Evaluation"), (0, u "cost"), (0, u "D"), (0, .fieldref 8 14), (0, .nameAndType 15 16), (0, u "heads"), (0, u "[D"), (0, .fieldref 8 18), (0, .nameAndType 19 16), (0, u "pressures"), (0, .fieldref 8 21), (0, .nameAndType 22 16), (0, u "margins"), (0, .fieldref 8 24), (0, .nameAndType 25 16), (0, u "flows"), (0, .fieldref 8 27), (0, .nameAndType 28 29), (0, u "critical"), (0, u "I"), (0, .fieldref 8 31), (0, .nameAndType 32 12), (0, u "deficit"), (0, .interfaceMethodref 34 35), (0, .class_ 36), (0, .nameAndType 37 38), (0, u "java/util/List"), (0, u "get"), (0, u "(I)Ljava/lang/Object;"), (0, .class_ 40), (0, u "com/example/hydromeme/hydromeme/Network$Junction"), (0, .methodref 39 42), (0, .nameAndType 43 44), (0, u "elevation"), (0, u "()D"), (0, .methodref 46 47), (0, .class_ 48), (0, .nameAndType 49 50), (0, u "java/lang/Math"), (0, u "max"), (0, u "(DD)D"), (0, .methodref 8 52), (0, .nameAndType 5 53), (0, u "(D[D[D[D[DID)V"), (15, u "of"), (0, u "(D[D[DLjava/util/List;[D)Lcom/example/hydromeme/hydromeme/Evaluation;"), (5, u "feasible"), (0, u "()Z")] 33

def k20c0 : Code := { maxStack := 3, maxLocals := 10, code := prog_9_method_1_code, exceptionTable := #[], attributes := #[] }
def k20m0 : Method := { name := "<init>", desc := "(D[D[D[D[DID)V", sig := { parameters := [.double, (.array .double), (.array .double), (.array .double), (.array .double), .int, .double], returnType := none }, accessFlags := 0, code := some k20c0 }
def k20c1 : Code := { maxStack := 11, maxLocals := 12, code := prog_9_method_2_code, exceptionTable := #[], attributes := #[] }
def k20m1 : Method := { name := "of", desc := "(D[D[DLjava/util/List;[D)Lcom/example/hydromeme/hydromeme/Evaluation;", sig := { parameters := [.double, (.array .double), (.array .double), (.object "java/util/List"), (.array .double)], returnType := some (.object "com/example/hydromeme/hydromeme/Evaluation") }, accessFlags := 8, code := some k20c1 }
def k20c2 : Code := { maxStack := 4, maxLocals := 1, code := prog_9_method_4_code, exceptionTable := #[], attributes := #[] }
def k20m2 : Method := { name := "feasible", desc := "()Z", sig := { parameters := [], returnType := some .boolean }, accessFlags := 0, code := some k20c2 }
/-- com/example/hydromeme/hydromeme/Evaluation -/
def k20 : Class := { plain "com/example/hydromeme/hydromeme/Evaluation" (some 12) with
  accessFlags := 48
  interfaces := #[]
  cf := some (fileOf pool20 8 #[] #[{ accessFlags := 0, nameIndex := 5, descriptorIndex := 53, attributes := #[] }, { accessFlags := 8, nameIndex := 69, descriptorIndex := 70, attributes := #[] }, { accessFlags := 0, nameIndex := 76, descriptorIndex := 77, attributes := #[] }] 48 2 #[] #[{ accessFlags := 18, nameIndex := 11, descriptorIndex := 12, attributes := #[] }, { accessFlags := 18, nameIndex := 15, descriptorIndex := 16, attributes := #[] }, { accessFlags := 18, nameIndex := 19, descriptorIndex := 16, attributes := #[] }, { accessFlags := 18, nameIndex := 22, descriptorIndex := 16, attributes := #[] }, { accessFlags := 18, nameIndex := 25, descriptorIndex := 16, attributes := #[] }, { accessFlags := 18, nameIndex := 28, descriptorIndex := 29, attributes := #[] }, { accessFlags := 18, nameIndex := 32, descriptorIndex := 12, attributes := #[] }])
  fields := #[{ name := "cost", type := .double, accessFlags := 18, slot := 0, constantValue := 0 }, { name := "heads", type := (.array .double), accessFlags := 18, slot := 1, constantValue := 0 }, { name := "pressures", type := (.array .double), accessFlags := 18, slot := 2, constantValue := 0 }, { name := "margins", type := (.array .double), accessFlags := 18, slot := 3, constantValue := 0 }, { name := "flows", type := (.array .double), accessFlags := 18, slot := 4, constantValue := 0 }, { name := "critical", type := .int, accessFlags := 18, slot := 5, constantValue := 0 }, { name := "deficit", type := .double, accessFlags := 18, slot := 6, constantValue := 0 }]
  methods := #[k20m0, k20m1, k20m2]
  instanceTypes := #[.double, (.array .double), (.array .double), (.array .double), (.array .double), .int, .double]
  staticTypes := #[]
  resolved := Array.replicate 111 none
  statics := none }

def pool21 : Array CpInfo := pool [(2, .class_ 4), (1, u "java/lang/Object"), (0, u "<init>"), (0, u "()V"), (35, .class_ 44), (1, u "java/util/Objects"), (60, .methodref 106 107), (0, .class_ 108), (0, .nameAndType 109 110), (0, u "jdk/internal/util/Preconditions"), (0, u "checkIndex"), (0, u "(IILjava/util/function/BiFunction;)I"), (60, u "(II)I")] 12

def k21m0 : Method := { name := "<init>", desc := "()V", sig := { parameters := [], returnType := none }, accessFlags := 2, code := none }
def k21c1 : Code := { maxStack := 3, maxLocals := 2, code := jdk_31_method_17_code, exceptionTable := #[], attributes := #[] }
def k21m1 : Method := { name := "checkIndex", desc := "(II)I", sig := { parameters := [.int, .int], returnType := some .int }, accessFlags := 9, code := some k21c1 }
/-- java/util/Objects -/
def k21 : Class := { plain "java/util/Objects" (some 0) with
  accessFlags := 49
  interfaces := #[]
  cf := some (fileOf pool21 42 #[] #[{ accessFlags := 2, nameIndex := 5, descriptorIndex := 6, attributes := #[] }, { accessFlags := 9, nameIndex := 109, descriptorIndex := 171, attributes := #[] }] 49 2 #[] #[])
  fields := #[]
  methods := #[k21m0, k21m1]
  instanceTypes := #[]
  staticTypes := #[]
  resolved := Array.replicate 184 none
  statics := none }

def pool22 : Array CpInfo := pool [(2, .class_ 4), (1, u "java/lang/Object"), (0, u "<init>"), (0, u "()V"), (17, .class_ 26), (1, u "jdk/internal/util/Preconditions"), (6, u "checkIndex"), (21, .class_ 56), (0, u "jdk/internal/util/Preconditions$4"), (57, .class_ 115), (0, u "jdk/internal/util/Preconditions$1"), (7, u "SIOOBE_FORMATTER"), (0, u "Ljava/util/function/BiFunction;"), (0, .class_ 126), (0, u "jdk/internal/util/Preconditions$2"), (3, u "AIOOBE_FORMATTER"), (0, .class_ 132), (0, u "jdk/internal/util/Preconditions$3"), (3, u "IOOBE_FORMATTER"), (41, u "(IILjava/util/function/BiFunction;)I")] 15

def k22m0 : Method := { name := "<init>", desc := "()V", sig := { parameters := [], returnType := none }, accessFlags := 1, code := none }
def k22c1 : Code := { maxStack := 3, maxLocals := 3, code := jdk_41_method_11_code, exceptionTable := #[], attributes := #[] }
def k22m1 : Method := { name := "checkIndex", desc := "(IILjava/util/function/BiFunction;)I", sig := { parameters := [.int, .int, (.object "java/util/function/BiFunction")], returnType := some .int }, accessFlags := 9, code := some k22c1 }
/-- jdk/internal/util/Preconditions -/
def k22 : Class := { plain "jdk/internal/util/Preconditions" (some 0) with
  accessFlags := 33
  interfaces := #[]
  cf := some (fileOf pool22 24 #[.nestMembers #[55, 131, 125, 114]] #[{ accessFlags := 1, nameIndex := 5, descriptorIndex := 6, attributes := #[] }, { accessFlags := 9, nameIndex := 33, descriptorIndex := 178, attributes := #[] }] 33 2 #[] #[{ accessFlags := 25, nameIndex := 123, descriptorIndex := 124, attributes := #[] }, { accessFlags := 25, nameIndex := 130, descriptorIndex := 124, attributes := #[] }, { accessFlags := 25, nameIndex := 136, descriptorIndex := 124, attributes := #[] }])
  fields := #[{ name := "SIOOBE_FORMATTER", type := (.object "java/util/function/BiFunction"), accessFlags := 25, slot := 0, constantValue := 0 }, { name := "AIOOBE_FORMATTER", type := (.object "java/util/function/BiFunction"), accessFlags := 25, slot := 1, constantValue := 0 }, { name := "IOOBE_FORMATTER", type := (.object "java/util/function/BiFunction"), accessFlags := 25, slot := 2, constantValue := 0 }]
  methods := #[k22m0, k22m1]
  instanceTypes := #[]
  staticTypes := #[(.object "java/util/function/BiFunction"), (.object "java/util/function/BiFunction"), (.object "java/util/function/BiFunction")]
  resolved := Array.replicate 194 none
  statics := none }

/-- the primitive byte -/
def k23 : Class := { plain "byte" none with kind := .primitive 'B', accessFlags := 0x411 }
/-- [B -/
def k24 : Class := { plain "[B" (some 0) with kind := .array 23 .byte, interfaces := #[9, 10], accessFlags := 1041 }

/-- the primitive int -/
def k25 : Class := { plain "int" none with kind := .primitive 'I', accessFlags := 0x411 }
/-- [I -/
def k26 : Class := { plain "[I" (some 0) with kind := .array 25 .int, interfaces := #[9, 10], accessFlags := 1041 }

/-- the primitive double -/
def k27 : Class := { plain "double" none with kind := .primitive 'D', accessFlags := 0x411 }
/-- [D -/
def k28 : Class := { plain "[D" (some 0) with kind := .array 27 .double, interfaces := #[9, 10], accessFlags := 1041 }

/-- [Ljava/lang/Object; -/
def k29 : Class := { plain "[Ljava/lang/Object;" (some 0) with kind := .array 0 (.object "java/lang/Object"), interfaces := #[9, 10], accessFlags := 1041 }

def heap : Heap := #[{ cls := 11, slots := #[.long 0, .int 0, .ref 1, .ref 2], vm := .statics 11 },
  { cls := 29, slots := #[], vm := .none },
  { cls := 29, slots := #[], vm := .none }]
def classes : Array Class := #[k0, k1, k2, k3, k4, k5, k6, k7, k8, k9, k10, k11, k12, k13, k14, k15, k16, k17, k18, k19, k20, k21, k22, k23, k24, k25, k26, k27, k28, k29]
def interned : List (Array UInt16 × Addr) := []
def slotsUsed : Nat := 4
def theMethod : MethodId := ⟨1, 1⟩
def args0 : Array Value := #[.int 5, .int 5, .int 5, .int 5, .int 5, .int 5]
def aboutOver (below : List Frame) : State where
  vm := { classes := classes, interned := interned.toArray }
  heap := heap
  slotsUsed := slotsUsed
  threads := #[{ frames := .invoking theMethod args0 :: below }]
def below0 : List Frame := [.native { method := ⟨0, 0⟩, args := #[] }]
def about1 : State := aboutOver below0
def p0 : Program := .bare "" "" ""
def e0 : Env := launch0.env 0 0 0
theorem w_frames : about1.frames = Frame.invoking theMethod args0 :: below0 := rfl
set_option maxRecDepth 65536 in
theorem w_args : argsFit about1.vm theMethod args0 = true := by decide +kernel
set_option maxRecDepth 65536 in
theorem w_heap : heapFits about1 = true := by decide +kernel
set_option maxRecDepth 65536 in
theorem w_runnable : about1.curStatus? = some .runnable := by decide +kernel
set_option maxRecDepth 65536 in
theorem w_alone : about1.alone = true := by decide +kernel
set_option maxRecDepth 65536 in
theorem w_named : about1.methodNamed? x = some theMethod := by decide +kernel
set_option maxRecDepth 65536 in
theorem w_hears : about1.hears theMethod below0 = true := by decide +kernel
set_option maxRecDepth 65536 in
theorem w_ripe : about1.ripe theMethod args0 below0 = true := by decide +kernel
theorem w_running : about1.status = .running := rfl
set_option maxRecDepth 65536 in
theorem w_room : about1.hasRoom e0.platform room_1 = true :=
  launch0.hasRoom_least _ room_1 (by decide +kernel) (by decide +kernel) (by decide +kernel) (by decide +kernel) (by decide +kernel) (by decide +kernel)
theorem allAtoms_all (ts : List Jvm.Cond) (a : Array Jvm.Value) (st : Jvm.State) : (allAtoms ts).before a st = ts.all (fun c => c.before a st) := by
  induction ts with
  | nil => rfl
  | cons c t ih =>
    show (Jvm.Cond.and c (allAtoms t)).before a st = _
    rw [Jvm.Cond.before_and, ih, List.all_cons]
def words1 : List Jvm.Cond := Jvm.Cond.code x code maxLocals ret :: tables_1
/-- a 'code' word, met by the world's own term for the bytes: nothing is compared byte by byte -/
theorem code_word {y : MethodName} {bytes : ByteArray} {mx : Nat} {rt : Option FieldType} {a : Array Value} {s : State} {m : MethodId} {meth : Method} {c : Code} (h1 : s.methodNamed? y = some m) (h2 : s.vm.method? m = some meth) (h3 : meth.code = some c) (h4 : c.code = bytes)
    (h5 : (c.maxLocals == mx && c.exceptionTable.isEmpty && decide (c.maxStack ≤ mostOperands) && decide (meth.sig.returnType = rt) && !meth.locks && decide (parseMethodDescriptor y.desc = some meth.sig)) = true) : (Jvm.Cond.code y bytes mx rt).before a s = true := by
  simp only [Bool.and_eq_true, beq_iff_eq, Bool.not_eq_true', decide_eq_true_eq] at h5
  obtain ⟨⟨⟨⟨⟨g1, g2⟩, g3⟩, g4⟩, g5⟩, g6⟩ := h5
  simp [Cond.before, Cond.holds, Cond.value, h1, h2, h3, h4, g1, g2, g3, g4, g5, g6]
def isCode : Jvm.Cond → Bool
  | .code _ _ _ _ => true
  | _ => false
theorem all_split {L : List Jvm.Cond} {P : Jvm.Cond → Bool} (h1 : L.all (fun c => isCode c || P c) = true) (h2 : ∀ c ∈ L.filter isCode, P c = true) : L.all P = true := by
  refine List.all_eq_true.mpr fun c hc => ?_
  have h := List.all_eq_true.mp h1 c hc
  rcases Bool.eq_false_or_eq_true (isCode c) with hi | hi
  · exact h2 c (List.mem_filter.mpr ⟨hc, hi⟩)
  · simpa [hi] using h
set_option maxRecDepth 65536 in
theorem w_c0 : (Jvm.Cond.code x code maxLocals ret).before args0 about1 = true := code_word (m := ⟨1, 1⟩) (meth := k1m1) (c := k1c1) (by decide +kernel) rfl rfl rfl (by decide +kernel)
set_option maxRecDepth 65536 in
theorem w_c1 : (Jvm.Cond.code ({ cls := "java/util/ArrayList", name := "<init>", desc := "()V" } : Jvm.MethodName) jdk_38_method_2_code (1 : Nat) (Option.none : Option Jvm.ClassFile.FieldType)).before args0 about1 = true := code_word (m := ⟨11, 0⟩) (meth := k11m0) (c := k11c0) (by decide +kernel) rfl rfl rfl (by decide +kernel)
set_option maxRecDepth 65536 in
theorem w_c2 : (Jvm.Cond.code ({ cls := "java/util/AbstractList", name := "<init>", desc := "()V" } : Jvm.MethodName) jdk_39_method_1_code (1 : Nat) (Option.none : Option Jvm.ClassFile.FieldType)).before args0 about1 = true := code_word (m := ⟨7, 0⟩) (meth := k7m0) (c := k7c0) (by decide +kernel) rfl rfl rfl (by decide +kernel)
set_option maxRecDepth 65536 in
theorem w_c3 : (Jvm.Cond.code ({ cls := "java/util/AbstractCollection", name := "<init>", desc := "()V" } : Jvm.MethodName) jdk_22_method_1_code (1 : Nat) (Option.none : Option Jvm.ClassFile.FieldType)).before args0 about1 = true := code_word (m := ⟨4, 0⟩) (meth := k4m0) (c := k4c0) (by decide +kernel) rfl rfl rfl (by decide +kernel)
set_option maxRecDepth 65536 in
theorem w_c4 : (Jvm.Cond.code ({ cls := "java/lang/Object", name := "<init>", desc := "()V" } : Jvm.MethodName) object_method_1_code (1 : Nat) (Option.none : Option Jvm.ClassFile.FieldType)).before args0 about1 = true := code_word (m := ⟨0, 0⟩) (meth := k0m0) (c := k0c0) (by decide +kernel) rfl rfl rfl (by decide +kernel)
set_option maxRecDepth 65536 in
theorem w_c5 : (Jvm.Cond.code ({ cls := "com/example/hydromeme/hydromeme/Network$Junction", name := "<init>", desc := "(Ljava/lang/String;DD)V" } : Jvm.MethodName) prog_35_method_1_code (6 : Nat) (Option.none : Option Jvm.ClassFile.FieldType)).before args0 about1 = true := code_word (m := ⟨13, 0⟩) (meth := k13m0) (c := k13c0) (by decide +kernel) rfl rfl rfl (by decide +kernel)
set_option maxRecDepth 65536 in
theorem w_c6 : (Jvm.Cond.code ({ cls := "java/lang/Record", name := "<init>", desc := "()V" } : Jvm.MethodName) jdk_30_method_1_code (1 : Nat) (Option.none : Option Jvm.ClassFile.FieldType)).before args0 about1 = true := code_word (m := ⟨12, 0⟩) (meth := k12m0) (c := k12c0) (by decide +kernel) rfl rfl rfl (by decide +kernel)
set_option maxRecDepth 65536 in
theorem w_c7 : (Jvm.Cond.code ({ cls := "java/util/ArrayList", name := "add", desc := "(Ljava/lang/Object;)Z" } : Jvm.MethodName) jdk_38_method_25_code (2 : Nat) (Option.some Jvm.ClassFile.FieldType.boolean)).before args0 about1 = true := code_word (m := ⟨11, 6⟩) (meth := k11m6) (c := k11c6) (by decide +kernel) rfl rfl rfl (by decide +kernel)
set_option maxRecDepth 65536 in
theorem w_c8 : (Jvm.Cond.code ({ cls := "java/util/ArrayList", name := "add", desc := "(Ljava/lang/Object;[Ljava/lang/Object;I)V" } : Jvm.MethodName) jdk_38_method_24_code (4 : Nat) (Option.none : Option Jvm.ClassFile.FieldType)).before args0 about1 = true := code_word (m := ⟨11, 5⟩) (meth := k11m5) (c := k11c5) (by decide +kernel) rfl rfl rfl (by decide +kernel)
set_option maxRecDepth 65536 in
theorem w_c9 : (Jvm.Cond.code ({ cls := "java/util/ArrayList", name := "grow", desc := "()[Ljava/lang/Object;" } : Jvm.MethodName) jdk_38_method_7_code (1 : Nat) (Option.some (Jvm.ClassFile.FieldType.array (Jvm.ClassFile.FieldType.object "java/lang/Object")))).before args0 about1 = true := code_word (m := ⟨11, 2⟩) (meth := k11m2) (c := k11c2) (by decide +kernel) rfl rfl rfl (by decide +kernel)
set_option maxRecDepth 65536 in
theorem w_c10 : (Jvm.Cond.code ({ cls := "java/util/ArrayList", name := "grow", desc := "(I)[Ljava/lang/Object;" } : Jvm.MethodName) jdk_38_method_6_code (4 : Nat) (Option.some (Jvm.ClassFile.FieldType.array (Jvm.ClassFile.FieldType.object "java/lang/Object")))).before args0 about1 = true := code_word (m := ⟨11, 1⟩) (meth := k11m1) (c := k11c1) (by decide +kernel) rfl rfl rfl (by decide +kernel)
set_option maxRecDepth 65536 in
theorem w_c11 : (Jvm.Cond.code ({ cls := "java/lang/Math", name := "max", desc := "(II)I" } : Jvm.MethodName) jdk_29_method_65_code (2 : Nat) (Option.some Jvm.ClassFile.FieldType.int)).before args0 about1 = true := code_word (m := ⟨19, 1⟩) (meth := k19m1) (c := k19c1) (by decide +kernel) rfl rfl rfl (by decide +kernel)
set_option maxRecDepth 65536 in
theorem w_c12 : (Jvm.Cond.code ({ cls := "com/example/hydromeme/hydromeme/Evaluation", name := "of", desc := "(D[D[DLjava/util/List;[D)Lcom/example/hydromeme/hydromeme/Evaluation;" } : Jvm.MethodName) prog_9_method_2_code (12 : Nat) (Option.some (Jvm.ClassFile.FieldType.object "com/example/hydromeme/hydromeme/Evaluation"))).before args0 about1 = true := code_word (m := ⟨20, 1⟩) (meth := k20m1) (c := k20c1) (by decide +kernel) rfl rfl rfl (by decide +kernel)
set_option maxRecDepth 65536 in
theorem w_c13 : (Jvm.Cond.code ({ cls := "java/util/ArrayList", name := "get", desc := "(I)Ljava/lang/Object;" } : Jvm.MethodName) jdk_38_method_20_code (2 : Nat) (Option.some (Jvm.ClassFile.FieldType.object "java/lang/Object"))).before args0 about1 = true := code_word (m := ⟨11, 4⟩) (meth := k11m4) (c := k11c4) (by decide +kernel) rfl rfl rfl (by decide +kernel)
set_option maxRecDepth 65536 in
theorem w_c14 : (Jvm.Cond.code ({ cls := "java/util/Objects", name := "checkIndex", desc := "(II)I" } : Jvm.MethodName) jdk_31_method_17_code (2 : Nat) (Option.some Jvm.ClassFile.FieldType.int)).before args0 about1 = true := code_word (m := ⟨21, 1⟩) (meth := k21m1) (c := k21c1) (by decide +kernel) rfl rfl rfl (by decide +kernel)
set_option maxRecDepth 65536 in
theorem w_c15 : (Jvm.Cond.code ({ cls := "jdk/internal/util/Preconditions", name := "checkIndex", desc := "(IILjava/util/function/BiFunction;)I" } : Jvm.MethodName) jdk_41_method_11_code (3 : Nat) (Option.some Jvm.ClassFile.FieldType.int)).before args0 about1 = true := code_word (m := ⟨22, 1⟩) (meth := k22m1) (c := k22c1) (by decide +kernel) rfl rfl rfl (by decide +kernel)
set_option maxRecDepth 65536 in
theorem w_c16 : (Jvm.Cond.code ({ cls := "java/util/ArrayList", name := "elementData", desc := "(I)Ljava/lang/Object;" } : Jvm.MethodName) jdk_38_method_18_code (2 : Nat) (Option.some (Jvm.ClassFile.FieldType.object "java/lang/Object"))).before args0 about1 = true := code_word (m := ⟨11, 3⟩) (meth := k11m3) (c := k11c3) (by decide +kernel) rfl rfl rfl (by decide +kernel)
set_option maxRecDepth 65536 in
theorem w_c17 : (Jvm.Cond.code ({ cls := "com/example/hydromeme/hydromeme/Network$Junction", name := "elevation", desc := "()D" } : Jvm.MethodName) prog_35_method_6_code (1 : Nat) (Option.some Jvm.ClassFile.FieldType.double)).before args0 about1 = true := code_word (m := ⟨13, 1⟩) (meth := k13m1) (c := k13c1) (by decide +kernel) rfl rfl rfl (by decide +kernel)
set_option maxRecDepth 65536 in
theorem w_c18 : (Jvm.Cond.code ({ cls := "java/lang/Math", name := "max", desc := "(DD)D" } : Jvm.MethodName) jdk_29_method_68_code (4 : Nat) (Option.some Jvm.ClassFile.FieldType.double)).before args0 about1 = true := code_word (m := ⟨19, 2⟩) (meth := k19m2) (c := k19c2) (by decide +kernel) rfl rfl rfl (by decide +kernel)
set_option maxRecDepth 65536 in
theorem w_c19 : (Jvm.Cond.code ({ cls := "com/example/hydromeme/hydromeme/Evaluation", name := "<init>", desc := "(D[D[D[D[DID)V" } : Jvm.MethodName) prog_9_method_1_code (10 : Nat) (Option.none : Option Jvm.ClassFile.FieldType)).before args0 about1 = true := code_word (m := ⟨20, 0⟩) (meth := k20m0) (c := k20c0) (by decide +kernel) rfl rfl rfl (by decide +kernel)
set_option maxRecDepth 65536 in
theorem w_c20 : (Jvm.Cond.code ({ cls := "com/example/hydromeme/hydromeme/Evaluation", name := "feasible", desc := "()Z" } : Jvm.MethodName) prog_9_method_4_code (1 : Nat) (Option.some Jvm.ClassFile.FieldType.boolean)).before args0 about1 = true := code_word (m := ⟨20, 2⟩) (meth := k20m2) (c := k20c2) (by decide +kernel) rfl rfl rfl (by decide +kernel)
def codes1 : List Jvm.Cond := [Jvm.Cond.code x code maxLocals ret, Jvm.Cond.code ({ cls := "java/util/ArrayList", name := "<init>", desc := "()V" } : Jvm.MethodName) jdk_38_method_2_code (1 : Nat) (Option.none : Option Jvm.ClassFile.FieldType), Jvm.Cond.code ({ cls := "java/util/AbstractList", name := "<init>", desc := "()V" } : Jvm.MethodName) jdk_39_method_1_code (1 : Nat) (Option.none : Option Jvm.ClassFile.FieldType), Jvm.Cond.code ({ cls := "java/util/AbstractCollection", name := "<init>", desc := "()V" } : Jvm.MethodName) jdk_22_method_1_code (1 : Nat) (Option.none : Option Jvm.ClassFile.FieldType), Jvm.Cond.code ({ cls := "java/lang/Object", name := "<init>", desc := "()V" } : Jvm.MethodName) object_method_1_code (1 : Nat) (Option.none : Option Jvm.ClassFile.FieldType), Jvm.Cond.code ({ cls := "com/example/hydromeme/hydromeme/Network$Junction", name := "<init>", desc := "(Ljava/lang/String;DD)V" } : Jvm.MethodName) prog_35_method_1_code (6 : Nat) (Option.none : Option Jvm.ClassFile.FieldType), Jvm.Cond.code ({ cls := "java/lang/Record", name := "<init>", desc := "()V" } : Jvm.MethodName) jdk_30_method_1_code (1 : Nat) (Option.none : Option Jvm.ClassFile.FieldType), Jvm.Cond.code ({ cls := "java/util/ArrayList", name := "add", desc := "(Ljava/lang/Object;)Z" } : Jvm.MethodName) jdk_38_method_25_code (2 : Nat) (Option.some Jvm.ClassFile.FieldType.boolean), Jvm.Cond.code ({ cls := "java/util/ArrayList", name := "add", desc := "(Ljava/lang/Object;[Ljava/lang/Object;I)V" } : Jvm.MethodName) jdk_38_method_24_code (4 : Nat) (Option.none : Option Jvm.ClassFile.FieldType), Jvm.Cond.code ({ cls := "java/util/ArrayList", name := "grow", desc := "()[Ljava/lang/Object;" } : Jvm.MethodName) jdk_38_method_7_code (1 : Nat) (Option.some (Jvm.ClassFile.FieldType.array (Jvm.ClassFile.FieldType.object "java/lang/Object"))), Jvm.Cond.code ({ cls := "java/util/ArrayList", name := "grow", desc := "(I)[Ljava/lang/Object;" } : Jvm.MethodName) jdk_38_method_6_code (4 : Nat) (Option.some (Jvm.ClassFile.FieldType.array (Jvm.ClassFile.FieldType.object "java/lang/Object"))), Jvm.Cond.code ({ cls := "java/lang/Math", name := "max", desc := "(II)I" } : Jvm.MethodName) jdk_29_method_65_code (2 : Nat) (Option.some Jvm.ClassFile.FieldType.int), Jvm.Cond.code ({ cls := "com/example/hydromeme/hydromeme/Evaluation", name := "of", desc := "(D[D[DLjava/util/List;[D)Lcom/example/hydromeme/hydromeme/Evaluation;" } : Jvm.MethodName) prog_9_method_2_code (12 : Nat) (Option.some (Jvm.ClassFile.FieldType.object "com/example/hydromeme/hydromeme/Evaluation")), Jvm.Cond.code ({ cls := "java/util/ArrayList", name := "get", desc := "(I)Ljava/lang/Object;" } : Jvm.MethodName) jdk_38_method_20_code (2 : Nat) (Option.some (Jvm.ClassFile.FieldType.object "java/lang/Object")), Jvm.Cond.code ({ cls := "java/util/Objects", name := "checkIndex", desc := "(II)I" } : Jvm.MethodName) jdk_31_method_17_code (2 : Nat) (Option.some Jvm.ClassFile.FieldType.int), Jvm.Cond.code ({ cls := "jdk/internal/util/Preconditions", name := "checkIndex", desc := "(IILjava/util/function/BiFunction;)I" } : Jvm.MethodName) jdk_41_method_11_code (3 : Nat) (Option.some Jvm.ClassFile.FieldType.int), Jvm.Cond.code ({ cls := "java/util/ArrayList", name := "elementData", desc := "(I)Ljava/lang/Object;" } : Jvm.MethodName) jdk_38_method_18_code (2 : Nat) (Option.some (Jvm.ClassFile.FieldType.object "java/lang/Object")), Jvm.Cond.code ({ cls := "com/example/hydromeme/hydromeme/Network$Junction", name := "elevation", desc := "()D" } : Jvm.MethodName) prog_35_method_6_code (1 : Nat) (Option.some Jvm.ClassFile.FieldType.double), Jvm.Cond.code ({ cls := "java/lang/Math", name := "max", desc := "(DD)D" } : Jvm.MethodName) jdk_29_method_68_code (4 : Nat) (Option.some Jvm.ClassFile.FieldType.double), Jvm.Cond.code ({ cls := "com/example/hydromeme/hydromeme/Evaluation", name := "<init>", desc := "(D[D[D[D[DID)V" } : Jvm.MethodName) prog_9_method_1_code (10 : Nat) (Option.none : Option Jvm.ClassFile.FieldType), Jvm.Cond.code ({ cls := "com/example/hydromeme/hydromeme/Evaluation", name := "feasible", desc := "()Z" } : Jvm.MethodName) prog_9_method_4_code (1 : Nat) (Option.some Jvm.ClassFile.FieldType.boolean)]
set_option maxRecDepth 65536 in
theorem codes_eq : words1.filter isCode = codes1 := rfl
theorem w_codes : ∀ c ∈ words1.filter isCode, c.before args0 about1 = true := by
  rw [codes_eq]
  intro c hc
  simp only [codes1, List.mem_cons, List.not_mem_nil, or_false] at hc
  rcases hc with rfl | rfl | rfl | rfl | rfl | rfl | rfl | rfl | rfl | rfl | rfl | rfl | rfl | rfl | rfl | rfl | rfl | rfl | rfl | rfl | rfl
  · exact w_c0
  · exact w_c1
  · exact w_c2
  · exact w_c3
  · exact w_c4
  · exact w_c5
  · exact w_c6
  · exact w_c7
  · exact w_c8
  · exact w_c9
  · exact w_c10
  · exact w_c11
  · exact w_c12
  · exact w_c13
  · exact w_c14
  · exact w_c15
  · exact w_c16
  · exact w_c17
  · exact w_c18
  · exact w_c19
  · exact w_c20
set_option maxRecDepth 65536 in
theorem w_t1 : (words1.take 24).all (fun c => isCode c || c.before args0 about1) = true := by decide +kernel
set_option maxRecDepth 65536 in
theorem w_t2 : ((words1.drop 24).take 24).all (fun c => isCode c || c.before args0 about1) = true := by decide +kernel
set_option maxRecDepth 65536 in
theorem w_t3 : (((words1.drop 24).drop 24).take 24).all (fun c => isCode c || c.before args0 about1) = true := by decide +kernel
set_option maxRecDepth 65536 in
theorem w_t4 : ((((words1.drop 24).drop 24).drop 24).take 24).all (fun c => isCode c || c.before args0 about1) = true := by decide +kernel
set_option maxRecDepth 65536 in
theorem w_t5 : (((((words1.drop 24).drop 24).drop 24).drop 24).take 24).all (fun c => isCode c || c.before args0 about1) = true := by decide +kernel
set_option maxRecDepth 65536 in
theorem w_t6 : ((((((words1.drop 24).drop 24).drop 24).drop 24).drop 24).take 24).all (fun c => isCode c || c.before args0 about1) = true := by decide +kernel
set_option maxRecDepth 65536 in
theorem w_t7 : ((((((words1.drop 24).drop 24).drop 24).drop 24).drop 24).drop 24).all (fun c => isCode c || c.before args0 about1) = true := by decide +kernel
theorem w_tables : (allAtoms (Jvm.Cond.code x code maxLocals ret :: tables_1)).before args0 about1 = true := by
  rw [allAtoms_all]
  show words1.all (fun c => c.before args0 about1) = true
  refine all_split ?_ w_codes
  rw [← List.take_append_drop 24 words1, List.all_append, w_t1, ← List.take_append_drop 24 (words1.drop 24), List.all_append, w_t2, ← List.take_append_drop 24 ((words1.drop 24).drop 24), List.all_append, w_t3, ← List.take_append_drop 24 (((words1.drop 24).drop 24).drop 24), List.all_append, w_t4, ← List.take_append_drop 24 ((((words1.drop 24).drop 24).drop 24).drop 24), List.all_append, w_t5, ← List.take_append_drop 24 (((((words1.drop 24).drop 24).drop 24).drop 24).drop 24), List.all_append, w_t6, w_t7]
  rfl
set_option maxRecDepth 65536 in
theorem w_rest : rest_1_c.before args0 about1 = true := by decide +kernel
set_option maxRecDepth 65536 in
theorem w_case : (Jvm.Cond.and given_1 narrow_1).before args0 about1 = true := by decide +kernel
theorem w_applies : (headSpec (Jvm.Cond.code x code maxLocals ret :: tables_1) room_1).applies x e0.platform about1 = true :=
  (Spec.applies_iff w_frames).mpr ⟨w_running, w_runnable, w_alone, w_named, w_hears, w_ripe, w_room, w_tables⟩
theorem atStart : AtStart classFile x code maxLocals ret World_1 tables_1 room_1 Calls_1 rest_1 Pre_1 launch0 p0 e0 about1 theMethod args0 below0 :=
  ⟨lists_1, trivial, launch0.admits_env _ _ _, launch0.least_env, fairChoices_fair.cas, fairChoices_fair.clock, w_frames, w_args, w_heap, w_applies, trivial, w_rest, w_case⟩
end start1
theorem witness_1 : WitnessClaimed_1 := ⟨start1.p0, start1.e0, start1.about1, start1.theMethod, start1.args0, start1.below0, start1.atStart⟩
end Jvm.Pilot.@@N@@
