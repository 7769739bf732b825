import JvmDerived
import JvmDerived.Pilot.@@N@@Statement
import JvmDerived.Pilot.@@N@@Code
set_option linter.unusedVariables false
set_option linter.unusedSimpArgs false
namespace Jvm.Pilot.@@N@@
open Jvm Jvm.ClassFile Sem Op Lib Jvm.Free Jvm.Stand Jvm.LawKit Jvm.RoadKit Bundle Jvm.Pilot.@@N@@.Jvm.D
section Own
variable {p : Program} {l : Launch} {e : Env} {R : Room} {s : State} {m : MethodId} {args : Array Value} {below : List Frame} {meth : Method} {c : Code} {T : State} {locs : List Loc} {cells slots : Nat} {Z : State} {a0 : Array Value} {h : Heap} {Φ : Outcome → State → Prop}
/-- what is left of a walk: from S the invocation ends as Φ says -/
def OGo (tb : Tables) (e : Env) (below : List Frame) (Φ : Outcome → State → Prop) (S : State) : Prop := ∃ s₂ o, Steps tb e below S s₂ ∧ s₂.status = .running ∧ Ended s₂ below o ∧ Φ o s₂
abbrev OG (p : Program) (e : Env) (below : List Frame) (Φ : Outcome → State → Prop) (T : State) (m : MethodId) (pc : Nat) (ls : Array Slot) (st : List Value) : Prop := OGo p.tables e below Φ (T.setTop (mkF m pc ls st))
theorem OGo.st {tb : Tables} {S S' : State} (h : ∀ t, Steps tb e below S' t → Steps tb e below S t) (g : OGo tb e below Φ S') : OGo tb e below Φ S := by
  obtain ⟨s₂, o, h1, r⟩ := g
  exact ⟨s₂, o, h _ h1, r⟩
theorem oia {Z s : State} {cl : Cell} {ty : FieldType} (hZ : Z.Warmed39 s.vm) (q : Z.isArrayOf cl ty) : s.isArrayOf cl ty := State.isArrayOf_alike hZ.alike q
theorem os {tb : Tables} {e : Env} {below : List Frame} {Φ : Outcome → State → Prop} {S S' : State} (h : ∀ t, Steps tb e below S' t → Steps tb e below S t) (g : OGo tb e below Φ S') : OGo tb e below Φ S := OGo.st h g
theorem OGo.fin (X : Stand p l e R s m args below meth c T locs cells slots) (hlk : meth.locks = false) {v : Option Value} (hv : meth.sig.returnType = none → v = none) {g : JFrame} {k n : Nat} (hk : cells ≤ k) (hn : slots ≤ n)
    (st : ∀ fs, (∀ (f : JFrame) (acts : List Action), f.method = m → f.locked = none → f.entered = [] → (doReturn e (T.setTop f) acts v).1 = T.setFrames fs) → Steps p.tables e below (T.setTop g) (T.setFrames fs))
    (hq : ∀ U, U.heap = T.heap → FrameEnd s (.returned v) U locs k n → Φ (.returned v) U) : OGo p.tables e below Φ (T.setTop g) := by
  obtain ⟨fs, hr, hrun, hended, hW, hsame⟩ := X.leave (v := v) hv hlk
  exact ⟨_, _, st fs hr, hrun, hended, hq _ rfl ⟨⟨_, rfl⟩, hW, hsame.mono hk hn⟩⟩
/-- a contract: what every body's theorem says -/
abbrev OCon (l : Launch) (Z : State) (y : MethodName) (bytes : ByteArray) (maxL : Nat) (ret : Option FieldType) (ws : List Jvm.Cond) (rm : Room) (as' : Array Value) (h0 : Heap) (Q : Option Value → Heap → List Loc → Prop) : Prop :=
  MetFree l y (head1 (Jvm.Cond.code y bytes maxL ret :: ws) rm) (fun a U => a = as' ∧ Z.Warmed39 U.vm ∧ U.heap = h0) (fun _ _ _ _ _ => True) (fun _ U o U' => ∃ v L, o = .returned v ∧ Q v U'.heap L ∧ FrameEnd U o U' L rm.cells rm.slots)
theorem OCon.of {y : MethodName} {bytes : ByteArray} {maxL : Nat} {ret : Option FieldType} {ws : List Jvm.Cond} {rm : Room} {as' : Array Value} {h0 : Heap} {Q : Option Value → Heap → List Loc → Prop} (hpl : plainFor y = true)
    (H : ∀ (p : Program) (e : Env) (s : State) (m : MethodId) (below : List Frame) (meth : Method) (c : Code) (s₁ : State) (Φ : Outcome → State → Prop), Stand p l e rm s m as' below meth c s₁ [] 0 0 → p.tables.exec = Jvm.exec → c.code = bytes → c.maxLocals = maxL → s.vm.findClass y.cls = some m.cls → meth.name = y.name → meth.sig.returnType = ret → meth.locks = false → Z.Warmed39 s.vm → s₁.heap = h0 →
      (∀ v L U, Q v U.heap L → FrameEnd s (.returned v) U L rm.cells rm.slots → Φ (.returned v) U) → OGo p.tables e below Φ (s₁.setTop (entryFrame m as' maxL))) :
    OCon l Z y bytes maxL ret ws rm as' h0 Q := by
  refine MetFree.of_bodySF hpl hisR ?_
  intro p e s m args below meth c s₁ Bd hml0 hP hK
  obtain ⟨rfl, hZ, hh⟩ := hP
  have e0 : s₁.heap = h0 := by rw [← hh, Bd.state]; rfl
  exact H p e s m below meth c s₁ _ (Stand.of_body Bd) Bd.exec Bd.bytes hml0 (findClass_of_methodNamed Bd.named) (name_of_methodNamed Bd.named Bd.method).1 Bd.returns Bd.notSynchronized hZ e0 (fun v L U hq hf => ⟨v, L, rfl, hq, hf⟩)
theorem own_callSt (X : Stand p l e R s m args below meth c T locs cells slots) (hx : p.tables.exec = Jvm.exec) (hZ : Z.Warmed39 s.vm) {own : String} {index : Nat} {y : MethodName} {bytes : ByteArray} {maxL : Nat} {ret : Option FieldType} {rm : Room} {as' : Array Value} {Q : Option Value → Heap → List Loc → Prop}
    (hown : s.vm.findClass own = some m.cls) (w1 : (Jvm.Cond.methodLink own index y).before a0 Z = true) (w2 : (Jvm.Cond.static y).before a0 Z = true) (w3 : (Jvm.Cond.initialized y.cls).before a0 Z = true) (w4 : (Jvm.Cond.code y bytes maxL ret).before a0 Z = true) (hy : y.cls ≠ "java/lang/invoke/MethodHandle" ∧ y.cls ≠ "java/lang/invoke/VarHandle")
    (hM : OCon l Z y bytes maxL ret [] rm as' h Q) (eT : T.heap = h) {W : Nat} (hf : rm.frames + 1 ≤ R.frames) (hl : W + (maxL + 11) + rm.locals ≤ R.locals) (hcl : cells + rm.cells ≤ R.cells) (hsl : slots + rm.slots ≤ R.slots)
    {pc : Nat} {ls : Array Slot} {stk : List Value} (hsize : ls.size = c.maxLocals) {argsL rest : List Value} (hlen : ∀ sig, parseMethodDescriptor y.desc = some sig → argsL.length = sig.parameters.length) (has : argsL.toArray = as') (hstack : stk = argsL.reverse ++ rest) (hW : (rest.map fun v => v.category).sum ≤ W)
    (hd : decode c.code pc = .ok (.invokestatic index, 3)) :
    ∃ v T' L, Stand p l e R s m args below meth c T' (locs ++ L) (cells + rm.cells) (slots + rm.slots) ∧ Q v T'.heap L ∧ ∀ target, Steps p.tables e below (T'.setTop (mkF m (pc + 3) ls (v.toList ++ rest))) target → Steps p.tables e below (T.setTop (mkF m pc ls stk)) target := by
  subst has
  obtain ⟨v, vm₁, ⟨T', L', k', n'⟩, -, X', ⟨L, hQ, l1, y1, z1⟩, st⟩ := Jvm.LawKit.callS X hx (y := y) hown (mvT hZ w1) (mvT hZ w2) (mvT hZ w3) (mvT hZ w4) hy (backOf (W := W) hM hZ w4 w3 hf hl) (g := mkF m pc ls stk) rfl hsize (argsL := argsL) (rest := rest) hlen hstack (by simpa using hW) hd (fun _ _ => ⟨rfl, eT, hcl, hsl⟩)
  dsimp only [Pt.U, Pt.locs, Pt.cells, Pt.slots] at X' l1 y1 z1 st hQ
  subst l1 y1 z1
  exact ⟨v, T', L, X', hQ, st⟩
theorem own_callSp (X : Stand p l e R s m args below meth c T locs cells slots) (hx : p.tables.exec = Jvm.exec) (hZ : Z.Warmed39 s.vm) {own : String} {index : Nat} {y : MethodName} {bytes : ByteArray} {maxL : Nat} {rm : Room} {as' : Array Value} {Q : Option Value → Heap → List Loc → Prop}
    (hy1 : y.name = "<init>") (hown : s.vm.findClass own = some m.cls) (w1 : (Jvm.Cond.methodLink own index y).before a0 Z = true) (w2 : (Jvm.Cond.instanceMethod y).before a0 Z = true) (w3 : (Jvm.Cond.initialized y.cls).before a0 Z = true) (w4 : (Jvm.Cond.code y bytes maxL none).before a0 Z = true) (hy : y.cls ≠ "java/lang/invoke/MethodHandle" ∧ y.cls ≠ "java/lang/invoke/VarHandle")
    (hM : OCon l Z y bytes maxL none [] rm as' h Q) (eT : T.heap = h) {W : Nat} (hf : rm.frames + 1 ≤ R.frames) (hl : W + (maxL + 11) + rm.locals ≤ R.locals) (hcl : cells + rm.cells ≤ R.cells) (hsl : slots + rm.slots ≤ R.slots)
    {pc : Nat} {ls : Array Slot} {stk : List Value} (hsize : ls.size = c.maxLocals) {a : Addr} {argsL rest : List Value} (hlen : ∀ sig, parseMethodDescriptor y.desc = some sig → argsL.length = sig.parameters.length) (has : (.ref a :: argsL).toArray = as') (hstack : stk = argsL.reverse ++ .ref a :: rest) (hW : (rest.map fun v => v.category).sum ≤ W)
    (hd : decode c.code pc = .ok (.invokespecial index, 3)) :
    ∃ v T' L, Stand p l e R s m args below meth c T' (locs ++ L) (cells + rm.cells) (slots + rm.slots) ∧ Q v T'.heap L ∧ ∀ target, Steps p.tables e below (T'.setTop (mkF m (pc + 3) ls (v.toList ++ rest))) target → Steps p.tables e below (T.setTop (mkF m pc ls stk)) target := by
  subst has
  obtain ⟨v, vm₁, ⟨T', L', k', n'⟩, -, X', ⟨L, hQ, l1, y1, z1⟩, st⟩ := X.specialBack hx (y := y) hy1 hown (mvT hZ w1) (mvT hZ w2) (mvT hZ w4) hy (backOf (W := W) hM hZ w4 w3 hf hl) (g := mkF m pc ls stk) rfl hsize (Steps.refl _) (a := a) (argsL := argsL) (rest := rest) hlen hstack (by simpa using hW) hd (fun _ _ => ⟨rfl, eT, hcl, hsl⟩)
  dsimp only [Pt.U, Pt.locs, Pt.cells, Pt.slots] at X' l1 y1 z1 st hQ
  subst l1 y1 z1
  exact ⟨v, T', L, X', hQ, fun t k => st.trans k⟩
theorem own_callVi (X : Stand p l e R s m args below meth c T locs cells slots) (hx : p.tables.exec = Jvm.exec) (hZ : Z.Warmed39 s.vm) {own C : String} {index : Nat} {y z : MethodName} {bytes : ByteArray} {maxL : Nat} {ret : Option FieldType} {rm : Room} {as' : Array Value} {Q : Option Value → Heap → List Loc → Prop}
    (hown : s.vm.findClass own = some m.cls) (w1 : (Jvm.Cond.methodLink own index y).before a0 Z = true) (w2 : (Jvm.Cond.declares y).before a0 Z = true) (nf : NotFace s y) (w3 : (Jvm.Cond.selects C y z).before a0 Z = true) (w4 : (Jvm.Cond.instanceMethod z).before a0 Z = true) (w5 : (Jvm.Cond.initialized z.cls).before a0 Z = true) (w6 : (Jvm.Cond.code z bytes maxL ret).before a0 Z = true) (hy : y.cls ≠ "java/lang/invoke/MethodHandle" ∧ y.cls ≠ "java/lang/invoke/VarHandle")
    (hM : OCon l Z z bytes maxL ret [] rm as' h Q) (eT : T.heap = h) {W : Nat} (hf : rm.frames + 1 ≤ R.frames) (hl : W + (maxL + 11) + rm.locals ≤ R.locals) (hcl : cells + rm.cells ≤ R.cells) (hsl : slots + rm.slots ≤ R.slots) {a : Addr} (E : Exa Z h a C)
    {pc : Nat} {ls : Array Slot} {stk : List Value} (hsize : ls.size = c.maxLocals) {argsL rest : List Value} (hlen : ∀ sig, parseMethodDescriptor y.desc = some sig → argsL.length = sig.parameters.length) (has : (.ref a :: argsL).toArray = as') (hstack : stk = argsL.reverse ++ .ref a :: rest) (hW : (rest.map fun v => v.category).sum ≤ W)
    (hd : decode c.code pc = .ok (.invokevirtual index, 3)) :
    ∃ v T' L, Stand p l e R s m args below meth c T' (locs ++ L) (cells + rm.cells) (slots + rm.slots) ∧ Q v T'.heap L ∧ ∀ target, Steps p.tables e below (T'.setTop (mkF m (pc + 3) ls (v.toList ++ rest))) target → Steps p.tables e below (T.setTop (mkF m pc ls stk)) target := by
  subst has
  obtain ⟨cq, kq, qa, qb, qc⟩ := isOf hZ eT E
  obtain ⟨v, vm₁, ⟨T', L', k', n'⟩, -, X', ⟨L, hQ, l1, y1, z1⟩, st⟩ := X.virtualBack hx (y := y) (z := z) hown (mvT hZ w1) (mvT hZ w2) nf (mvT hZ w3) (mvT hZ w4) hy (backOf (W := W) hM hZ w6 w5 hf hl) qa qc (g := mkF m pc ls stk) rfl hsize (Steps.refl _) (argsL := argsL) (rest := rest) hlen hstack (by simpa using hW) hd (fun _ _ => ⟨rfl, eT, hcl, hsl⟩)
  dsimp only [Pt.U, Pt.locs, Pt.cells, Pt.slots] at X' l1 y1 z1 st hQ
  subst l1 y1 z1
  exact ⟨v, T', L, X', hQ, fun t k => st.trans k⟩
theorem own_lremM {g : JFrame} {target : State} (X : Stand p l e R s m args below meth c T locs cells slots) (hx : p.tables.exec = Jvm.exec) (hg : g.method = m) {x y : Int64} {rest : List Value} (hd : decode c.code g.pc = .ok (.lrem, 1)) (hs : g.stack = .long y :: .long x :: rest) (hy : y ≠ 0)
    (hr : Steps p.tables e below (T.setTop { g with pc := g.pc + 1, stack := .long (x % y) :: rest }) target) : Steps p.tables e below (T.setTop g) target :=
  XT.lrem X.here hx hg hd hs hy (by rw [lrem_mod]; exact hr)
theorem own_nz {x : Int32} (q : x = 0 ∨ x = 1) : narrow .boolean (.int x) = .int x := by rcases q with rfl | rfl <;> rfl
theorem own_fz {x : Int32} (q : x = 0 ∨ x = 1) : fits .boolean (.int x) = true := by rcases q with rfl | rfl <;> rfl
theorem own_irr (x : Int32) : ¬ x < x := fun q => absurd (Int32.lt_iff_toInt_lt.mp q) (Int.lt_irrefl _)
theorem own_irrL (x : Int64) : ¬ x < x := fun q => absurd (Int64.lt_iff_toInt_lt.mp q) (Int.lt_irrefl _)
/-- a small int is one of the first n -/
theorem own_small {n : Nat} (hn : n < 2 ^ 31) (x : Int32) (h0 : ¬ x < 0) (h1 : x.toInt < n) : ∃ k : Fin n, x = Int32.ofInt k.val := by
  have h2 : 0 ≤ x.toInt := by
    rcases Int.lt_or_le x.toInt 0 with q | q
    · exact absurd (Int32.lt_iff_toInt_lt.mpr q) h0
    · exact q
  refine ⟨⟨x.toInt.toNat, by omega⟩, ?_⟩
  rw [Int.toNat_of_nonneg h2, Int32.ofInt_toInt]
end Own
section OwnSta
variable {args : Array Value} {Z : State} {a : Addr} {t : Jvm.Term}
theorem own_eqV {u : Jvm.Term} {v : Value} (hu : u.eval args Z none [] Z = some v) (hv : (match v with | .retAddr _ => false | _ => true) = true) (q : (Jvm.Cond.eq t u).value args Z none Z [] = some true) : t.eval args Z none [] Z = some v := by
  obtain ⟨x, y, ex, ey, k1, k2⟩ := cmp_v (Or.inl q)
  cases hu.symm.trans ey
  rw [ex]
  cases x <;> cases v <;> simp_all [Jvm.Cond.value, Kin, Value.isRef]
theorem own_fldI {C n d : String} {k : Int32} (ev : t.eval args Z none [] Z = some (.ref a)) (q : (Jvm.Cond.eq (Jvm.Term.field t C n d) (Jvm.Term.int k)).value args Z none Z [] = some true) : Fld Z Z.heap a C n d (.int k) :=
  Fld.start ((fld_at ev).symm.trans (own_eqV (Term.int_eval k) rfl q))
theorem own_lenI {k : Int32} {cl : Cell} {ty : FieldType} (ev : t.eval args Z none [] Z = some (.ref a)) (A : Arr Z Z.heap a cl ty) (q : (Jvm.Cond.eq (Jvm.Term.length t) (Jvm.Term.int k)).value args Z none Z [] = some true) : cl.slots.size < 2 ^ 31 ∧ cl.slots.size.toInt32 = k := by
  have h := own_eqV (Term.int_eval k) rfl q
  obtain ⟨b, cell, ht, harr, hl⟩ := Term.length_spec h
  cases ev.symm.trans ht
  have ha : Z.arrayAt? a = some cl := Arr.fin (Vm.Alike.refl _) A
  cases ha.symm.trans harr
  by_cases hs : cl.slots.size < 2 ^ 31
  · exact ⟨hs, (Value.int.inj (Option.some.inj ((len_f ev ha hs).symm.trans h)))⟩
  · exfalso
    rw [Jvm.Term.eval, ev] at h
    simp [ha] at h
    omega
theorem own_elem {j : Int32} {n : Nat} {u : Jvm.Term} {v : Value} {cl : Cell} {ty : FieldType} (ev : t.eval args Z none [] Z = some (.ref a)) (A : Arr Z Z.heap a cl ty) (hu : u.eval args Z none [] Z = some v) (hv : (match v with | .retAddr _ => false | _ => true) = true) (hj : j.toNatClampNeg = n) (q : (Jvm.Cond.eq (Jvm.Term.elem t (Jvm.Term.int j)) u).value args Z none Z [] = some true) : cl.slots[n]? = some v :=
  hj ▸ (elem_in (own_eqV hu hv q) ev (Term.int_eval j) A.1).2
end OwnSta
section OwnW
open Jvm.Free.SB Jvm.Free.SBG
variable {p : Program} {l : Launch} {e : Env} {R : Room} {s : State} {m : MethodId} {args : Array Value} {below : List Frame} {meth : Method} {c : Code} {T : State} {locs : List Loc} {cells slots : Nat} {Z : State} {a0 : Array Value} {h : Heap} {Φ : Outcome → State → Prop} {EL : List (String × Nat)} {vm0 : Vm}
/-- a wide contract: the body may load String constants; sf: addresses that are none of the held constants' cells -/
abbrev OConW (l : Launch) (Z : State) (EL : List (String × Nat)) (y : MethodName) (bytes : ByteArray) (maxL : Nat) (ret : Option FieldType) (ws : List Jvm.Cond) (rm : Room) (as' : Array Value) (h0 : Heap) (sf : List Addr) (Q : Option Value → Heap → List Loc → Prop) : Prop :=
  MetFree l y (head1 (Jvm.Cond.code y bytes maxL ret :: ws) rm) (fun a U => a = as' ∧ Z.Warmed39 U.vm ∧ U.heap = h0 ∧ CHv Z EL U.vm h0 ∧ ∀ x ∈ sf, Safe Z EL U.vm h0 x) (fun _ _ _ _ _ => True) (fun _ U o U' => ∃ v L, o = .returned v ∧ Q v U'.heap L ∧ CHr Z EL U.vm U.heap U'.vm U'.heap ∧ ReturnedEndW U o U' L rm.cells rm.slots)
theorem OConW.of {y : MethodName} {bytes : ByteArray} {maxL : Nat} {ret : Option FieldType} {ws : List Jvm.Cond} {rm : Room} {as' : Array Value} {h0 : Heap} {sf : List Addr} {Q : Option Value → Heap → List Loc → Prop} (hpl : plainFor y = true)
    (H : ∀ (p : Program) (e : Env) (s : State) (m : MethodId) (below : List Frame) (meth : Method) (c : Code) (s₁ : State) (Φ : Outcome → State → Prop), Stand p l e rm (s.setVm s.vm) m as' below meth c s₁ [] 0 0 → p.tables.exec = Jvm.exec → c.code = bytes → c.maxLocals = maxL → (s.setVm s.vm).vm.findClass y.cls = some m.cls → meth.name = y.name → meth.sig.returnType = ret → meth.locks = false → Z.Warmed39 (s.setVm s.vm).vm → s₁.heap = h0 →
      s.Since s.vm 0 → 0 ≤ h0.size → CHr Z EL s.vm h0 s.vm h0 → (∀ x ∈ sf, Safe Z EL s.vm h0 x) →
      (∀ v L U, Q v U.heap L → CHr Z EL s.vm h0 U.vm U.heap → ReturnedEndW s (.returned v) U L rm.cells rm.slots → Φ (.returned v) U) → OGo p.tables e below Φ (s₁.setTop (entryFrame m as' maxL))) :
    OConW l Z EL y bytes maxL ret ws rm as' h0 sf Q := by
  refine MetFree.of_bodySF hpl hisR ?_
  intro p e s m args below meth c s₁ Bd hml0 hP hK
  obtain ⟨rfl, hZ, hh, hC, hsf⟩ := hP
  have e0 : s₁.heap = h0 := by rw [← hh, Bd.state]; rfl
  have X0 := Stand.of_body Bd
  have ev : s₁.vm = s.vm := by rw [Bd.state]; rfl
  have hWm : s.WarmedH s.vm := ev ▸ X0.warmed
  exact H p e s m below meth c s₁ _ X0 Bd.exec Bd.bytes hml0 (findClass_of_methodNamed Bd.named) (name_of_methodNamed Bd.named Bd.method).1 Bd.returns Bd.notSynchronized hZ e0 (hWm.since 0) (Nat.zero_le _) (CHr.refl hC) hsf (fun v L U hq hc hf => ⟨v, L, rfl, hq, hh ▸ hc, hf⟩)
theorem OGo.finW (X : Stand p l e R (s.setVm vm0) m args below meth c T locs cells slots) (hlk : meth.locks = false) {k0 : Nat} (hS : s.Since vm0 k0) (eT : T.heap = h) (hkk : k0 ≤ h.size) {v : Option Value} (hv : meth.sig.returnType = none → v = none) {g : JFrame} {k n : Nat} (hk : cells ≤ k) (hn : slots ≤ n) (hZ : Z.Warmed39 (s.setVm vm0).vm) (hEL : EW Z a0 EL) {vmS : Vm} {hs0 : Heap} (hC : CHr Z EL vmS hs0 vm0 h)
    (st : ∀ fs, (∀ (f : JFrame) (acts : List Action), f.method = m → f.locked = none → f.entered = [] → (doReturn e (T.setTop f) acts v).1 = T.setFrames fs) → Steps p.tables e below (T.setTop g) (T.setFrames fs))
    (hq : ∀ U, U.heap = h → CHr Z EL vmS hs0 U.vm U.heap → ReturnedEndW s (.returned v) U locs k n → Φ (.returned v) U) : OGo p.tables e below Φ (T.setTop g) := by
  obtain ⟨fs, hr, hrun, hended, hW⟩ := X.leaveW hS (eT ▸ hkk) (v := v) hv hlk
  have hc2 : CHr Z EL vmS hs0 T.vm h := hC.trans (CHv.at X hZ hEL hC.1)
  exact ⟨_, _, st fs hr, hrun, hended, hq _ eT (by show CHr Z EL vmS hs0 T.vm T.heap; rw [eT]; exact hc2) ⟨hW.1, hW.2.1, hW.2.2.1, hW.2.2.2.mono hk hn⟩⟩
theorem own_backW {y : MethodName} {bytes : ByteArray} {maxL : Nat} {ret : Option FieldType} {rm : Room} {len W : Nat} {as' : Array Value} {sf : List Addr} {Q : Option Value → Heap → List Loc → Prop} (hM : OConW l Z EL y bytes maxL ret [] rm as' h sf Q)
    (hZ : Z.Warmed39 vm0) (wc : (Jvm.Cond.code y bytes maxL ret).before a0 Z = true) (wz : (Jvm.Cond.initialized y.cls).before a0 Z = true) (hf : rm.frames + 1 ≤ R.frames) (hl : W + (maxL + 11) + rm.locals ≤ R.locals) (hEL : EW Z a0 EL) (H : CHv Z EL vm0 h) (hsf : ∀ x ∈ sf, x < h.size ∧ Safe Z EL vm0 h x) :
    BackS l R p e below (s.setVm vm0) args y len W (fun A a => a = as' ∧ A.U.heap = h ∧ A.cells + rm.cells ≤ R.cells ∧ A.slots + rm.slots ≤ R.slots)
      (fun A _ v B => ∃ L, Q v B.U.heap L ∧ B.locs = A.locs ++ L ∧ B.cells = A.cells + rm.cells ∧ B.slots = A.slots + rm.slots ∧ CHr Z EL vm0 h B.U.vm B.U.heap) := by
  refine BackS.of_freeW (bytes := bytes) (maxL := maxL) (ret := ret) (E := fun _ first o t L k n => k = rm.cells ∧ n = rm.slots ∧ (∃ v, o = .returned v ∧ Q v t.heap L) ∧ CHr Z EL first.vm first.heap t.vm t.heap) hM hf hl ?_ ?_ ?_ ?_ ?_
  · intro m meth c A a Y hp
    have hU : Z.Warmed39 A.U.vm := wtrans (s := s.setVm vm0) hZ Y.warmed
    exact ⟨by show (Jvm.Cond.and _ .tt).before a A.U = true; rw [Cond.before_and, mv hU wc]; rfl, mv hU wc, mv hU wz, hp.2.2.1, hp.2.2.2⟩
  · intro m meth c A a g mk Y hp
    exact ⟨hp.1, wtrans (s := s.setVm vm0) hZ Y.warmed, hp.2.1, (CHv.at Y hZ hEL H).1, fun x hx => (CHv.at Y hZ hEL H).safe (hsf x hx).1 (hsf x hx).2⟩
  · intros; trivial
  · rintro _ _ _ _ ⟨v, L, q1, q2, q3, q4⟩
    exact ⟨L, _, _, q4, rfl, rfl, ⟨v, q1, q2⟩, q3⟩
  · rintro m meth c A a g mk v t L k n Y hp _ _ ⟨rfl, rfl, ⟨v', q3, q4⟩, q5⟩
    cases q3
    refine ⟨L, q4, rfl, rfl, rfl, (CHv.at Y hZ hEL H).trans ?_⟩
    rw [← hp.2.1]; exact q5
theorem own_callStW (X : Stand p l e R (s.setVm vm0) m args below meth c T locs cells slots) (hx : p.tables.exec = Jvm.exec) (hZ : Z.Warmed39 (s.setVm vm0).vm) {own : String} {index : Nat} {y : MethodName} {bytes : ByteArray} {maxL : Nat} {ret : Option FieldType} {rm : Room} {as' : Array Value} {sf : List Addr} {Q : Option Value → Heap → List Loc → Prop}
    (hown : (s.setVm vm0).vm.findClass own = some m.cls) (w1 : (Jvm.Cond.methodLink own index y).before a0 Z = true) (w2 : (Jvm.Cond.static y).before a0 Z = true) (w3 : (Jvm.Cond.initialized y.cls).before a0 Z = true) (w4 : (Jvm.Cond.code y bytes maxL ret).before a0 Z = true) (hy : y.cls ≠ "java/lang/invoke/MethodHandle" ∧ y.cls ≠ "java/lang/invoke/VarHandle")
    (hM : OConW l Z EL y bytes maxL ret [] rm as' h sf Q) (eT : T.heap = h) {W : Nat} (hf : rm.frames + 1 ≤ R.frames) (hl : W + (maxL + 11) + rm.locals ≤ R.locals) (hcl : cells + rm.cells ≤ R.cells) (hsl : slots + rm.slots ≤ R.slots)
    {pc : Nat} {ls : Array Slot} {stk : List Value} (hsize : ls.size = c.maxLocals) {argsL rest : List Value} (hlen : ∀ sig, parseMethodDescriptor y.desc = some sig → argsL.length = sig.parameters.length) (has : argsL.toArray = as') (hstack : stk = argsL.reverse ++ rest) (hW : (rest.map fun v => v.category).sum ≤ W)
    (hd : decode c.code pc = .ok (.invokestatic index, 3)) {k0 : Nat} (hS : s.Since vm0 k0) (hkk : k0 ≤ h.size) (hEL : EW Z a0 EL) {vmS : Vm} {hs0 : Heap} (hC : CHr Z EL vmS hs0 vm0 h) (hsf : ∀ x ∈ sf, x < h.size ∧ Safe Z EL vm0 h x) :
    ∃ v T' L, Stand p l e R (s.setVm T'.vm) m args below meth c T' (locs ++ L) (cells + rm.cells) (slots + rm.slots) ∧ Q v T'.heap L ∧ (∀ target, Steps p.tables e below (T'.setTop (mkF m (pc + 3) ls (v.toList ++ rest))) target → Steps p.tables e below (T.setTop (mkF m pc ls stk)) target) ∧
      s.Since T'.vm T'.heap.size ∧ Z.Warmed39 (s.setVm T'.vm).vm ∧ (s.setVm T'.vm).vm.findClass own = some m.cls ∧ CHr Z EL vm0 h T'.vm T'.heap := by
  subst has
  obtain ⟨v, vm₁, ⟨T', L', k', n'⟩, -, X', S', hg, ⟨L, hQ, l1, y1, z1, hc⟩, st⟩ := callSS X hx (y := y) hown (mvT hZ w1) (mvT hZ w2) (mvT hZ w3) (mvT hZ w4) hy (own_backW (W := W) hM hZ w4 w3 hf hl hEL hC.1 hsf) (g := mkF m pc ls stk) rfl hsize (argsL := argsL) (rest := rest) hlen hstack (by simpa using hW) hd (fun _ _ => ⟨rfl, eT, hcl, hsl⟩)
  dsimp only [Pt.U, Pt.locs, Pt.cells, Pt.slots] at X' l1 y1 z1 st hQ S' hg hc
  subst l1 y1 z1
  obtain ⟨X2, S2, Z2, o2⟩ := rebS hS hkk X' S' (by rw [← eT]; exact hg) hZ hown
  exact ⟨v, T', L, X2, hQ, fun t k => st.trans k, S2, Z2, o2, hc⟩
theorem own_callSpW (X : Stand p l e R (s.setVm vm0) m args below meth c T locs cells slots) (hx : p.tables.exec = Jvm.exec) (hZ : Z.Warmed39 (s.setVm vm0).vm) {own : String} {index : Nat} {y : MethodName} {bytes : ByteArray} {maxL : Nat} {rm : Room} {as' : Array Value} {sf : List Addr} {Q : Option Value → Heap → List Loc → Prop}
    (hy1 : y.name = "<init>") (hown : (s.setVm vm0).vm.findClass own = some m.cls) (w1 : (Jvm.Cond.methodLink own index y).before a0 Z = true) (w2 : (Jvm.Cond.instanceMethod y).before a0 Z = true) (w3 : (Jvm.Cond.initialized y.cls).before a0 Z = true) (w4 : (Jvm.Cond.code y bytes maxL none).before a0 Z = true) (hy : y.cls ≠ "java/lang/invoke/MethodHandle" ∧ y.cls ≠ "java/lang/invoke/VarHandle")
    (hM : OConW l Z EL y bytes maxL none [] rm as' h sf Q) (eT : T.heap = h) {W : Nat} (hf : rm.frames + 1 ≤ R.frames) (hl : W + (maxL + 11) + rm.locals ≤ R.locals) (hcl : cells + rm.cells ≤ R.cells) (hsl : slots + rm.slots ≤ R.slots)
    {pc : Nat} {ls : Array Slot} {stk : List Value} (hsize : ls.size = c.maxLocals) {a : Addr} {argsL rest : List Value} (hlen : ∀ sig, parseMethodDescriptor y.desc = some sig → argsL.length = sig.parameters.length) (has : (.ref a :: argsL).toArray = as') (hstack : stk = argsL.reverse ++ .ref a :: rest) (hW : (rest.map fun v => v.category).sum ≤ W)
    (hd : decode c.code pc = .ok (.invokespecial index, 3)) {k0 : Nat} (hS : s.Since vm0 k0) (hkk : k0 ≤ h.size) (hEL : EW Z a0 EL) {vmS : Vm} {hs0 : Heap} (hC : CHr Z EL vmS hs0 vm0 h) (hsf : ∀ x ∈ sf, x < h.size ∧ Safe Z EL vm0 h x) :
    ∃ v T' L, Stand p l e R (s.setVm T'.vm) m args below meth c T' (locs ++ L) (cells + rm.cells) (slots + rm.slots) ∧ Q v T'.heap L ∧ (∀ target, Steps p.tables e below (T'.setTop (mkF m (pc + 3) ls (v.toList ++ rest))) target → Steps p.tables e below (T.setTop (mkF m pc ls stk)) target) ∧
      s.Since T'.vm T'.heap.size ∧ Z.Warmed39 (s.setVm T'.vm).vm ∧ (s.setVm T'.vm).vm.findClass own = some m.cls ∧ CHr Z EL vm0 h T'.vm T'.heap := by
  subst has
  obtain ⟨v, vm₁, ⟨T', L', k', n'⟩, -, X', S', hg, ⟨L, hQ, l1, y1, z1, hc⟩, st⟩ := X.specialBackS hx (y := y) hy1 hown (mvT hZ w1) (mvT hZ w2) (mvT hZ w4) hy (own_backW (W := W) hM hZ w4 w3 hf hl hEL hC.1 hsf) (g := mkF m pc ls stk) rfl hsize (Steps.refl _) (a := a) (argsL := argsL) (rest := rest) hlen hstack (by simpa using hW) hd (fun _ _ => ⟨rfl, eT, hcl, hsl⟩)
  dsimp only [Pt.U, Pt.locs, Pt.cells, Pt.slots] at X' l1 y1 z1 st hQ S' hg hc
  subst l1 y1 z1
  obtain ⟨X2, S2, Z2, o2⟩ := rebS hS hkk X' S' (by rw [← eT]; exact hg) hZ hown
  exact ⟨v, T', L, X2, hQ, fun t k => st.trans k, S2, Z2, o2, hc⟩
end OwnW
section OwnStr
variable {Z : State} {h h' : Heap} {s x : Addr} {n : Int32} {a0 : Array Value} {C : String} {k : Nat}
/-- a String of n chars, whatever its coder -/
def OStr (Z : State) (h : Heap) (s : Addr) (n : Int32) : Prop := Exa Z h s "java/lang/String" ∧ ∃ (b : Addr) (cb : ClassId) (z cd : Int32) (vs : List Value), Fld Z h s "java/lang/String" "value" "[B" (.ref b) ∧ Fld Z h s "java/lang/String" "coder" "B" (.int cd) ∧ Arv Z h b cb .byte z vs (.int 0) ∧ (cd = 0 ∨ cd = 1) ∧ (z >>> (cd &&& 31)) = n
theorem OStr.lt (F : OStr Z h s n) : s < h.size := F.1.lt
theorem OStr.ext (F : OStr Z h s n) (E : Ext h h') : OStr Z h' s n := by
  obtain ⟨E1, b, cb, z, cd, vs, F1, F2, V, r⟩ := F
  exact ⟨E1.ext E, b, cb, z, cd, vs, F1.ext E, F2.ext E, V.ext E, r⟩
theorem OStr.keep0 (F : OStr Z h s n) (K : Keep h h' []) : OStr Z h' s n := by
  obtain ⟨E1, b, cb, z, cd, vs, F1, F2, V, r⟩ := F
  exact ⟨E1.keep K, b, cb, z, cd, vs, F1.keep K nin0, F2.keep K nin0, V.keep K nin0, r⟩
theorem OStr.keep1 (F : OStr Z h s n) (K : Keep h h' [x]) (E : Exa Z h x C) (w : (Jvm.Cond.instantiable C k).before a0 Z = true) (hne : C ≠ "java/lang/String") : OStr Z h' s n := by
  obtain ⟨E1, b, cb, z, cd, vs, F1, F2, V, r⟩ := F
  have n1 : s ∉ [x] := ninS (Ne.symm (E.ne E1 hne)) nin0
  have n2 : b ∉ [x] := ninS (Ne.symm (E.neArv V w)) nin0
  exact ⟨E1.keep K, b, cb, z, cd, vs, F1.keep K n1, F2.keep K n1, V.keep K n2, r⟩
theorem OStr.keepS (F : OStr Z h s n) (K : Keep h h' [x]) (E : Exa Z h x C) (w : (Jvm.Cond.instantiable C k).before a0 Z = true) (hne : s ≠ x) : OStr Z h' s n := by
  obtain ⟨E1, b, cb, z, cd, vs, F1, F2, V, r⟩ := F
  have n1 : s ∉ [x] := ninS hne nin0
  have n2 : b ∉ [x] := ninS (Ne.symm (E.neArv V w)) nin0
  exact ⟨E1.keep K, b, cb, z, cd, vs, F1.keep K n1, F2.keep K n1, V.keep K n2, r⟩
theorem own_narnar (y : Int32) : nar .char (nar .char y) = nar .char y := by
  apply Int32.toInt_inj.mp
  have q1 := c_i2c y
  have q2 := c_i2c (nar .char y)
  have e1 : (nar .char y).toInt = y.toUInt32.toUInt16.toUInt32.toInt32.toInt := rfl
  have e2 : (nar .char (nar .char y)).toInt = (nar .char y).toUInt32.toUInt16.toUInt32.toInt32.toInt := rfl
  omega
theorem own_nb {x : Int32} (q : x = 0 ∨ x = 1) : narrow .byte (.int x) = .int x := by rcases q with rfl | rfl <;> rfl
end OwnStr
section OwnArr
variable {Z : State} {h h' : Heap} {a b : Addr} {n : Int32} {sl : Nat} {v : Value} {ws : List Addr}
/-- a byte array of n places, whatever it holds -/
def OArr (Z : State) (h : Heap) (a : Addr) (n : Int32) : Prop := ∃ c : Cell, Arr Z h a c .byte ∧ c.slots.size = n.toNatClampNeg ∧ ¬ n < 0
theorem OArr.lt (F : OArr Z h a n) : a < h.size := by obtain ⟨c, A, -⟩ := F; exact A.lt
theorem OArr.ext (F : OArr Z h a n) (E : Ext h h') : OArr Z h' a n := by obtain ⟨c, A, r⟩ := F; exact ⟨c, A.ext E, r⟩
theorem OArr.other (F : OArr Z h a n) (W : Wr h h' b sl v) (q : a ≠ b) : OArr Z h' a n := by obtain ⟨c, A, r⟩ := F; exact ⟨c, A.other W q, r⟩
theorem OArr.same (F : OArr Z h a n) (W : Wr h h' a sl v) : OArr Z h' a n := by obtain ⟨c, A, r1, r2⟩ := F; exact ⟨_, A.same W, by rw [sz_set]; exact r1, r2⟩
theorem OArr.keep (F : OArr Z h a n) (K : Keep h h' ws) (q : a ∉ ws) : OArr Z h' a n := by obtain ⟨c, A, r⟩ := F; exact ⟨c, ⟨K.2.1 a c A.1 q, A.2⟩, r⟩
theorem own_nm1 {n : Int32} (q : 1 < n) : ¬ (n - 1) < 0 ∧ (n - 1) < n := by
  have a1 : (1 : Int32).toInt = 1 := by decide
  have a0 : (0 : Int32).toInt = 0 := by decide
  rw [Int32.lt_iff_toInt_lt, a1] at q
  have r := rng32 n
  have e : (n - 1).toInt = n.toInt - 1 := by rw [XT.sub32 (by simp only [XT.fits32, a1]; omega), a1]
  rw [Int32.lt_iff_toInt_lt, Int32.lt_iff_toInt_lt, a0, e]; omega
theorem own_n15 (x : Int32) : ¬ (x &&& (15 : Int32)) < 0 ∧ (x &&& (15 : Int32)).toNatClampNeg ≤ 15 := by
  have m := c_mask x 15 4 (by decide) (by decide)
  have a0 : (0 : Int32).toInt = 0 := by decide
  rw [Int32.lt_iff_toInt_lt, a0]
  simp only [Int32.toNatClampNeg]; omega
end OwnArr
theorem ow0 {Z : State} {a0 : Array Value} (hw : ∀ d ∈ tables_1, d.before a0 Z = true) : (Jvm.Cond.constant "com/example/bindery/bindery/service/KeptPicturesSizePinLaw" (7 : Nat) (2147483647 : Int32)).before a0 Z = true := hw _ (List.mem_of_getElem? (i := 0) rfl)
theorem ow1 {Z : State} {a0 : Array Value} (hw : ∀ d ∈ tables_1, d.before a0 Z = true) : (Jvm.Cond.arrayClass Jvm.ClassFile.FieldType.byte).before a0 Z = true := hw _ (List.mem_of_getElem? (i := 1) rfl)
theorem ow2 {Z : State} {a0 : Array Value} (hw : ∀ d ∈ tables_1, d.before a0 Z = true) : (Jvm.Cond.arrayClass Jvm.ClassFile.FieldType.char).before a0 Z = true := hw _ (List.mem_of_getElem? (i := 2) rfl)
theorem ow3 {Z : State} {a0 : Array Value} (hw : ∀ d ∈ tables_1, d.before a0 Z = true) : (Jvm.Cond.constant "com/example/bindery/bindery/service/KeptPicturesSizePinLaw" (8 : Nat) (65535 : Int32)).before a0 Z = true := hw _ (List.mem_of_getElem? (i := 3) rfl)
theorem ow4 {Z : State} {a0 : Array Value} (hw : ∀ d ∈ tables_1, d.before a0 Z = true) : (Jvm.Cond.classLink "com/example/bindery/bindery/service/KeptPicturesSizePinLaw" (9 : Nat) "java/lang/String").before a0 Z = true := hw _ (List.mem_of_getElem? (i := 4) rfl)
theorem ow5 {Z : State} {a0 : Array Value} (hw : ∀ d ∈ tables_1, d.before a0 Z = true) : (Jvm.Cond.instantiable "java/lang/String" (4 : Nat)).before a0 Z = true := hw _ (List.mem_of_getElem? (i := 5) rfl)
theorem ow6 {Z : State} {a0 : Array Value} (hw : ∀ d ∈ tables_1, d.before a0 Z = true) : (Jvm.Cond.initialized "java/lang/String").before a0 Z = true := hw _ (List.mem_of_getElem? (i := 6) rfl)
theorem ow7 {Z : State} {a0 : Array Value} (hw : ∀ d ∈ tables_1, d.before a0 Z = true) : (Jvm.Cond.methodLink "com/example/bindery/bindery/service/KeptPicturesSizePinLaw" (11 : Nat) ({ cls := "java/lang/String", name := "<init>", desc := "([C)V" } : Jvm.MethodName)).before a0 Z = true := hw _ (List.mem_of_getElem? (i := 7) rfl)
theorem ow8 {Z : State} {a0 : Array Value} (hw : ∀ d ∈ tables_1, d.before a0 Z = true) : (Jvm.Cond.instanceMethod ({ cls := "java/lang/String", name := "<init>", desc := "([C)V" } : Jvm.MethodName)).before a0 Z = true := hw _ (List.mem_of_getElem? (i := 8) rfl)
theorem ow9 {Z : State} {a0 : Array Value} (hw : ∀ d ∈ tables_1, d.before a0 Z = true) : (Jvm.Cond.code ({ cls := "java/lang/String", name := "<init>", desc := "([C)V" } : Jvm.MethodName) jdk_42_method_3_code (2 : Nat) (Option.none : Option Jvm.ClassFile.FieldType)).before a0 Z = true := hw _ (List.mem_of_getElem? (i := 9) rfl)
theorem ow10 {Z : State} {a0 : Array Value} (hw : ∀ d ∈ tables_1, d.before a0 Z = true) : (Jvm.Cond.methodLink "java/lang/String" (27 : Nat) ({ cls := "java/lang/String", name := "<init>", desc := "([CIILjava/lang/Void;)V" } : Jvm.MethodName)).before a0 Z = true := hw _ (List.mem_of_getElem? (i := 10) rfl)
theorem ow11 {Z : State} {a0 : Array Value} (hw : ∀ d ∈ tables_1, d.before a0 Z = true) : (Jvm.Cond.instanceMethod ({ cls := "java/lang/String", name := "<init>", desc := "([CIILjava/lang/Void;)V" } : Jvm.MethodName)).before a0 Z = true := hw _ (List.mem_of_getElem? (i := 11) rfl)
theorem ow13 {Z : State} {a0 : Array Value} (hw : ∀ d ∈ tables_1, d.before a0 Z = true) : (Jvm.Cond.code ({ cls := "java/lang/String", name := "<init>", desc := "([CIILjava/lang/Void;)V" } : Jvm.MethodName) jdk_42_method_149_code (6 : Nat) (Option.none : Option Jvm.ClassFile.FieldType)).before a0 Z = true := hw _ (List.mem_of_getElem? (i := 13) rfl)
theorem ow14 {Z : State} {a0 : Array Value} (hw : ∀ d ∈ tables_1, d.before a0 Z = true) : (Jvm.Cond.methodLink "java/lang/String" (1 : Nat) ({ cls := "java/lang/Object", name := "<init>", desc := "()V" } : Jvm.MethodName)).before a0 Z = true := hw _ (List.mem_of_getElem? (i := 14) rfl)
theorem ow15 {Z : State} {a0 : Array Value} (hw : ∀ d ∈ tables_1, d.before a0 Z = true) : (Jvm.Cond.instanceMethod ({ cls := "java/lang/Object", name := "<init>", desc := "()V" } : Jvm.MethodName)).before a0 Z = true := hw _ (List.mem_of_getElem? (i := 15) rfl)
theorem ow16 {Z : State} {a0 : Array Value} (hw : ∀ d ∈ tables_1, d.before a0 Z = true) : (Jvm.Cond.code ({ cls := "java/lang/Object", name := "<init>", desc := "()V" } : Jvm.MethodName) object_method_1_code (1 : Nat) (Option.none : Option Jvm.ClassFile.FieldType)).before a0 Z = true := hw _ (List.mem_of_getElem? (i := 16) rfl)
theorem ow17 {Z : State} {a0 : Array Value} (hw : ∀ d ∈ tables_1, d.before a0 Z = true) : (Jvm.Cond.fieldLink "java/lang/String" (38 : Nat) "java/lang/String" "COMPACT_STRINGS" "Z").before a0 Z = true := hw _ (List.mem_of_getElem? (i := 17) rfl)
theorem ow18 {Z : State} {a0 : Array Value} (hw : ∀ d ∈ tables_1, d.before a0 Z = true) : (Jvm.Cond.methodLink "java/lang/String" (177 : Nat) ({ cls := "java/lang/StringUTF16", name := "compress", desc := "([CII)[B" } : Jvm.MethodName)).before a0 Z = true := hw _ (List.mem_of_getElem? (i := 18) rfl)
theorem ow19 {Z : State} {a0 : Array Value} (hw : ∀ d ∈ tables_1, d.before a0 Z = true) : (Jvm.Cond.static ({ cls := "java/lang/StringUTF16", name := "compress", desc := "([CII)[B" } : Jvm.MethodName)).before a0 Z = true := hw _ (List.mem_of_getElem? (i := 19) rfl)
theorem ow20 {Z : State} {a0 : Array Value} (hw : ∀ d ∈ tables_1, d.before a0 Z = true) : (Jvm.Cond.initialized "java/lang/StringUTF16").before a0 Z = true := hw _ (List.mem_of_getElem? (i := 20) rfl)
theorem ow21 {Z : State} {a0 : Array Value} (hw : ∀ d ∈ tables_1, d.before a0 Z = true) : (Jvm.Cond.code ({ cls := "java/lang/StringUTF16", name := "compress", desc := "([CII)[B" } : Jvm.MethodName) jdk_52_method_16_code (6 : Nat) (Option.some (Jvm.ClassFile.FieldType.array Jvm.ClassFile.FieldType.byte))).before a0 Z = true := hw _ (List.mem_of_getElem? (i := 21) rfl)
theorem ow22 {Z : State} {a0 : Array Value} (hw : ∀ d ∈ tables_1, d.before a0 Z = true) : (Jvm.Cond.methodLink "java/lang/StringUTF16" (115 : Nat) ({ cls := "java/lang/StringUTF16", name := "compress", desc := "([CI[BII)I" } : Jvm.MethodName)).before a0 Z = true := hw _ (List.mem_of_getElem? (i := 22) rfl)
theorem ow23 {Z : State} {a0 : Array Value} (hw : ∀ d ∈ tables_1, d.before a0 Z = true) : (Jvm.Cond.static ({ cls := "java/lang/StringUTF16", name := "compress", desc := "([CI[BII)I" } : Jvm.MethodName)).before a0 Z = true := hw _ (List.mem_of_getElem? (i := 23) rfl)
theorem ow24 {Z : State} {a0 : Array Value} (hw : ∀ d ∈ tables_1, d.before a0 Z = true) : (Jvm.Cond.code ({ cls := "java/lang/StringUTF16", name := "compress", desc := "([CI[BII)I" } : Jvm.MethodName) jdk_52_method_21_code (7 : Nat) (Option.some Jvm.ClassFile.FieldType.int)).before a0 Z = true := hw _ (List.mem_of_getElem? (i := 24) rfl)
theorem ow25 {Z : State} {a0 : Array Value} (hw : ∀ d ∈ tables_1, d.before a0 Z = true) : (Jvm.Cond.methodLink "java/lang/String" (47 : Nat) ({ cls := "java/lang/StringUTF16", name := "coderFromArrayLen", desc := "([BI)B" } : Jvm.MethodName)).before a0 Z = true := hw _ (List.mem_of_getElem? (i := 25) rfl)
theorem ow26 {Z : State} {a0 : Array Value} (hw : ∀ d ∈ tables_1, d.before a0 Z = true) : (Jvm.Cond.static ({ cls := "java/lang/StringUTF16", name := "coderFromArrayLen", desc := "([BI)B" } : Jvm.MethodName)).before a0 Z = true := hw _ (List.mem_of_getElem? (i := 26) rfl)
theorem ow27 {Z : State} {a0 : Array Value} (hw : ∀ d ∈ tables_1, d.before a0 Z = true) : (Jvm.Cond.code ({ cls := "java/lang/StringUTF16", name := "coderFromArrayLen", desc := "([BI)B" } : Jvm.MethodName) jdk_52_method_15_code (2 : Nat) (Option.some Jvm.ClassFile.FieldType.byte)).before a0 Z = true := hw _ (List.mem_of_getElem? (i := 27) rfl)
theorem ow28 {Z : State} {a0 : Array Value} (hw : ∀ d ∈ tables_1, d.before a0 Z = true) : (Jvm.Cond.fieldLink "java/lang/String" (15 : Nat) "java/lang/String" "coder" "B").before a0 Z = true := hw _ (List.mem_of_getElem? (i := 28) rfl)
theorem ow29 {Z : State} {a0 : Array Value} (hw : ∀ d ∈ tables_1, d.before a0 Z = true) : (Jvm.Cond.laysFinal "java/lang/String" "java/lang/String" "coder" "B").before a0 Z = true := hw _ (List.mem_of_getElem? (i := 29) rfl)
theorem ow30 {Z : State} {a0 : Array Value} (hw : ∀ d ∈ tables_1, d.before a0 Z = true) : (Jvm.Cond.fieldLink "java/lang/String" (9 : Nat) "java/lang/String" "value" "[B").before a0 Z = true := hw _ (List.mem_of_getElem? (i := 30) rfl)
theorem ow31 {Z : State} {a0 : Array Value} (hw : ∀ d ∈ tables_1, d.before a0 Z = true) : (Jvm.Cond.laysFinal "java/lang/String" "java/lang/String" "value" "[B").before a0 Z = true := hw _ (List.mem_of_getElem? (i := 31) rfl)
theorem ow32 {Z : State} {a0 : Array Value} (hw : ∀ d ∈ tables_1, d.before a0 Z = true) : (Jvm.Cond.stringLink "java/lang/String" (7 : Nat) "").before a0 Z = true := hw _ (List.mem_of_getElem? (i := 32) rfl)
theorem ow33 {Z : State} {a0 : Array Value} (hw : ∀ d ∈ tables_1, d.before a0 Z = true) : (Jvm.Cond.soleField "java/lang/String" "value").before a0 Z = true := hw _ (List.mem_of_getElem? (i := 33) rfl)
theorem ow34 {Z : State} {a0 : Array Value} (hw : ∀ d ∈ tables_1, d.before a0 Z = true) : (Jvm.Cond.soleField "java/lang/String" "coder").before a0 Z = true := hw _ (List.mem_of_getElem? (i := 34) rfl)
theorem ow35 {Z : State} {a0 : Array Value} (hw : ∀ d ∈ tables_1, d.before a0 Z = true) : (Jvm.Cond.methodLink "com/example/bindery/bindery/service/KeptPicturesSizePinLaw" (14 : Nat) ({ cls := "com/example/bindery/bindery/service/KeptPictures", name := "size", desc := "(Ljava/lang/String;[B)J" } : Jvm.MethodName)).before a0 Z = true := hw _ (List.mem_of_getElem? (i := 35) rfl)
theorem ow36 {Z : State} {a0 : Array Value} (hw : ∀ d ∈ tables_1, d.before a0 Z = true) : (Jvm.Cond.static ({ cls := "com/example/bindery/bindery/service/KeptPictures", name := "size", desc := "(Ljava/lang/String;[B)J" } : Jvm.MethodName)).before a0 Z = true := hw _ (List.mem_of_getElem? (i := 36) rfl)
theorem ow37 {Z : State} {a0 : Array Value} (hw : ∀ d ∈ tables_1, d.before a0 Z = true) : (Jvm.Cond.initialized "com/example/bindery/bindery/service/KeptPictures").before a0 Z = true := hw _ (List.mem_of_getElem? (i := 37) rfl)
theorem ow38 {Z : State} {a0 : Array Value} (hw : ∀ d ∈ tables_1, d.before a0 Z = true) : (Jvm.Cond.code ({ cls := "com/example/bindery/bindery/service/KeptPictures", name := "size", desc := "(Ljava/lang/String;[B)J" } : Jvm.MethodName) prog_70_method_4_code (2 : Nat) (Option.some Jvm.ClassFile.FieldType.long)).before a0 Z = true := hw _ (List.mem_of_getElem? (i := 38) rfl)
theorem ow39 {Z : State} {a0 : Array Value} (hw : ∀ d ∈ tables_1, d.before a0 Z = true) : (Jvm.Cond.constantLong "com/example/bindery/bindery/service/KeptPictures" (69 : Nat) (2 : Int64)).before a0 Z = true := hw _ (List.mem_of_getElem? (i := 39) rfl)
theorem ow40 {Z : State} {a0 : Array Value} (hw : ∀ d ∈ tables_1, d.before a0 Z = true) : (Jvm.Cond.methodLink "com/example/bindery/bindery/service/KeptPictures" (71 : Nat) ({ cls := "java/lang/String", name := "length", desc := "()I" } : Jvm.MethodName)).before a0 Z = true := hw _ (List.mem_of_getElem? (i := 40) rfl)
theorem ow41 {Z : State} {a0 : Array Value} (hw : ∀ d ∈ tables_1, d.before a0 Z = true) : (Jvm.Cond.declares ({ cls := "java/lang/String", name := "length", desc := "()I" } : Jvm.MethodName)).before a0 Z = true := hw _ (List.mem_of_getElem? (i := 41) rfl)
theorem ow42 {Z : State} {a0 : Array Value} (hw : ∀ d ∈ tables_1, d.before a0 Z = true) : (Jvm.Cond.instanceMethod ({ cls := "java/lang/String", name := "length", desc := "()I" } : Jvm.MethodName)).before a0 Z = true := hw _ (List.mem_of_getElem? (i := 42) rfl)
theorem ow43 {Z : State} {a0 : Array Value} (hw : ∀ d ∈ tables_1, d.before a0 Z = true) : (Jvm.Cond.selects "java/lang/String" ({ cls := "java/lang/String", name := "length", desc := "()I" } : Jvm.MethodName) ({ cls := "java/lang/String", name := "length", desc := "()I" } : Jvm.MethodName)).before a0 Z = true := hw _ (List.mem_of_getElem? (i := 43) rfl)
theorem ow44 {Z : State} {a0 : Array Value} (hw : ∀ d ∈ tables_1, d.before a0 Z = true) : (Jvm.Cond.code ({ cls := "java/lang/String", name := "length", desc := "()I" } : Jvm.MethodName) jdk_42_method_54_code (1 : Nat) (Option.some Jvm.ClassFile.FieldType.int)).before a0 Z = true := hw _ (List.mem_of_getElem? (i := 44) rfl)
theorem ow45 {Z : State} {a0 : Array Value} (hw : ∀ d ∈ tables_1, d.before a0 Z = true) : (Jvm.Cond.methodLink "java/lang/String" (335 : Nat) ({ cls := "java/lang/String", name := "coder", desc := "()B" } : Jvm.MethodName)).before a0 Z = true := hw _ (List.mem_of_getElem? (i := 45) rfl)
theorem ow46 {Z : State} {a0 : Array Value} (hw : ∀ d ∈ tables_1, d.before a0 Z = true) : (Jvm.Cond.declares ({ cls := "java/lang/String", name := "coder", desc := "()B" } : Jvm.MethodName)).before a0 Z = true := hw _ (List.mem_of_getElem? (i := 46) rfl)
theorem ow47 {Z : State} {a0 : Array Value} (hw : ∀ d ∈ tables_1, d.before a0 Z = true) : (Jvm.Cond.instanceMethod ({ cls := "java/lang/String", name := "coder", desc := "()B" } : Jvm.MethodName)).before a0 Z = true := hw _ (List.mem_of_getElem? (i := 47) rfl)
theorem ow48 {Z : State} {a0 : Array Value} (hw : ∀ d ∈ tables_1, d.before a0 Z = true) : (Jvm.Cond.selects "java/lang/String" ({ cls := "java/lang/String", name := "coder", desc := "()B" } : Jvm.MethodName) ({ cls := "java/lang/String", name := "coder", desc := "()B" } : Jvm.MethodName)).before a0 Z = true := hw _ (List.mem_of_getElem? (i := 48) rfl)
theorem ow49 {Z : State} {a0 : Array Value} (hw : ∀ d ∈ tables_1, d.before a0 Z = true) : (Jvm.Cond.code ({ cls := "java/lang/String", name := "coder", desc := "()B" } : Jvm.MethodName) jdk_42_method_152_code (1 : Nat) (Option.some Jvm.ClassFile.FieldType.byte)).before a0 Z = true := hw _ (List.mem_of_getElem? (i := 49) rfl)
theorem ow50 {Z : State} {a0 : Array Value} (hw : ∀ d ∈ tables_1, d.before a0 Z = true) : (Jvm.Cond.constantLong "com/example/bindery/bindery/service/KeptPictures" (75 : Nat) (96 : Int64)).before a0 Z = true := hw _ (List.mem_of_getElem? (i := 50) rfl)
theorem ow51 {Z : State} {a0 : Array Value} (hw : ∀ d ∈ tables_1, d.before a0 Z = true) : (Jvm.Cond.constantLong "com/example/bindery/bindery/service/KeptPicturesSizePinLaw" (20 : Nat) (2 : Int64)).before a0 Z = true := hw _ (List.mem_of_getElem? (i := 51) rfl)
theorem ow52 {Z : State} {a0 : Array Value} (hw : ∀ d ∈ tables_1, d.before a0 Z = true) : (Jvm.Cond.methodLink "java/lang/StringUTF16" (119 : Nat) ({ cls := "java/lang/StringUTF16", name := "toBytes", desc := "([CII)[B" } : Jvm.MethodName)).before a0 Z = true := hw _ (List.mem_of_getElem? (i := 52) rfl)
theorem ow53 {Z : State} {a0 : Array Value} (hw : ∀ d ∈ tables_1, d.before a0 Z = true) : (Jvm.Cond.static ({ cls := "java/lang/StringUTF16", name := "toBytes", desc := "([CII)[B" } : Jvm.MethodName)).before a0 Z = true := hw _ (List.mem_of_getElem? (i := 53) rfl)
theorem ow54 {Z : State} {a0 : Array Value} (hw : ∀ d ∈ tables_1, d.before a0 Z = true) : (Jvm.Cond.code ({ cls := "java/lang/StringUTF16", name := "toBytes", desc := "([CII)[B" } : Jvm.MethodName) jdk_52_method_14_code (5 : Nat) (Option.some (Jvm.ClassFile.FieldType.array Jvm.ClassFile.FieldType.byte))).before a0 Z = true := hw _ (List.mem_of_getElem? (i := 54) rfl)
theorem ow55 {Z : State} {a0 : Array Value} (hw : ∀ d ∈ tables_1, d.before a0 Z = true) : (Jvm.Cond.methodLink "java/lang/StringUTF16" (107 : Nat) ({ cls := "java/lang/StringUTF16", name := "newBytesFor", desc := "(I)[B" } : Jvm.MethodName)).before a0 Z = true := hw _ (List.mem_of_getElem? (i := 55) rfl)
theorem ow56 {Z : State} {a0 : Array Value} (hw : ∀ d ∈ tables_1, d.before a0 Z = true) : (Jvm.Cond.static ({ cls := "java/lang/StringUTF16", name := "newBytesFor", desc := "(I)[B" } : Jvm.MethodName)).before a0 Z = true := hw _ (List.mem_of_getElem? (i := 56) rfl)
theorem ow57 {Z : State} {a0 : Array Value} (hw : ∀ d ∈ tables_1, d.before a0 Z = true) : (Jvm.Cond.code ({ cls := "java/lang/StringUTF16", name := "newBytesFor", desc := "(I)[B" } : Jvm.MethodName) jdk_52_method_2_code (1 : Nat) (Option.some (Jvm.ClassFile.FieldType.array Jvm.ClassFile.FieldType.byte))).before a0 Z = true := hw _ (List.mem_of_getElem? (i := 57) rfl)
theorem ow58 {Z : State} {a0 : Array Value} (hw : ∀ d ∈ tables_1, d.before a0 Z = true) : (Jvm.Cond.methodLink "java/lang/StringUTF16" (11 : Nat) ({ cls := "java/lang/StringUTF16", name := "newBytesLength", desc := "(I)I" } : Jvm.MethodName)).before a0 Z = true := hw _ (List.mem_of_getElem? (i := 58) rfl)
theorem ow59 {Z : State} {a0 : Array Value} (hw : ∀ d ∈ tables_1, d.before a0 Z = true) : (Jvm.Cond.static ({ cls := "java/lang/StringUTF16", name := "newBytesLength", desc := "(I)I" } : Jvm.MethodName)).before a0 Z = true := hw _ (List.mem_of_getElem? (i := 59) rfl)
theorem ow60 {Z : State} {a0 : Array Value} (hw : ∀ d ∈ tables_1, d.before a0 Z = true) : (Jvm.Cond.code ({ cls := "java/lang/StringUTF16", name := "newBytesLength", desc := "(I)I" } : Jvm.MethodName) jdk_52_method_3_code (1 : Nat) (Option.some Jvm.ClassFile.FieldType.int)).before a0 Z = true := hw _ (List.mem_of_getElem? (i := 60) rfl)
theorem ow61 {Z : State} {a0 : Array Value} (hw : ∀ d ∈ tables_1, d.before a0 Z = true) : (Jvm.Cond.constant "java/lang/StringUTF16" (20 : Nat) (1073741823 : Int32)).before a0 Z = true := hw _ (List.mem_of_getElem? (i := 61) rfl)
theorem ow62 {Z : State} {a0 : Array Value} (hw : ∀ d ∈ tables_1, d.before a0 Z = true) : (Jvm.Cond.methodLink "java/lang/StringUTF16" (111 : Nat) ({ cls := "java/lang/StringUTF16", name := "putChar", desc := "([BII)V" } : Jvm.MethodName)).before a0 Z = true := hw _ (List.mem_of_getElem? (i := 62) rfl)
theorem ow63 {Z : State} {a0 : Array Value} (hw : ∀ d ∈ tables_1, d.before a0 Z = true) : (Jvm.Cond.static ({ cls := "java/lang/StringUTF16", name := "putChar", desc := "([BII)V" } : Jvm.MethodName)).before a0 Z = true := hw _ (List.mem_of_getElem? (i := 63) rfl)
theorem ow64 {Z : State} {a0 : Array Value} (hw : ∀ d ∈ tables_1, d.before a0 Z = true) : (Jvm.Cond.code ({ cls := "java/lang/StringUTF16", name := "putChar", desc := "([BII)V" } : Jvm.MethodName) jdk_52_method_4_code (3 : Nat) (Option.none : Option Jvm.ClassFile.FieldType)).before a0 Z = true := hw _ (List.mem_of_getElem? (i := 64) rfl)
theorem ow65 {Z : State} {a0 : Array Value} (hw : ∀ d ∈ tables_1, d.before a0 Z = true) : (Jvm.Cond.fieldLink "java/lang/StringUTF16" (44 : Nat) "java/lang/StringUTF16" "$assertionsDisabled" "Z").before a0 Z = true := hw _ (List.mem_of_getElem? (i := 65) rfl)
theorem ow66 {Z : State} {a0 : Array Value} (hw : ∀ d ∈ tables_1, d.before a0 Z = true) : (Jvm.Cond.fieldLink "java/lang/StringUTF16" (59 : Nat) "java/lang/StringUTF16" "HI_BYTE_SHIFT" "I").before a0 Z = true := hw _ (List.mem_of_getElem? (i := 66) rfl)
theorem ow67 {Z : State} {a0 : Array Value} (hw : ∀ d ∈ tables_1, d.before a0 Z = true) : (Jvm.Cond.fieldLink "java/lang/StringUTF16" (63 : Nat) "java/lang/StringUTF16" "LO_BYTE_SHIFT" "I").before a0 Z = true := hw _ (List.mem_of_getElem? (i := 67) rfl)
theorem ow68 {Z : State} {a0 : Array Value} (hw : ∀ d ∈ tables_1, d.before a0 Z = true) : (Jvm.Cond.methodLink "java/lang/StringUTF16" (71 : Nat) ({ cls := "java/lang/StringUTF16", name := "getChar", desc := "([BI)C" } : Jvm.MethodName)).before a0 Z = true := hw _ (List.mem_of_getElem? (i := 68) rfl)
theorem ow69 {Z : State} {a0 : Array Value} (hw : ∀ d ∈ tables_1, d.before a0 Z = true) : (Jvm.Cond.static ({ cls := "java/lang/StringUTF16", name := "getChar", desc := "([BI)C" } : Jvm.MethodName)).before a0 Z = true := hw _ (List.mem_of_getElem? (i := 69) rfl)
theorem ow70 {Z : State} {a0 : Array Value} (hw : ∀ d ∈ tables_1, d.before a0 Z = true) : (Jvm.Cond.code ({ cls := "java/lang/StringUTF16", name := "getChar", desc := "([BI)C" } : Jvm.MethodName) jdk_52_method_5_code (2 : Nat) (Option.some Jvm.ClassFile.FieldType.char)).before a0 Z = true := hw _ (List.mem_of_getElem? (i := 70) rfl)
def own_EL : List (String × Nat) := [("java/lang/String", 7)]
theorem own_mem0 : ("java/lang/String", 7) ∈ own_EL := List.mem_of_getElem? (i := 0) rfl
theorem own_EW {Z : State} {a0 : Array Value} (hw : ∀ d ∈ tables_1, d.before a0 Z = true) : EW Z a0 own_EL := (EW.cons (ow32 hw) (by decide) EW.nil)
theorem own_sA {Z : State} {a0 : Array Value} (hw : ∀ d ∈ tables_1, d.before a0 Z = true) : ∀ a ∈ Bundle.stringAtoms, a.before a0 Z = true := by
  intro a ha
  simp only [Bundle.stringAtoms, List.mem_cons, List.not_mem_nil, or_false] at ha
  rcases ha with rfl | rfl | rfl | rfl | rfl | rfl | rfl
  · exact (ow6 hw)
  · exact (ow5 hw)
  · exact (ow1 hw)
  · exact (ow31 hw)
  · exact (ow29 hw)
  · exact (ow33 hw)
  · exact (ow34 hw)

def own_sz (n m : Int32) : Int64 := (n.toInt64 + (2 : Int64) * m.toInt64) + (96 : Int64)
theorem own_sz0 : own_sz 0 0 = 96 := by decide
theorem own_eqs (n m : Int32) : own_sz n m = ((own_sz (0 : Int32) (0 : Int32) + n.toInt64) + (2 : Int64) * m.toInt64) := by rw [own_sz0]; simp only [own_sz]; grind
theorem own_mod5 (c : Int32) : (c &&& 2147483647) % 5 = 0 ∨ (c &&& 2147483647) % 5 = 1 ∨ (c &&& 2147483647) % 5 = 2 ∨ (c &&& 2147483647) % 5 = 3 ∨ (c &&& 2147483647) % 5 = 4 := by
  have h1 := c_mask c 2147483647 31 (by decide) (by decide)
  have h2 := (c_irem (c &&& 2147483647) 5 5 (by decide)).1 (by omega)
  have h3 : ∀ k : Int32, ((c &&& 2147483647) % 5).toInt = k.toInt → (c &&& 2147483647) % 5 = k := fun k q => Int32.toInt_inj.mp q
  have a0 : (0 : Int32).toInt = 0 := by decide
  have a1 : (1 : Int32).toInt = 1 := by decide
  have a2 : (2 : Int32).toInt = 2 := by decide
  have a3 : (3 : Int32).toInt = 3 := by decide
  have a4 : (4 : Int32).toInt = 4 := by decide
  have : ((c &&& 2147483647) % 5).toInt = 0 ∨ ((c &&& 2147483647) % 5).toInt = 1 ∨ ((c &&& 2147483647) % 5).toInt = 2 ∨ ((c &&& 2147483647) % 5).toInt = 3 ∨ ((c &&& 2147483647) % 5).toInt = 4 := by omega
  rcases this with q | q | q | q | q
  · exact Or.inl (h3 0 (by rw [q, a0]))
  · exact Or.inr (Or.inl (h3 1 (by rw [q, a1])))
  · exact Or.inr (Or.inr (Or.inl (h3 2 (by rw [q, a2]))))
  · exact Or.inr (Or.inr (Or.inr (Or.inl (h3 3 (by rw [q, a3])))))
  · exact Or.inr (Or.inr (Or.inr (Or.inr (h3 4 (by rw [q, a4])))))

abbrev ohb (c : Int32) : Int32 := nar .byte (c >>> ((0 : Int32) &&& 31)).toInt8.toInt32
abbrev olb (c : Int32) : Int32 := nar .byte (c >>> ((8 : Int32) &&& 31)).toInt8.toInt32
theorem own_gc (c : Int32) (h : nar .char c = c) : ((((nar .byte (c >>> ((0 : Int32) &&& 31)).toInt8.toInt32) &&& (255 : Int32)) <<< ((0 : Int32) &&& 31)) ||| (((nar .byte (c >>> ((8 : Int32) &&& 31)).toInt8.toInt32) &&& (255 : Int32)) <<< ((8 : Int32) &&& 31))).toUInt32.toUInt16.toUInt32.toInt32 = c := by
  have hr : 0 ≤ c.toInt ∧ c.toInt < 65536 := by
    have q := c_i2c c
    have e : c.toUInt32.toUInt16.toUInt32.toInt32 = c := h
    rw [e] at q; exact q.2
  apply Int32.toInt_inj.mp
  generalize hA : ((nar .byte (c >>> ((0 : Int32) &&& 31)).toInt8.toInt32) &&& (255 : Int32)) = A
  generalize hB : ((nar .byte (c >>> ((8 : Int32) &&& 31)).toInt8.toInt32) &&& (255 : Int32)) = B
  have a1 := c_ishr c 0 0 (by decide)
  have a2 := c_i2b (c >>> ((0 : Int32) &&& 31))
  have a3 := c_i2b (c >>> ((0 : Int32) &&& 31)).toInt8.toInt32
  have a4 : A.toInt = (nar .byte (c >>> ((0 : Int32) &&& 31)).toInt8.toInt32).toInt % (2 ^ 8 : Nat) := by rw [← hA]; exact c_mask _ 255 8 (by decide) (by decide)
  have a5 : (nar .byte (c >>> ((0 : Int32) &&& 31)).toInt8.toInt32).toInt = ((c >>> ((0 : Int32) &&& 31)).toInt8.toInt32).toInt8.toInt32.toInt := rfl
  have b1 := c_ishr c 8 8 (by decide)
  have b2 := c_i2b (c >>> ((8 : Int32) &&& 31))
  have b3 := c_i2b (c >>> ((8 : Int32) &&& 31)).toInt8.toInt32
  have b4 : B.toInt = (nar .byte (c >>> ((8 : Int32) &&& 31)).toInt8.toInt32).toInt % (2 ^ 8 : Nat) := by rw [← hB]; exact c_mask _ 255 8 (by decide) (by decide)
  have b5 : (nar .byte (c >>> ((8 : Int32) &&& 31)).toInt8.toInt32).toInt = ((c >>> ((8 : Int32) &&& 31)).toInt8.toInt32).toInt8.toInt32.toInt := rfl
  have hA2 : A.toInt = c.toInt % 256 := by omega
  have hB2 : B.toInt = c.toInt / 256 := by omega
  have s1 := c_ishl A 0 0 (by decide)
  have s2 := c_ishl B 8 8 (by decide)
  have r1 := rng32 (A <<< ((0 : Int32) &&& 31))
  have r2 := rng32 (B <<< ((8 : Int32) &&& 31))
  have o1 := c_or' (A <<< ((0 : Int32) &&& 31)) (B <<< ((8 : Int32) &&& 31)) 8 (by decide) 256 (by decide) (by omega) (by omega) (by omega)
  have r3 := rng32 ((A <<< ((0 : Int32) &&& 31)) ||| (B <<< ((8 : Int32) &&& 31)))
  have i1 := c_i2c ((A <<< ((0 : Int32) &&& 31)) ||| (B <<< ((8 : Int32) &&& 31)))
  omega
theorem own_gc' (c : Int32) (h : nar .char c = c) : (((ohb c &&& (255 : Int32)) <<< ((0 : Int32) &&& 31)) ||| ((olb c &&& (255 : Int32)) <<< ((8 : Int32) &&& 31))).toUInt32.toUInt16.toUInt32.toInt32 = c := own_gc c h

theorem pn0 : plainName "java/lang/String" = true := by first | (simp [plainName, overriddenIn]; done) | decide +kernel
theorem d2_0 : decode jdk_42_method_149_code 0 = .ok (.aload_n 0, 1) := by decide +kernel
theorem d2_1 : decode jdk_42_method_149_code 1 = .ok (.invokespecial 1, 3) := by decide +kernel
theorem d2_4 : decode jdk_42_method_149_code 4 = .ok (.iload_n 3, 1) := by decide +kernel
theorem d2_5 : decode jdk_42_method_149_code 5 = .ok (.ifCond .ne 22, 3) := by decide +kernel
theorem d2_8 : decode jdk_42_method_149_code 8 = .ok (.aload_n 0, 1) := by decide +kernel
theorem d2_9 : decode jdk_42_method_149_code 9 = .ok (.ldc 7, 2) := by decide +kernel
theorem d2_11 : decode jdk_42_method_149_code 11 = .ok (.getfield 9, 3) := by decide +kernel
theorem d2_14 : decode jdk_42_method_149_code 14 = .ok (.putfield 9, 3) := by decide +kernel
theorem d2_17 : decode jdk_42_method_149_code 17 = .ok (.aload_n 0, 1) := by decide +kernel
theorem d2_18 : decode jdk_42_method_149_code 18 = .ok (.ldc 7, 2) := by decide +kernel
theorem d2_20 : decode jdk_42_method_149_code 20 = .ok (.getfield 15, 3) := by decide +kernel
theorem d2_23 : decode jdk_42_method_149_code 23 = .ok (.putfield 15, 3) := by decide +kernel
theorem d2_26 : decode jdk_42_method_149_code 26 = .ok (.return_, 1) := by decide +kernel
theorem ef_rsee4 (m : MethodId) (x0 : Addr) (x1 : Addr) (x2 : Int32) (x3 : Int32) : entryFrame m #[(.ref x0), (.ref x1), (.int x2), (.int x3), .null] 6 = mkF m 0 #[.val (.ref x0), .val (.ref x1), .val (.int x2), .val (.int x3), .val .null, .unset] [] := by first | (simp [entryFrame, mkF, argsToLocals, Value.category]; done) | rfl
def Q_rsee4 (Z : State) (s_ : Addr) (a : Addr) (ca : ClassId) (h0 : Heap) (n0 : Nat) (v : Option Value) (h : Heap) (L : List Loc) : Prop := v = none ∧ Fr n0 L ∧ Keep h0 h [s_] ∧ Exa Z h s_ "java/lang/String" ∧ ∃ b cb, Fld Z h s_ "java/lang/String" "value" "[B" (.ref b) ∧ Fld Z h s_ "java/lang/String" "coder" "B" (.int (0 : Int32)) ∧ Arv Z h b cb .byte (0 : Int32) [] (.int (0 : Int32))
set_option maxRecDepth 65536 in
set_option maxHeartbeats 40000000 in
theorem rsee4 (l : Launch) (Z : State) (a0 : Array Value) (hw : ∀ d ∈ tables_1, d.before a0 Z = true) (ws : List Jvm.Cond) (s_ : Addr) (a : Addr) (ca : ClassId) (h0 : Heap) (n0 : Nat) (Z0 : n0 ≤ h0.size) (E_s : Exa Z h0 s_ "java/lang/String") (g_s : n0 ≤ s_) (F_v : Fld Z h0 s_ "java/lang/String" "value" "[B" .null) (F_c : Fld Z h0 s_ "java/lang/String" "coder" "B" (.int (0 : Int32))) (V_a : Arv Z h0 a ca .char (0 : Int32) [] (.int (0 : Int32))) (nsa : s_ ≠ a) :
    OConW l Z own_EL (⟨"java/lang/String", "<init>", "([CIILjava/lang/Void;)V"⟩ : MethodName) jdk_42_method_149_code 6 none ws ({ frames := 1, cells := 2, slots := 4, locals := 12 } : Room) #[(.ref s_), (.ref a), (.int (0 : Int32)), (.int (0 : Int32)), .null] h0 [s_] (Q_rsee4 Z s_ a ca h0 n0) := by
  refine OConW.of (plainFor_of_name pn0) ?_
  intro p e s m below meth c s₁ Φ X0 hx hby hml hown hnm hret hlk hZ e0 hS hkk hC hsf hΦ
  have sf_s_ := hsf s_ (List.mem_of_getElem? (i := 0) rfl)
  have N0 := Fr.nil n0
  refine os (fun _ z => castTop (ef_rsee4 m s_ a (0 : Int32) (0 : Int32)) z) ?_
  have K0 := Keep.refl h0 [s_]
  show OG p e below Φ s₁ m 0 #[rv s_, rv a, iv 0, iv 0, .val .null, .unset] []
  refine os (fun _ z => XS.aloadN X0.here hx rfl (hb hby d2_0) rfl rfl z) ?_
  obtain ⟨T1, X1, e1, st1⟩ := initO X0 hx hZ hown (ow14 hw) (ow15 hw) (ow16 hw) e0 (g := (mkF m 1 #[rv s_, rv a, iv 0, iv 0, .val .null, .unset] [(.ref s_)])) rfl (by rw [hml]; rfl) rfl (hb hby d2_1) (by decide) (W := 0) (Nat.le_of_eq rfl) (by decide)
  refine os st1 ?_
  show OG p e below Φ T1 m 4 #[rv s_, rv a, iv 0, iv 0, .val .null, .unset] []
  refine os (fun _ z => XS.iloadN X1.here hx rfl (hb hby d2_4) rfl z) ?_
  refine os (fun _ z => XS.ifNo X1.here hx rfl (hb hby d2_5) rfl (XT.i0_ne_f (by decide)) z) ?_
  show OG p e below Φ T1 m 8 #[rv s_, rv a, iv 0, iv 0, .val .null, .unset] []
  refine os (fun _ z => XS.aloadN X1.here hx rfl (hb hby d2_8) rfl rfl z) ?_
  obtain ⟨a2, T2, h2, kq2, b2, cb2, X2, e2, E2, hS, hkk, hZ, hown, Ex2, Fc2, Fv2, Vb2, -, -, hB2, Li2, ne2, st2⟩ := ldcCH X1 hx hZ hown (ow32 hw) (own_sA hw) e1 hS hkk (own_EW hw) (own_mem0) hC.1 (vs := []) (z := 0) ⟨by decide, by decide⟩ (by decide) (by decide) (g := (mkF m 9 #[rv s_, rv a, iv 0, iv 0, .val .null, .unset] [(.ref s_)])) rfl (hb hby d2_9) (n := 0) (by decide) (by decide) (by decide) (by decide)
  have F3 := E_s.ext E2
  have F4 := F_v.ext E2
  have F5 := F_c.ext E2
  have F6 := V_a.ext E2
  have K2 := K0.ext E2
  have Zs2 : n0 ≤ h2.size := Nat.le_trans Z0 E2.1
  have hA7 := hB2
  have sf_s_ := hA7.safe E_s.lt sf_s_
  have hkk := hkk
  have hC := hC.trans hA7
  have nl2_s_ := ne2 s_ sf_s_
  refine os st2 ?_
  show OG p e below Φ T2 m 11 #[rv s_, rv a, iv 0, iv 0, .val .null, .unset] [(.ref a2), (.ref s_)]
  obtain ⟨T8, X8, e8, st8⟩ := getF X2 hx hZ hown (host := "") (Or.inl (ow30 hw)) Via.refl e2 Fv2 (g := (mkF m 11 #[rv s_, rv a, iv 0, iv 0, .val .null, .unset] [(.ref a2), (.ref s_)])) rfl rfl (hb hby d2_11)
  refine os st8 ?_
  show OG p e below Φ T8 m 14 #[rv s_, rv a, iv 0, iv 0, .val .null, .unset] [(.ref b2), (.ref s_)]
  obtain ⟨T9, h9, X9, e9, W9, st9⟩ := putF X8 hx hZ hown (host := "") (Or.inl (ow30 hw)) Via.refl e8 F4 F3 (Or.inr ⟨(ow31 hw), rfl, hnm⟩) (ow5 hw) (ty := (.array .byte)) (by decide) rfl rfl (g := (mkF m 14 #[rv s_, rv a, iv 0, iv 0, .val .null, .unset] [(.ref b2), (.ref s_)])) rfl rfl (hb hby d2_14)
  have F10 := F3.wr W9
  have F11 := F4.same W9
  have F12 := F5.other W9 (Or.inr (slot_ne (Or.inr (ow29 hw)) (Or.inr (ow31 hw)) (by decide) (t := .byte) (t' := (.array .byte)) (by decide) (by decide)))
  have F13 := F6.other W9 (Ne.symm nsa)
  have F14 := Ex2.wr W9
  have F15 := Fc2.other W9 (Or.inl (Ne.symm nl2_s_.1))
  have F16 := Fv2.other W9 (Or.inl (Ne.symm nl2_s_.1))
  have F17 := Vb2.other W9 (Ne.symm nl2_s_.2)
  have K9 := K2.wr W9 (Or.inl (List.mem_of_getElem? (i := 0) rfl))
  have N9 := Fr.snoc X9 N0 g_s
  have Zs9 : n0 ≤ h9.size := by rw [W9.size]; exact Zs2
  have hA18 := CHr.wr W9 sf_s_ hC.1
  have sf_s_ := hA18.safe F3.lt sf_s_
  have hkk := Nat.le_trans hkk hA18.2.1
  have hC := hC.trans hA18
  refine os st9 ?_
  show OG p e below Φ T9 m 17 #[rv s_, rv a, iv 0, iv 0, .val .null, .unset] []
  refine os (fun _ z => XS.aloadN X9.here hx rfl (hb hby d2_17) rfl rfl z) ?_
  refine os (ldcAgain X9 hx hZ hown (ow32 hw) Li2 (g := (mkF m 18 #[rv s_, rv a, iv 0, iv 0, .val .null, .unset] [(.ref s_)])) rfl (hb hby d2_18)) ?_
  show OG p e below Φ T9 m 20 #[rv s_, rv a, iv 0, iv 0, .val .null, .unset] [(.ref a2), (.ref s_)]
  obtain ⟨T19, X19, e19, st19⟩ := getF X9 hx hZ hown (host := "") (Or.inl (ow28 hw)) Via.refl e9 F15 (g := (mkF m 20 #[rv s_, rv a, iv 0, iv 0, .val .null, .unset] [(.ref a2), (.ref s_)])) rfl rfl (hb hby d2_20)
  refine os st19 ?_
  show OG p e below Φ T19 m 23 #[rv s_, rv a, iv 0, iv 0, .val .null, .unset] [(.int 0), (.ref s_)]
  obtain ⟨T20, h20, X20, e20, W20, st20⟩ := putF X19 hx hZ hown (host := "") (Or.inl (ow28 hw)) Via.refl e19 F12 F10 (Or.inr ⟨(ow29 hw), rfl, hnm⟩) (ow5 hw) (ty := .byte) (by decide) (by decide) (by decide) (g := (mkF m 23 #[rv s_, rv a, iv 0, iv 0, .val .null, .unset] [(.int 0), (.ref s_)])) rfl rfl (hb hby d2_23)
  have F21 := F10.wr W20
  have F22 := F11.other W20 (Or.inr (slot_ne (Or.inr (ow31 hw)) (Or.inr (ow29 hw)) (by decide) (t := (.array .byte)) (t' := .byte) (by decide) (by decide)))
  have F23 := F12.same W20
  have F24 := F13.other W20 (Ne.symm nsa)
  have F25 := F14.wr W20
  have F26 := F15.other W20 (Or.inl (Ne.symm nl2_s_.1))
  have F27 := F16.other W20 (Or.inl (Ne.symm nl2_s_.1))
  have F28 := F17.other W20 (Ne.symm nl2_s_.2)
  have K20 := K9.wr W20 (Or.inl (List.mem_of_getElem? (i := 0) rfl))
  have N20 := Fr.snoc X20 N9 g_s
  have Zs20 : n0 ≤ h20.size := by rw [W20.size]; exact Zs9
  have hA29 := CHr.wr W20 sf_s_ hC.1
  have sf_s_ := hA29.safe F10.lt sf_s_
  have hkk := Nat.le_trans hkk hA29.2.1
  have hC := hC.trans hA29
  refine os st20 ?_
  show OG p e below Φ T20 m 26 #[rv s_, rv a, iv 0, iv 0, .val .null, .unset] []
  refine OGo.finW X20 hlk hS e20 hkk (v := none) (fun _ => rfl) (by decide) (by decide) hZ (own_EW hw) hC (fun fs hr => X20.returnOut hx hret (hb hby d2_26) hr) fun U eU hc hF => hΦ _ _ _ ?_ hc hF
  rw [eU]
  show Q_rsee4 Z s_ a ca h0 n0 _ _ _
  exact ⟨rfl, N20, K20, F21, _, _, F22, F23, F28⟩

theorem d1_0 : decode jdk_42_method_3_code 0 = .ok (.aload_n 0, 1) := by decide +kernel
theorem d1_1 : decode jdk_42_method_3_code 1 = .ok (.aload_n 1, 1) := by decide +kernel
theorem d1_2 : decode jdk_42_method_3_code 2 = .ok (.iconst 0, 1) := by decide +kernel
theorem d1_3 : decode jdk_42_method_3_code 3 = .ok (.aload_n 1, 1) := by decide +kernel
theorem d1_4 : decode jdk_42_method_3_code 4 = .ok (.arraylength, 1) := by decide +kernel
theorem d1_5 : decode jdk_42_method_3_code 5 = .ok (.aconst_null, 1) := by decide +kernel
theorem d1_6 : decode jdk_42_method_3_code 6 = .ok (.invokespecial 27, 3) := by decide +kernel
theorem pd0 : parseMethodDescriptor "([CIILjava/lang/Void;)V" = some ⟨[(.array .char), .int, .int, (.object "java/lang/Void")], none⟩ := by decide +kernel
theorem d1_9 : decode jdk_42_method_3_code 9 = .ok (.return_, 1) := by decide +kernel
theorem ef_rsee1 (m : MethodId) (x0 : Addr) (x1 : Addr) : entryFrame m #[(.ref x0), (.ref x1)] 2 = mkF m 0 #[.val (.ref x0), .val (.ref x1)] [] := by first | (simp [entryFrame, mkF, argsToLocals, Value.category]; done) | rfl
def Q_rsee1 (Z : State) (s_ : Addr) (a : Addr) (ca : ClassId) (h0 : Heap) (n0 : Nat) (v : Option Value) (h : Heap) (L : List Loc) : Prop := v = none ∧ Fr n0 L ∧ Keep h0 h [s_] ∧ Exa Z h s_ "java/lang/String" ∧ ∃ b cb, Fld Z h s_ "java/lang/String" "value" "[B" (.ref b) ∧ Fld Z h s_ "java/lang/String" "coder" "B" (.int (0 : Int32)) ∧ Arv Z h b cb .byte (0 : Int32) [] (.int (0 : Int32))
set_option maxRecDepth 65536 in
set_option maxHeartbeats 40000000 in
theorem rsee1 (l : Launch) (Z : State) (a0 : Array Value) (hw : ∀ d ∈ tables_1, d.before a0 Z = true) (ws : List Jvm.Cond) (s_ : Addr) (a : Addr) (ca : ClassId) (h0 : Heap) (n0 : Nat) (Z0 : n0 ≤ h0.size) (E_s : Exa Z h0 s_ "java/lang/String") (g_s : n0 ≤ s_) (F_v : Fld Z h0 s_ "java/lang/String" "value" "[B" .null) (F_c : Fld Z h0 s_ "java/lang/String" "coder" "B" (.int (0 : Int32))) (V_a : Arv Z h0 a ca .char (0 : Int32) [] (.int (0 : Int32))) (nsa : s_ ≠ a) :
    OConW l Z own_EL (⟨"java/lang/String", "<init>", "([C)V"⟩ : MethodName) jdk_42_method_3_code 2 none ws ({ frames := 2, cells := 2, slots := 4, locals := 29 } : Room) #[(.ref s_), (.ref a)] h0 [s_] (Q_rsee1 Z s_ a ca h0 n0) := by
  refine OConW.of (plainFor_of_name pn0) ?_
  intro p e s m below meth c s₁ Φ X0 hx hby hml hown hnm hret hlk hZ e0 hS hkk hC hsf hΦ
  have sf_s_ := hsf s_ (List.mem_of_getElem? (i := 0) rfl)
  have N0 := Fr.nil n0
  refine os (fun _ z => castTop (ef_rsee1 m s_ a) z) ?_
  have K0 := Keep.refl h0 [s_]
  show OG p e below Φ s₁ m 0 #[rv s_, rv a] []
  refine os (fun _ z => XS.aloadN X0.here hx rfl (hb hby d1_0) rfl rfl z) ?_
  refine os (fun _ z => XS.aloadN X0.here hx rfl (hb hby d1_1) rfl rfl z) ?_
  show OG p e below Φ s₁ m 2 #[rv s_, rv a] [(.ref a), (.ref s_)]
  refine os (fun _ z => XS.iconst X0.here hx rfl (hb hby d1_2) z) ?_
  refine os (fun _ z => XS.aloadN X0.here hx rfl (hb hby d1_3) rfl rfl z) ?_
  show OG p e below Φ s₁ m 4 #[rv s_, rv a] [(.ref a), (.int 0), (.ref a), (.ref s_)]
  obtain ⟨cl1, Aq1, -, S1, M1, -, -⟩ := id V_a
  refine os (fun _ z => X0.arraylength hx (by rw [e0]; exact Aq1.1) (oia hZ Aq1.2.1) (g := (mkF m 4 #[rv s_, rv a] [(.ref a), (.int 0), (.ref a), (.ref s_)])) rfl rfl (hb hby d1_4) _ z) ?_
  rw [len_of S1 M1]
  show OG p e below Φ s₁ m 5 #[rv s_, rv a] [(.int 0), (.int 0), (.ref a), (.ref s_)]
  refine os (fun _ z => XS.aconstNull X0.here hx rfl (hb hby d1_5) z) ?_
  obtain ⟨_, T2, L2, X2, hQ2, st2, hS, hZ, hown, hB2⟩ := own_callSpW X0 hx hZ rfl hown (ow10 hw) (ow11 hw) (ow6 hw) (ow13 hw) (by decide) (rsee4 l Z a0 hw [] s_ a ca h0 n0 Z0 E_s g_s F_v F_c V_a nsa) e0 (W := 0) (by decide) (by decide) (by decide) (by decide) (pc := 6) (ls := #[rv s_, rv a]) (stk := [.null, (.int 0), (.int 0), (.ref a), (.ref s_)]) (by rw [hml]; rfl) (a := s_) (argsL := [(.ref a), (.int 0), (.int 0), .null]) (rest := []) (lenOf pd0 rfl) rfl rfl (Nat.le_of_eq rfl) (hb hby d1_6) hS hkk (own_EW hw) hC (allS ⟨E_s.lt, sf_s_⟩ all0)
  obtain ⟨rfl, Nq2, Kq2, Eq2, b2, cb2, Fv2, Fc2, Vq2⟩ := hQ2
  have N2 := Fr.app N0 Nq2
  have Zs2 : n0 ≤ T2.heap.size := Nat.le_trans Z0 Kq2.1
  have F3 := V_a.keep Kq2 (ninS (Ne.symm nsa) nin0)
  have K2 := K0.trans Kq2 (allS (Or.inl (List.mem_of_getElem? (i := 0) rfl)) all0)
  have hA4 := hB2
  have sf_s_ := hA4.safe E_s.lt sf_s_
  have hkk := Nat.le_refl T2.heap.size
  have hC := hC.trans hA4
  refine os st2 ?_
  show OG p e below Φ T2 m 9 #[rv s_, rv a] []
  refine OGo.finW X2 hlk hS rfl hkk (v := none) (fun _ => rfl) (by decide) (by decide) hZ (own_EW hw) hC (fun fs hr => X2.returnOut hx hret (hb hby d1_9) hr) fun U eU hc hF => hΦ _ _ _ ?_ hc hF
  rw [eU]
  show Q_rsee1 Z s_ a ca h0 n0 _ _ _
  exact ⟨rfl, N2, K2, Eq2, _, _, Fv2, Fc2, Vq2⟩

theorem pn1 : plainName "java/lang/StringUTF16" = true := by first | (simp [plainName, overriddenIn]; done) | decide +kernel
theorem d5_0 : decode jdk_52_method_21_code 0 = .ok (.iconst 0, 1) := by decide +kernel
theorem d5_1 : decode jdk_52_method_21_code 1 = .ok (.istore 5, 2) := by decide +kernel
theorem d5_3 : decode jdk_52_method_21_code 3 = .ok (.iload 5, 2) := by decide +kernel
theorem d5_5 : decode jdk_52_method_21_code 5 = .ok (.iload 4, 2) := by decide +kernel
theorem d5_7 : decode jdk_52_method_21_code 7 = .ok (.if_icmp .ge 37, 3) := by decide +kernel
theorem d5_10 : decode jdk_52_method_21_code 10 = .ok (.aload_n 0, 1) := by decide +kernel
theorem d5_11 : decode jdk_52_method_21_code 11 = .ok (.iload_n 1, 1) := by decide +kernel
theorem d5_12 : decode jdk_52_method_21_code 12 = .ok (.caload, 1) := by decide +kernel
theorem d5_13 : decode jdk_52_method_21_code 13 = .ok (.istore 6, 2) := by decide +kernel
theorem d5_15 : decode jdk_52_method_21_code 15 = .ok (.iload 6, 2) := by decide +kernel
theorem d5_17 : decode jdk_52_method_21_code 17 = .ok (.sipush 255, 3) := by decide +kernel
theorem d5_20 : decode jdk_52_method_21_code 20 = .ok (.if_icmp .le 6, 3) := by decide +kernel
theorem d5_26 : decode jdk_52_method_21_code 26 = .ok (.aload_n 2, 1) := by decide +kernel
theorem d5_27 : decode jdk_52_method_21_code 27 = .ok (.iload_n 3, 1) := by decide +kernel
theorem d5_28 : decode jdk_52_method_21_code 28 = .ok (.iload 6, 2) := by decide +kernel
theorem d5_30 : decode jdk_52_method_21_code 30 = .ok (.i2b, 1) := by decide +kernel
theorem d5_31 : decode jdk_52_method_21_code 31 = .ok (.bastore, 1) := by decide +kernel
theorem d5_32 : decode jdk_52_method_21_code 32 = .ok (.iinc 1 1, 3) := by decide +kernel
theorem d5_35 : decode jdk_52_method_21_code 35 = .ok (.iinc 3 1, 3) := by decide +kernel
theorem d5_38 : decode jdk_52_method_21_code 38 = .ok (.iinc 5 1, 3) := by decide +kernel
theorem d5_41 : decode jdk_52_method_21_code 41 = .ok (.goto (-38), 3) := by decide +kernel
theorem d5_44 : decode jdk_52_method_21_code 44 = .ok (.iload 4, 2) := by decide +kernel
theorem d5_46 : decode jdk_52_method_21_code 46 = .ok (.ireturn, 1) := by decide +kernel
theorem ef_rsl1c2 (m : MethodId) (x0 : Addr) (x1 : Int32) (x2 : Addr) (x3 : Int32) (x4 : Int32) : entryFrame m #[(.ref x0), (.int x1), (.ref x2), (.int x3), (.int x4)] 7 = mkF m 0 #[.val (.ref x0), .val (.int x1), .val (.ref x2), .val (.int x3), .val (.int x4), .unset, .unset] [] := by first | (simp [entryFrame, mkF, argsToLocals, Value.category]; done) | rfl
def Q_rsl1c2 (Z : State) (a : Addr) (ca : ClassId) (b : Addr) (cb : ClassId) (c0_ : Int32) (h0 : Heap) (n0 : Nat) (v : Option Value) (h : Heap) (L : List Loc) : Prop := v = some (.int (1 : Int32)) ∧ Fr n0 L ∧ Keep h0 h [b] ∧ Arv Z h b cb .byte (1 : Int32) [(.int (nar .byte (c0_.toInt8.toInt32)))] (.int (0 : Int32))
set_option maxRecDepth 65536 in
set_option maxHeartbeats 40000000 in
theorem rsl1c2 (l : Launch) (Z : State) (a0 : Array Value) (hw : ∀ d ∈ tables_1, d.before a0 Z = true) (ws : List Jvm.Cond) (a : Addr) (ca : ClassId) (b : Addr) (cb : ClassId) (c0_ : Int32) (h0 : Heap) (n0 : Nat) (Z0 : n0 ≤ h0.size) (V_a : Arv Z h0 a ca .char (1 : Int32) [(.int c0_)] (.int (0 : Int32))) (V_b : Arv Z h0 b cb .byte (1 : Int32) [(.int (0 : Int32))] (.int (0 : Int32))) (nab : a ≠ b) (g_b : n0 ≤ b) (hl0 : ¬ (255 : Int32) < c0_) :
    OCon l Z (⟨"java/lang/StringUTF16", "compress", "([CI[BII)I"⟩ : MethodName) jdk_52_method_21_code 7 (some .int) ws ({ frames := 0, cells := 0, slots := 0, locals := 0 } : Room) #[(.ref a), (.int (0 : Int32)), (.ref b), (.int (0 : Int32)), (.int (1 : Int32))] h0 (Q_rsl1c2 Z a ca b cb c0_ h0 n0) := by
  refine OCon.of (plainFor_of_name pn1) ?_
  intro p e s m below meth c s₁ Φ X0 hx hby hml hown hnm hret hlk hZ e0 hΦ
  have N0 := Fr.nil n0
  refine os (fun _ z => castTop (ef_rsl1c2 m a (0 : Int32) b (0 : Int32) (1 : Int32)) z) ?_
  have K0 := Keep.refl h0 [b]
  show OG p e below Φ s₁ m 0 #[rv a, iv 0, rv b, iv 0, iv 1, .unset, .unset] []
  refine os (fun _ z => XS.iconst X0.here hx rfl (hb hby d5_0) z) ?_
  refine os (fun _ z => XS.istore X0.here hx rfl (hb hby d5_1) rfl (l' := #[rv a, iv 0, rv b, iv 0, iv 1, iv 0, .unset]) rfl z) ?_
  show OG p e below Φ s₁ m 3 #[rv a, iv 0, rv b, iv 0, iv 1, iv 0, .unset] []
  refine os (fun _ z => XS.iload X0.here hx rfl (hb hby d5_3) rfl z) ?_
  refine os (fun _ z => XS.iload X0.here hx rfl (hb hby d5_5) rfl z) ?_
  show OG p e below Φ s₁ m 7 #[rv a, iv 0, rv b, iv 0, iv 1, iv 0, .unset] [(.int 1), (.int 0)]
  refine os (fun _ z => XS.icmpNo X0.here hx rfl (hb hby d5_7) rfl (XT.ii_ge_f (by decide)) z) ?_
  show OG p e below Φ s₁ m 10 #[rv a, iv 0, rv b, iv 0, iv 1, iv 0, .unset] []
  refine os (fun _ z => XS.aloadN X0.here hx rfl (hb hby d5_10) rfl rfl z) ?_
  refine os (fun _ z => XS.iloadN X0.here hx rfl (hb hby d5_11) rfl z) ?_
  show OG p e below Φ s₁ m 12 #[rv a, iv 0, rv b, iv 0, iv 1, iv 0, .unset] [(.int 0), (.ref a)]
  obtain ⟨cl1, Aq1, -, S1, M1, H1, -⟩ := id V_a
  have in1 : ¬ ((0 : Int32) < 0 ∨ cl1.slots.size ≤ (0 : Int32).toNatClampNeg) := inb_of S1 ⟨by decide, by decide⟩
  have at1 : cl1.slots[(0 : Int32).toNatClampNeg]? = some (.int c0_) := H1.at in1 rfl
  refine os (fun _ z => X0.caload hx (by rw [e0]; exact Aq1.1) (oia hZ Aq1.2.1) Aq1.2.2 in1 at1 (g := (mkF m 12 #[rv a, iv 0, rv b, iv 0, iv 1, iv 0, .unset] [(.int 0), (.ref a)])) rfl rfl (hb hby d5_12) _ z) ?_
  show OG p e below Φ s₁ m 13 #[rv a, iv 0, rv b, iv 0, iv 1, iv 0, .unset] [(.int c0_)]
  refine os (fun _ z => XS.istore X0.here hx rfl (hb hby d5_13) rfl (l' := #[rv a, iv 0, rv b, iv 0, iv 1, iv 0, iv c0_]) rfl z) ?_
  show OG p e below Φ s₁ m 15 #[rv a, iv 0, rv b, iv 0, iv 1, iv 0, iv c0_] []
  refine os (fun _ z => XS.iload X0.here hx rfl (hb hby d5_15) rfl z) ?_
  refine os (fun _ z => XS.sipush X0.here hx rfl (hb hby d5_17) z) ?_
  show OG p e below Φ s₁ m 20 #[rv a, iv 0, rv b, iv 0, iv 1, iv 0, iv c0_] [(.int 255), (.int c0_)]
  refine os (fun _ z => XS.icmpYes X0.here hx rfl (pc0 := 20) (pc' := 26) rfl (hb hby d5_20) rfl (XT.ii_le_t hl0) (by decide) (by decide) z) ?_
  show OG p e below Φ s₁ m 26 #[rv a, iv 0, rv b, iv 0, iv 1, iv 0, iv c0_] []
  refine os (fun _ z => XS.aloadN X0.here hx rfl (hb hby d5_26) rfl rfl z) ?_
  refine os (fun _ z => XS.iloadN X0.here hx rfl (hb hby d5_27) rfl z) ?_
  show OG p e below Φ s₁ m 28 #[rv a, iv 0, rv b, iv 0, iv 1, iv 0, iv c0_] [(.int 0), (.ref b)]
  refine os (fun _ z => XS.iload X0.here hx rfl (hb hby d5_28) rfl z) ?_
  refine os (fun _ z => XT.i2b X0.here hx rfl (hb hby d5_30) rfl z) ?_
  show OG p e below Φ s₁ m 31 #[rv a, iv 0, rv b, iv 0, iv 1, iv 0, iv c0_] [(.int (c0_.toInt8.toInt32)), (.int 0), (.ref b)]
  obtain ⟨cl2, Aq2, Cq2, S2, M2, H2, G2⟩ := id V_b
  have in2 : ¬ ((0 : Int32) < 0 ∨ cl2.slots.size ≤ (0 : Int32).toNatClampNeg) := inb_of S2 ⟨by decide, by decide⟩
  obtain ⟨T2, h2, X2, e2, W2, st2⟩ := stB X0 hx hZ e0 Aq2 in2 (g := (mkF m 31 #[rv a, iv 0, rv b, iv 0, iv 1, iv 0, iv c0_] [(.int (c0_.toInt8.toInt32)), (.int 0), (.ref b)])) rfl rfl (hb hby d5_31)
  have W2 : Wr h0 h2 b (0 : Int32).toNatClampNeg (.int (nar .byte (c0_.toInt8.toInt32))) := W2
  have F3 := V_a.other W2 nab
  have V2 : Arv Z h2 b cb .byte (1 : Int32) [(.int (nar .byte (c0_.toInt8.toInt32)))] (.int (0 : Int32)) := Arv.set Aq2 Cq2 S2 M2 H2 G2 (fits_nar_byte _) W2 0 (by decide) (by show 0 < 1; decide)
  have K2 := K0.wr W2 (Or.inl (List.mem_of_getElem? (i := 0) rfl))
  have N2 := Fr.snoc X2 N0 g_b
  have Zs2 : n0 ≤ h2.size := by rw [W2.size]; exact Z0
  refine os st2 ?_
  show OG p e below Φ T2 m 32 #[rv a, iv 0, rv b, iv 0, iv 1, iv 0, iv c0_] []
  refine os (fun _ z => XS.iinc X2.here hx rfl (hb hby d5_32) rfl (l' := #[rv a, iv ((0 : Int32) + (1 : Int32)), rv b, iv 0, iv 1, iv 0, iv c0_]) rfl z) ?_
  show OG p e below Φ T2 m 35 #[rv a, iv 1, rv b, iv 0, iv 1, iv 0, iv c0_] []
  refine os (fun _ z => XS.iinc X2.here hx rfl (hb hby d5_35) rfl (l' := #[rv a, iv 1, rv b, iv ((0 : Int32) + (1 : Int32)), iv 1, iv 0, iv c0_]) rfl z) ?_
  show OG p e below Φ T2 m 38 #[rv a, iv 1, rv b, iv 1, iv 1, iv 0, iv c0_] []
  refine os (fun _ z => XS.iinc X2.here hx rfl (hb hby d5_38) rfl (l' := #[rv a, iv 1, rv b, iv 1, iv 1, iv ((0 : Int32) + (1 : Int32)), iv c0_]) rfl z) ?_
  show OG p e below Φ T2 m 41 #[rv a, iv 1, rv b, iv 1, iv 1, iv 1, iv c0_] []
  refine os (fun _ z => XS.goto X2.here hx rfl (pc0 := 41) (pc' := 3) rfl (hb hby d5_41) (by decide) (by decide) z) ?_
  show OG p e below Φ T2 m 3 #[rv a, iv 1, rv b, iv 1, iv 1, iv 1, iv c0_] []
  refine os (fun _ z => XS.iload X2.here hx rfl (hb hby d5_3) rfl z) ?_
  refine os (fun _ z => XS.iload X2.here hx rfl (hb hby d5_5) rfl z) ?_
  show OG p e below Φ T2 m 7 #[rv a, iv 1, rv b, iv 1, iv 1, iv 1, iv c0_] [(.int 1), (.int 1)]
  refine os (fun _ z => XS.icmpYes X2.here hx rfl (pc0 := 7) (pc' := 44) rfl (hb hby d5_7) rfl (XT.ii_ge_t (by decide)) (by decide) (by decide) z) ?_
  show OG p e below Φ T2 m 44 #[rv a, iv 1, rv b, iv 1, iv 1, iv 1, iv c0_] []
  refine os (fun _ z => XS.iload X2.here hx rfl (hb hby d5_44) rfl z) ?_
  refine OGo.fin X2 hlk (v := (some (.int 1))) (fun h => by rw [hret] at h; cases h) (by decide) (by decide) (fun fs hr => X2.ireturnOut hx hret rfl (by simp) (hb hby d5_46) hr) fun U eU hF => hΦ _ _ _ ?_ hF
  rw [eU, e2]
  show Q_rsl1c2 Z a ca b cb c0_ h0 n0 _ _ _
  exact ⟨rfl, N2, K2, V2⟩

theorem d4_0 : decode jdk_52_method_16_code 0 = .ok (.iload_n 2, 1) := by decide +kernel
theorem d4_1 : decode jdk_52_method_16_code 1 = .ok (.newarray .byte, 2) := by decide +kernel
theorem d4_3 : decode jdk_52_method_16_code 3 = .ok (.astore_n 3, 1) := by decide +kernel
theorem d4_4 : decode jdk_52_method_16_code 4 = .ok (.aload_n 0, 1) := by decide +kernel
theorem d4_5 : decode jdk_52_method_16_code 5 = .ok (.iload_n 1, 1) := by decide +kernel
theorem d4_6 : decode jdk_52_method_16_code 6 = .ok (.aload_n 3, 1) := by decide +kernel
theorem d4_7 : decode jdk_52_method_16_code 7 = .ok (.iconst 0, 1) := by decide +kernel
theorem d4_8 : decode jdk_52_method_16_code 8 = .ok (.iload_n 2, 1) := by decide +kernel
theorem d4_9 : decode jdk_52_method_16_code 9 = .ok (.invokestatic 115, 3) := by decide +kernel
theorem pd1 : parseMethodDescriptor "([CI[BII)I" = some ⟨[(.array .char), .int, (.array .byte), .int, .int], some .int⟩ := by decide +kernel
theorem d4_12 : decode jdk_52_method_16_code 12 = .ok (.istore 4, 2) := by decide +kernel
theorem d4_14 : decode jdk_52_method_16_code 14 = .ok (.iload 4, 2) := by decide +kernel
theorem d4_16 : decode jdk_52_method_16_code 16 = .ok (.iload_n 2, 1) := by decide +kernel
theorem d4_17 : decode jdk_52_method_16_code 17 = .ok (.if_icmp .eq 40, 3) := by decide +kernel
theorem d4_57 : decode jdk_52_method_16_code 57 = .ok (.aload_n 3, 1) := by decide +kernel
theorem d4_58 : decode jdk_52_method_16_code 58 = .ok (.areturn, 1) := by decide +kernel
theorem ef_rsl1c3 (m : MethodId) (x0 : Addr) (x1 : Int32) (x2 : Int32) : entryFrame m #[(.ref x0), (.int x1), (.int x2)] 6 = mkF m 0 #[.val (.ref x0), .val (.int x1), .val (.int x2), .unset, .unset, .unset] [] := by first | (simp [entryFrame, mkF, argsToLocals, Value.category]; done) | rfl
def Q_rsl1c3 (Z : State) (a : Addr) (ca : ClassId) (c0_ : Int32) (h0 : Heap) (n0 : Nat) (v : Option Value) (h : Heap) (L : List Loc) : Prop := ∃ b cb, v = some (.ref b) ∧ Fr n0 L ∧ Keep h0 h [] ∧ Arv Z h b cb .byte (1 : Int32) [(.int (nar .byte (c0_.toInt8.toInt32)))] (.int (0 : Int32)) ∧ h0.size ≤ b
set_option maxRecDepth 65536 in
set_option maxHeartbeats 40000000 in
theorem rsl1c3 (l : Launch) (Z : State) (a0 : Array Value) (hw : ∀ d ∈ tables_1, d.before a0 Z = true) (ws : List Jvm.Cond) (a : Addr) (ca : ClassId) (c0_ : Int32) (h0 : Heap) (n0 : Nat) (Z0 : n0 ≤ h0.size) (V_a : Arv Z h0 a ca .char (1 : Int32) [(.int c0_)] (.int (0 : Int32))) (hl0 : ¬ (255 : Int32) < c0_) :
    OCon l Z (⟨"java/lang/StringUTF16", "compress", "([CII)[B"⟩ : MethodName) jdk_52_method_16_code 6 (some (.array .byte)) ws ({ frames := 1, cells := 1, slots := 1, locals := 18 } : Room) #[(.ref a), (.int (0 : Int32)), (.int (1 : Int32))] h0 (Q_rsl1c3 Z a ca c0_ h0 n0) := by
  refine OCon.of (plainFor_of_name pn1) ?_
  intro p e s m below meth c s₁ Φ X0 hx hby hml hown hnm hret hlk hZ e0 hΦ
  have N0 := Fr.nil n0
  refine os (fun _ z => castTop (ef_rsl1c3 m a (0 : Int32) (1 : Int32)) z) ?_
  have K0 := Keep.refl h0 []
  show OG p e below Φ s₁ m 0 #[rv a, iv 0, iv 1, .unset, .unset, .unset] []
  refine os (fun _ z => XS.iloadN X0.here hx rfl (hb hby d4_0) rfl z) ?_
  obtain ⟨T1, h1, c1, X1, e1, E1, Ar1, st1⟩ := newP (aty := .byte) X0 hx hZ (ow1 hw) e0 (g := (mkF m 1 #[rv a, iv 0, iv 1, .unset, .unset, .unset] [(.int 1)])) rfl (hb hby d4_1) rfl (by decide) (cap := 1) (by decide) (by decide) (by decide) (by decide)
  obtain ⟨b1, g1⟩ : ∃ z, z = h0.size := ⟨_, rfl⟩
  rw [← g1] at Ar1 st1
  have ne1_a : a ≠ b1 := by rw [g1]; exact Nat.ne_of_lt V_a.lt
  have F2 := V_a.ext E1
  have gb1 : n0 ≤ b1 := Nat.le_trans Z0 (Nat.le_of_eq g1.symm)
  have sz1 : h0.size ≤ b1 := Nat.le_trans K0.1 (Nat.le_of_eq g1.symm)
  have K1 := K0.ext E1
  have Zs1 : n0 ≤ h1.size := Nat.le_trans Z0 E1.1
  have V1 : Arv Z h1 b1 c1 .byte (1 : Int32) [(.int (0 : Int32))] (.int (0 : Int32)) := (Arv.new Ar1 (by decide)).pad (pad_rep [] _ 1)
  refine os st1 ?_
  show OG p e below Φ T1 m 3 #[rv a, iv 0, iv 1, .unset, .unset, .unset] [(.ref b1)]
  refine os (fun _ z => XS.astoreN X1.here hx rfl (hb hby d4_3) rfl rfl (l' := #[rv a, iv 0, iv 1, rv b1, .unset, .unset]) rfl z) ?_
  show OG p e below Φ T1 m 4 #[rv a, iv 0, iv 1, rv b1, .unset, .unset] []
  refine os (fun _ z => XS.aloadN X1.here hx rfl (hb hby d4_4) rfl rfl z) ?_
  refine os (fun _ z => XS.iloadN X1.here hx rfl (hb hby d4_5) rfl z) ?_
  show OG p e below Φ T1 m 6 #[rv a, iv 0, iv 1, rv b1, .unset, .unset] [(.int 0), (.ref a)]
  refine os (fun _ z => XS.aloadN X1.here hx rfl (hb hby d4_6) rfl rfl z) ?_
  refine os (fun _ z => XS.iconst X1.here hx rfl (hb hby d4_7) z) ?_
  show OG p e below Φ T1 m 8 #[rv a, iv 0, iv 1, rv b1, .unset, .unset] [(.int 0), (.ref b1), (.int 0), (.ref a)]
  refine os (fun _ z => XS.iloadN X1.here hx rfl (hb hby d4_8) rfl z) ?_
  obtain ⟨_, T3, L3, X3, hQ3, st3⟩ := own_callSt X1 hx hZ hown (ow22 hw) (ow23 hw) (ow20 hw) (ow24 hw) (by decide) (rsl1c2 l Z a0 hw [] a ca b1 c1 c0_ h1 n0 Zs1 F2 V1 ne1_a gb1 hl0) e1 (W := 0) (by decide) (by decide) (by decide) (by decide) (pc := 9) (ls := #[rv a, iv 0, iv 1, rv b1, .unset, .unset]) (stk := [(.int 1), (.int 0), (.ref b1), (.int 0), (.ref a)]) (by rw [hml]; rfl) (argsL := [(.ref a), (.int 0), (.ref b1), (.int 0), (.int 1)]) (rest := []) (lenOf pd1 rfl) rfl rfl (Nat.le_of_eq rfl) (hb hby d4_9)
  obtain ⟨rfl, Nq3, Kq3, Vq3⟩ := hQ3
  have N3 := Fr.app N0 Nq3
  have Zs3 : n0 ≤ T3.heap.size := Nat.le_trans Zs1 Kq3.1
  have F4 := F2.keep Kq3 (ninS ne1_a nin0)
  have K3 := K1.trans Kq3 (allS (Or.inr sz1) all0)
  refine os st3 ?_
  show OG p e below Φ T3 m 12 #[rv a, iv 0, iv 1, rv b1, .unset, .unset] [(.int 1)]
  refine os (fun _ z => XS.istore X3.here hx rfl (hb hby d4_12) rfl (l' := #[rv a, iv 0, iv 1, rv b1, iv 1, .unset]) rfl z) ?_
  show OG p e below Φ T3 m 14 #[rv a, iv 0, iv 1, rv b1, iv 1, .unset] []
  refine os (fun _ z => XS.iload X3.here hx rfl (hb hby d4_14) rfl z) ?_
  refine os (fun _ z => XS.iloadN X3.here hx rfl (hb hby d4_16) rfl z) ?_
  show OG p e below Φ T3 m 17 #[rv a, iv 0, iv 1, rv b1, iv 1, .unset] [(.int 1), (.int 1)]
  refine os (fun _ z => XS.icmpYes X3.here hx rfl (pc0 := 17) (pc' := 57) rfl (hb hby d4_17) rfl (XT.ii_eq_t (by decide)) (by decide) (by decide) z) ?_
  show OG p e below Φ T3 m 57 #[rv a, iv 0, iv 1, rv b1, iv 1, .unset] []
  refine os (fun _ z => XS.aloadN X3.here hx rfl (hb hby d4_57) rfl rfl z) ?_
  refine OGo.fin X3 hlk (v := (some (.ref b1))) (fun h => by rw [hret] at h; cases h) (by decide) (by decide) (fun fs hr => X3.areturnOut hx rfl hret rfl (hb hby d4_58) hr) fun U eU hF => hΦ _ _ _ ?_ hF
  rw [eU]
  show Q_rsl1c3 Z a ca c0_ h0 n0 _ _ _
  exact ⟨_, _, rfl, N3, K3, Vq3, sz1⟩

theorem d6_0 : decode jdk_52_method_15_code 0 = .ok (.iload_n 1, 1) := by decide +kernel
theorem d6_1 : decode jdk_52_method_15_code 1 = .ok (.aload_n 0, 1) := by decide +kernel
theorem d6_2 : decode jdk_52_method_15_code 2 = .ok (.arraylength, 1) := by decide +kernel
theorem d6_3 : decode jdk_52_method_15_code 3 = .ok (.isub, 1) := by decide +kernel
theorem d6_4 : decode jdk_52_method_15_code 4 = .ok (.bipush 31, 2) := by decide +kernel
theorem d6_6 : decode jdk_52_method_15_code 6 = .ok (.iushr, 1) := by decide +kernel
theorem d6_7 : decode jdk_52_method_15_code 7 = .ok (.i2b, 1) := by decide +kernel
theorem d6_8 : decode jdk_52_method_15_code 8 = .ok (.ireturn, 1) := by decide +kernel
theorem ef_rsl1cf (m : MethodId) (x0 : Addr) (x1 : Int32) : entryFrame m #[(.ref x0), (.int x1)] 2 = mkF m 0 #[.val (.ref x0), .val (.int x1)] [] := by first | (simp [entryFrame, mkF, argsToLocals, Value.category]; done) | rfl
def Q_rsl1cf (Z : State) (b : Addr) (cb : ClassId) (c0_ : Int32) (h0 : Heap) (n0 : Nat) (v : Option Value) (h : Heap) (L : List Loc) : Prop := v = some (.int (0 : Int32)) ∧ Fr n0 L ∧ h = h0
set_option maxRecDepth 65536 in
set_option maxHeartbeats 40000000 in
theorem rsl1cf (l : Launch) (Z : State) (a0 : Array Value) (hw : ∀ d ∈ tables_1, d.before a0 Z = true) (ws : List Jvm.Cond) (b : Addr) (cb : ClassId) (c0_ : Int32) (h0 : Heap) (n0 : Nat) (Z0 : n0 ≤ h0.size) (V_b : Arv Z h0 b cb .byte (1 : Int32) [(.int (nar .byte (c0_.toInt8.toInt32)))] (.int (0 : Int32))) :
    OCon l Z (⟨"java/lang/StringUTF16", "coderFromArrayLen", "([BI)B"⟩ : MethodName) jdk_52_method_15_code 2 (some .byte) ws ({ frames := 0, cells := 0, slots := 0, locals := 0 } : Room) #[(.ref b), (.int (1 : Int32))] h0 (Q_rsl1cf Z b cb c0_ h0 n0) := by
  refine OCon.of (plainFor_of_name pn1) ?_
  intro p e s m below meth c s₁ Φ X0 hx hby hml hown hnm hret hlk hZ e0 hΦ
  have N0 := Fr.nil n0
  refine os (fun _ z => castTop (ef_rsl1cf m b (1 : Int32)) z) ?_
  show OG p e below Φ s₁ m 0 #[rv b, iv 1] []
  refine os (fun _ z => XS.iloadN X0.here hx rfl (hb hby d6_0) rfl z) ?_
  refine os (fun _ z => XS.aloadN X0.here hx rfl (hb hby d6_1) rfl rfl z) ?_
  show OG p e below Φ s₁ m 2 #[rv b, iv 1] [(.ref b), (.int 1)]
  obtain ⟨cl1, Aq1, -, S1, M1, -, -⟩ := id V_b
  refine os (fun _ z => X0.arraylength hx (by rw [e0]; exact Aq1.1) (oia hZ Aq1.2.1) (g := (mkF m 2 #[rv b, iv 1] [(.ref b), (.int 1)])) rfl rfl (hb hby d6_2) _ z) ?_
  rw [len_of S1 M1]
  show OG p e below Φ s₁ m 3 #[rv b, iv 1] [(.int 1), (.int 1)]
  refine os (fun _ z => XS.isub X0.here hx rfl (hb hby d6_3) rfl z) ?_
  show OG p e below Φ s₁ m 4 #[rv b, iv 1] [(.int 0)]
  refine os (fun _ z => XS.bipush X0.here hx rfl (hb hby d6_4) z) ?_
  refine os (fun _ z => XT.iushr X0.here hx rfl (hb hby d6_6) rfl z) ?_
  show OG p e below Φ s₁ m 7 #[rv b, iv 1] [(.int 0)]
  refine os (fun _ z => XT.i2b X0.here hx rfl (hb hby d6_7) rfl z) ?_
  show OG p e below Φ s₁ m 8 #[rv b, iv 1] [(.int 0)]
  refine OGo.fin X0 hlk (v := (some (.int 0))) (fun h => by rw [hret] at h; cases h) (by decide) (by decide) (fun fs hr => X0.ireturnOut hx hret rfl (by simp) (hb hby d6_8) hr) fun U eU hF => hΦ _ _ _ ?_ hF
  rw [eU, e0]
  show Q_rsl1cf Z b cb c0_ h0 n0 _ _ _
  exact ⟨rfl, N0, rfl⟩

theorem d2_27 : decode jdk_42_method_149_code 27 = .ok (.getstatic 38, 3) := by decide +kernel
theorem d2_30 : decode jdk_42_method_149_code 30 = .ok (.ifCond .eq 28, 3) := by decide +kernel
theorem d2_33 : decode jdk_42_method_149_code 33 = .ok (.aload_n 1, 1) := by decide +kernel
theorem d2_34 : decode jdk_42_method_149_code 34 = .ok (.iload_n 2, 1) := by decide +kernel
theorem d2_35 : decode jdk_42_method_149_code 35 = .ok (.iload_n 3, 1) := by decide +kernel
theorem d2_36 : decode jdk_42_method_149_code 36 = .ok (.invokestatic 177, 3) := by decide +kernel
theorem pd2 : parseMethodDescriptor "([CII)[B" = some ⟨[(.array .char), .int, .int], some (.array .byte)⟩ := by decide +kernel
theorem d2_39 : decode jdk_42_method_149_code 39 = .ok (.astore 5, 2) := by decide +kernel
theorem d2_41 : decode jdk_42_method_149_code 41 = .ok (.aload_n 0, 1) := by decide +kernel
theorem d2_42 : decode jdk_42_method_149_code 42 = .ok (.aload 5, 2) := by decide +kernel
theorem d2_44 : decode jdk_42_method_149_code 44 = .ok (.iload_n 3, 1) := by decide +kernel
theorem d2_45 : decode jdk_42_method_149_code 45 = .ok (.invokestatic 47, 3) := by decide +kernel
theorem pd3 : parseMethodDescriptor "([BI)B" = some ⟨[(.array .byte), .int], some .byte⟩ := by decide +kernel
theorem d2_48 : decode jdk_42_method_149_code 48 = .ok (.putfield 15, 3) := by decide +kernel
theorem d2_51 : decode jdk_42_method_149_code 51 = .ok (.aload_n 0, 1) := by decide +kernel
theorem d2_52 : decode jdk_42_method_149_code 52 = .ok (.aload 5, 2) := by decide +kernel
theorem d2_54 : decode jdk_42_method_149_code 54 = .ok (.putfield 9, 3) := by decide +kernel
theorem d2_57 : decode jdk_42_method_149_code 57 = .ok (.return_, 1) := by decide +kernel
theorem ef_rsl1i4 (m : MethodId) (x0 : Addr) (x1 : Addr) (x2 : Int32) (x3 : Int32) : entryFrame m #[(.ref x0), (.ref x1), (.int x2), (.int x3), .null] 6 = mkF m 0 #[.val (.ref x0), .val (.ref x1), .val (.int x2), .val (.int x3), .val .null, .unset] [] := by first | (simp [entryFrame, mkF, argsToLocals, Value.category]; done) | rfl
def Q_rsl1i4 (Z : State) (s_ : Addr) (a : Addr) (ca : ClassId) (qc : Int32) (c0_ : Int32) (h0 : Heap) (n0 : Nat) (v : Option Value) (h : Heap) (L : List Loc) : Prop := v = none ∧ Fr n0 L ∧ Keep h0 h [s_] ∧ Exa Z h s_ "java/lang/String" ∧ ∃ b cb, Fld Z h s_ "java/lang/String" "value" "[B" (.ref b) ∧ Fld Z h s_ "java/lang/String" "coder" "B" (.int (0 : Int32)) ∧ Arv Z h b cb .byte (1 : Int32) [(.int (nar .byte (c0_.toInt8.toInt32)))] (.int (0 : Int32)) ∧ h0.size ≤ b
set_option maxRecDepth 65536 in
set_option maxHeartbeats 40000000 in
theorem rsl1i4 (l : Launch) (Z : State) (a0 : Array Value) (hw : ∀ d ∈ tables_1, d.before a0 Z = true) (ws : List Jvm.Cond) (s_ : Addr) (a : Addr) (ca : ClassId) (qc : Int32) (c0_ : Int32) (h0 : Heap) (n0 : Nat) (Z0 : n0 ≤ h0.size) (E_s : Exa Z h0 s_ "java/lang/String") (g_s : n0 ≤ s_) (F_v : Fld Z h0 s_ "java/lang/String" "value" "[B" .null) (F_c : Fld Z h0 s_ "java/lang/String" "coder" "B" (.int (0 : Int32))) (V_a : Arv Z h0 a ca .char (1 : Int32) [(.int c0_)] (.int (0 : Int32))) (nsa : s_ ≠ a) (S_q : Sta Z h0 "java/lang/String" "COMPACT_STRINGS" "Z" (.int qc)) (hq : ¬ qc = 0) (hl0 : ¬ (255 : Int32) < c0_) :
    OCon l Z (⟨"java/lang/String", "<init>", "([CIILjava/lang/Void;)V"⟩ : MethodName) jdk_42_method_149_code 6 none ws ({ frames := 2, cells := 1, slots := 1, locals := 35 } : Room) #[(.ref s_), (.ref a), (.int (0 : Int32)), (.int (1 : Int32)), .null] h0 (Q_rsl1i4 Z s_ a ca qc c0_ h0 n0) := by
  refine OCon.of (plainFor_of_name pn0) ?_
  intro p e s m below meth c s₁ Φ X0 hx hby hml hown hnm hret hlk hZ e0 hΦ
  have N0 := Fr.nil n0
  refine os (fun _ z => castTop (ef_rsl1i4 m s_ a (0 : Int32) (1 : Int32)) z) ?_
  have K0 := Keep.refl h0 [s_]
  show OG p e below Φ s₁ m 0 #[rv s_, rv a, iv 0, iv 1, .val .null, .unset] []
  refine os (fun _ z => XS.aloadN X0.here hx rfl (hb hby d2_0) rfl rfl z) ?_
  obtain ⟨T1, X1, e1, st1⟩ := initO X0 hx hZ hown (ow14 hw) (ow15 hw) (ow16 hw) e0 (g := (mkF m 1 #[rv s_, rv a, iv 0, iv 1, .val .null, .unset] [(.ref s_)])) rfl (by rw [hml]; rfl) rfl (hb hby d2_1) (by decide) (W := 0) (Nat.le_of_eq rfl) (by decide)
  refine os st1 ?_
  show OG p e below Φ T1 m 4 #[rv s_, rv a, iv 0, iv 1, .val .null, .unset] []
  refine os (fun _ z => XS.iloadN X1.here hx rfl (hb hby d2_4) rfl z) ?_
  refine os (fun _ z => XS.ifYes X1.here hx rfl (pc0 := 5) (pc' := 27) rfl (hb hby d2_5) rfl (XT.i0_ne_t (by decide)) (by decide) (by decide) z) ?_
  show OG p e below Φ T1 m 27 #[rv s_, rv a, iv 0, iv 1, .val .null, .unset] []
  obtain ⟨T2, X2, e2, st2⟩ := getS2 X1 hx hZ hown (host := "") (Or.inl (ow17 hw)) Via.refl e1 S_q (g := (mkF m 27 #[rv s_, rv a, iv 0, iv 1, .val .null, .unset] [])) rfl (hb hby d2_27)
  refine os st2 ?_
  show OG p e below Φ T2 m 30 #[rv s_, rv a, iv 0, iv 1, .val .null, .unset] [(.int qc)]
  refine os (fun _ z => XS.ifNo X2.here hx rfl (hb hby d2_30) rfl (XT.i0_eq_f hq) z) ?_
  show OG p e below Φ T2 m 33 #[rv s_, rv a, iv 0, iv 1, .val .null, .unset] []
  refine os (fun _ z => XS.aloadN X2.here hx rfl (hb hby d2_33) rfl rfl z) ?_
  refine os (fun _ z => XS.iloadN X2.here hx rfl (hb hby d2_34) rfl z) ?_
  show OG p e below Φ T2 m 35 #[rv s_, rv a, iv 0, iv 1, .val .null, .unset] [(.int 0), (.ref a)]
  refine os (fun _ z => XS.iloadN X2.here hx rfl (hb hby d2_35) rfl z) ?_
  obtain ⟨_, T3, L3, X3, hQ3, st3⟩ := own_callSt X2 hx hZ hown (ow18 hw) (ow19 hw) (ow20 hw) (ow21 hw) (by decide) (rsl1c3 l Z a0 hw [] a ca c0_ h0 n0 Z0 V_a hl0) e2 (W := 0) (by decide) (by decide) (by decide) (by decide) (pc := 36) (ls := #[rv s_, rv a, iv 0, iv 1, .val .null, .unset]) (stk := [(.int 1), (.int 0), (.ref a)]) (by rw [hml]; rfl) (argsL := [(.ref a), (.int 0), (.int 1)]) (rest := []) (lenOf pd2 rfl) rfl rfl (Nat.le_of_eq rfl) (hb hby d2_36)
  obtain ⟨b3, cb3, rfl, Nq3, Kq3, Vq3, hz3⟩ := hQ3
  have nq3_a : a ≠ b3 := Nat.ne_of_lt (Nat.lt_of_lt_of_le V_a.lt hz3)
  have nq3_s_ : s_ ≠ b3 := Nat.ne_of_lt (Nat.lt_of_lt_of_le E_s.lt hz3)
  have gq3 : n0 ≤ b3 := Nat.le_trans Z0 hz3
  have sq3 : h0.size ≤ b3 := Nat.le_trans K0.1 hz3
  have N3 := Fr.app N0 Nq3
  have Zs3 : n0 ≤ T3.heap.size := Nat.le_trans Z0 Kq3.1
  have F4 := E_s.keep Kq3
  have F5 := F_v.keep Kq3 nin0
  have F6 := F_c.keep Kq3 nin0
  have F7 := V_a.keep Kq3 nin0
  have K3 := K0.trans Kq3 all0
  refine os st3 ?_
  show OG p e below Φ T3 m 39 #[rv s_, rv a, iv 0, iv 1, .val .null, .unset] [(.ref b3)]
  refine os (fun _ z => XS.astore X3.here hx rfl (hb hby d2_39) rfl rfl (l' := #[rv s_, rv a, iv 0, iv 1, .val .null, rv b3]) rfl z) ?_
  show OG p e below Φ T3 m 41 #[rv s_, rv a, iv 0, iv 1, .val .null, rv b3] []
  refine os (fun _ z => XS.aloadN X3.here hx rfl (hb hby d2_41) rfl rfl z) ?_
  refine os (fun _ z => XS.aload X3.here hx rfl (hb hby d2_42) rfl rfl z) ?_
  show OG p e below Φ T3 m 44 #[rv s_, rv a, iv 0, iv 1, .val .null, rv b3] [(.ref b3), (.ref s_)]
  refine os (fun _ z => XS.iloadN X3.here hx rfl (hb hby d2_44) rfl z) ?_
  obtain ⟨_, T8, L8, X8, hQ8, st8⟩ := own_callSt X3 hx hZ hown (ow25 hw) (ow26 hw) (ow20 hw) (ow27 hw) (by decide) (rsl1cf l Z a0 hw [] b3 cb3 c0_ T3.heap n0 Zs3 Vq3) rfl (W := 1) (by decide) (by decide) (by decide) (by decide) (pc := 45) (ls := #[rv s_, rv a, iv 0, iv 1, .val .null, rv b3]) (stk := [(.int 1), (.ref b3), (.ref s_)]) (by rw [hml]; rfl) (argsL := [(.ref b3), (.int 1)]) (rest := [(.ref s_)]) (lenOf pd3 rfl) rfl rfl (Nat.le_of_eq rfl) (hb hby d2_45)
  obtain ⟨rfl, Nq8, e8⟩ := hQ8
  have N8 := Fr.app N3 Nq8
  refine os st8 ?_
  show OG p e below Φ T8 m 48 #[rv s_, rv a, iv 0, iv 1, .val .null, rv b3] [(.int 0), (.ref s_)]
  obtain ⟨T9, h9, X9, e9, W9, st9⟩ := putF X8 hx hZ hown (host := "") (Or.inl (ow28 hw)) Via.refl e8 F6 F4 (Or.inr ⟨(ow29 hw), rfl, hnm⟩) (ow5 hw) (ty := .byte) (by decide) (by decide) (by decide) (g := (mkF m 48 #[rv s_, rv a, iv 0, iv 1, .val .null, rv b3] [(.int 0), (.ref s_)])) rfl rfl (hb hby d2_48)
  have F10 := F4.wr W9
  have F11 := F5.other W9 (Or.inr (slot_ne (Or.inr (ow31 hw)) (Or.inr (ow29 hw)) (by decide) (t := (.array .byte)) (t' := .byte) (by decide) (by decide)))
  have F12 := F6.same W9
  have F13 := F7.other W9 (Ne.symm nsa)
  have F14 := Vq3.other W9 (Ne.symm nq3_s_)
  have K9 := K3.wr W9 (Or.inl (List.mem_of_getElem? (i := 0) rfl))
  have N9 := Fr.snoc X9 N8 g_s
  have Zs9 : n0 ≤ h9.size := by rw [W9.size]; exact Zs3
  refine os st9 ?_
  show OG p e below Φ T9 m 51 #[rv s_, rv a, iv 0, iv 1, .val .null, rv b3] []
  refine os (fun _ z => XS.aloadN X9.here hx rfl (hb hby d2_51) rfl rfl z) ?_
  refine os (fun _ z => XS.aload X9.here hx rfl (hb hby d2_52) rfl rfl z) ?_
  show OG p e below Φ T9 m 54 #[rv s_, rv a, iv 0, iv 1, .val .null, rv b3] [(.ref b3), (.ref s_)]
  obtain ⟨T15, h15, X15, e15, W15, st15⟩ := putF X9 hx hZ hown (host := "") (Or.inl (ow30 hw)) Via.refl e9 F11 F10 (Or.inr ⟨(ow31 hw), rfl, hnm⟩) (ow5 hw) (ty := (.array .byte)) (by decide) rfl rfl (g := (mkF m 54 #[rv s_, rv a, iv 0, iv 1, .val .null, rv b3] [(.ref b3), (.ref s_)])) rfl rfl (hb hby d2_54)
  have F16 := F10.wr W15
  have F17 := F11.same W15
  have F18 := F12.other W15 (Or.inr (slot_ne (Or.inr (ow29 hw)) (Or.inr (ow31 hw)) (by decide) (t := .byte) (t' := (.array .byte)) (by decide) (by decide)))
  have F19 := F13.other W15 (Ne.symm nsa)
  have F20 := F14.other W15 (Ne.symm nq3_s_)
  have K15 := K9.wr W15 (Or.inl (List.mem_of_getElem? (i := 0) rfl))
  have N15 := Fr.snoc X15 N9 g_s
  have Zs15 : n0 ≤ h15.size := by rw [W15.size]; exact Zs9
  refine os st15 ?_
  show OG p e below Φ T15 m 57 #[rv s_, rv a, iv 0, iv 1, .val .null, rv b3] []
  refine OGo.fin X15 hlk (v := none) (fun _ => rfl) (by decide) (by decide) (fun fs hr => X15.returnOut hx hret (hb hby d2_57) hr) fun U eU hF => hΦ _ _ _ ?_ hF
  rw [eU, e15]
  show Q_rsl1i4 Z s_ a ca qc c0_ h0 n0 _ _ _
  exact ⟨rfl, N15, K15, F16, _, _, F17, F18, F20, sq3⟩

theorem ef_rsl1i1 (m : MethodId) (x0 : Addr) (x1 : Addr) : entryFrame m #[(.ref x0), (.ref x1)] 2 = mkF m 0 #[.val (.ref x0), .val (.ref x1)] [] := by first | (simp [entryFrame, mkF, argsToLocals, Value.category]; done) | rfl
def Q_rsl1i1 (Z : State) (s_ : Addr) (a : Addr) (ca : ClassId) (qc : Int32) (c0_ : Int32) (h0 : Heap) (n0 : Nat) (v : Option Value) (h : Heap) (L : List Loc) : Prop := v = none ∧ Fr n0 L ∧ Keep h0 h [s_] ∧ Exa Z h s_ "java/lang/String" ∧ ∃ b cb, Fld Z h s_ "java/lang/String" "value" "[B" (.ref b) ∧ Fld Z h s_ "java/lang/String" "coder" "B" (.int (0 : Int32)) ∧ Arv Z h b cb .byte (1 : Int32) [(.int (nar .byte (c0_.toInt8.toInt32)))] (.int (0 : Int32)) ∧ h0.size ≤ b
set_option maxRecDepth 65536 in
set_option maxHeartbeats 40000000 in
theorem rsl1i1 (l : Launch) (Z : State) (a0 : Array Value) (hw : ∀ d ∈ tables_1, d.before a0 Z = true) (ws : List Jvm.Cond) (s_ : Addr) (a : Addr) (ca : ClassId) (qc : Int32) (c0_ : Int32) (h0 : Heap) (n0 : Nat) (Z0 : n0 ≤ h0.size) (E_s : Exa Z h0 s_ "java/lang/String") (g_s : n0 ≤ s_) (F_v : Fld Z h0 s_ "java/lang/String" "value" "[B" .null) (F_c : Fld Z h0 s_ "java/lang/String" "coder" "B" (.int (0 : Int32))) (V_a : Arv Z h0 a ca .char (1 : Int32) [(.int c0_)] (.int (0 : Int32))) (nsa : s_ ≠ a) (S_q : Sta Z h0 "java/lang/String" "COMPACT_STRINGS" "Z" (.int qc)) (hq : ¬ qc = 0) (hl0 : ¬ (255 : Int32) < c0_) :
    OCon l Z (⟨"java/lang/String", "<init>", "([C)V"⟩ : MethodName) jdk_42_method_3_code 2 none ws ({ frames := 3, cells := 1, slots := 1, locals := 52 } : Room) #[(.ref s_), (.ref a)] h0 (Q_rsl1i1 Z s_ a ca qc c0_ h0 n0) := by
  refine OCon.of (plainFor_of_name pn0) ?_
  intro p e s m below meth c s₁ Φ X0 hx hby hml hown hnm hret hlk hZ e0 hΦ
  have N0 := Fr.nil n0
  refine os (fun _ z => castTop (ef_rsl1i1 m s_ a) z) ?_
  have K0 := Keep.refl h0 [s_]
  show OG p e below Φ s₁ m 0 #[rv s_, rv a] []
  refine os (fun _ z => XS.aloadN X0.here hx rfl (hb hby d1_0) rfl rfl z) ?_
  refine os (fun _ z => XS.aloadN X0.here hx rfl (hb hby d1_1) rfl rfl z) ?_
  show OG p e below Φ s₁ m 2 #[rv s_, rv a] [(.ref a), (.ref s_)]
  refine os (fun _ z => XS.iconst X0.here hx rfl (hb hby d1_2) z) ?_
  refine os (fun _ z => XS.aloadN X0.here hx rfl (hb hby d1_3) rfl rfl z) ?_
  show OG p e below Φ s₁ m 4 #[rv s_, rv a] [(.ref a), (.int 0), (.ref a), (.ref s_)]
  obtain ⟨cl1, Aq1, -, S1, M1, -, -⟩ := id V_a
  refine os (fun _ z => X0.arraylength hx (by rw [e0]; exact Aq1.1) (oia hZ Aq1.2.1) (g := (mkF m 4 #[rv s_, rv a] [(.ref a), (.int 0), (.ref a), (.ref s_)])) rfl rfl (hb hby d1_4) _ z) ?_
  rw [len_of S1 M1]
  show OG p e below Φ s₁ m 5 #[rv s_, rv a] [(.int 1), (.int 0), (.ref a), (.ref s_)]
  refine os (fun _ z => XS.aconstNull X0.here hx rfl (hb hby d1_5) z) ?_
  obtain ⟨_, T2, L2, X2, hQ2, st2⟩ := own_callSp X0 hx hZ rfl hown (ow10 hw) (ow11 hw) (ow6 hw) (ow13 hw) (by decide) (rsl1i4 l Z a0 hw [] s_ a ca qc c0_ h0 n0 Z0 E_s g_s F_v F_c V_a nsa S_q hq hl0) e0 (W := 0) (by decide) (by decide) (by decide) (by decide) (pc := 6) (ls := #[rv s_, rv a]) (stk := [.null, (.int 1), (.int 0), (.ref a), (.ref s_)]) (by rw [hml]; rfl) (a := s_) (argsL := [(.ref a), (.int 0), (.int 1), .null]) (rest := []) (lenOf pd0 rfl) rfl rfl (Nat.le_of_eq rfl) (hb hby d1_6)
  obtain ⟨rfl, Nq2, Kq2, Eq2, b2, cb2, Fv2, Fc2, Vq2, hz2⟩ := hQ2
  have nq2_a : a ≠ b2 := Nat.ne_of_lt (Nat.lt_of_lt_of_le V_a.lt hz2)
  have nq2_s_ : s_ ≠ b2 := Nat.ne_of_lt (Nat.lt_of_lt_of_le E_s.lt hz2)
  have gq2 : n0 ≤ b2 := Nat.le_trans Z0 hz2
  have sq2 : h0.size ≤ b2 := Nat.le_trans K0.1 hz2
  have N2 := Fr.app N0 Nq2
  have Zs2 : n0 ≤ T2.heap.size := Nat.le_trans Z0 Kq2.1
  have F3 := V_a.keep Kq2 (ninS (Ne.symm nsa) nin0)
  have K2 := K0.trans Kq2 (allS (Or.inl (List.mem_of_getElem? (i := 0) rfl)) all0)
  refine os st2 ?_
  show OG p e below Φ T2 m 9 #[rv s_, rv a] []
  refine OGo.fin X2 hlk (v := none) (fun _ => rfl) (by decide) (by decide) (fun fs hr => X2.returnOut hx hret (hb hby d1_9) hr) fun U eU hF => hΦ _ _ _ ?_ hF
  rw [eU]
  show Q_rsl1i1 Z s_ a ca qc c0_ h0 n0 _ _ _
  exact ⟨rfl, N2, K2, Eq2, _, _, Fv2, Fc2, Vq2, sq2⟩

theorem d5_23 : decode jdk_52_method_21_code 23 = .ok (.iload 5, 2) := by decide +kernel
theorem d5_25 : decode jdk_52_method_21_code 25 = .ok (.ireturn, 1) := by decide +kernel
theorem ef_rsb1_0c2 (m : MethodId) (x0 : Addr) (x1 : Int32) (x2 : Addr) (x3 : Int32) (x4 : Int32) : entryFrame m #[(.ref x0), (.int x1), (.ref x2), (.int x3), (.int x4)] 7 = mkF m 0 #[.val (.ref x0), .val (.int x1), .val (.ref x2), .val (.int x3), .val (.int x4), .unset, .unset] [] := by first | (simp [entryFrame, mkF, argsToLocals, Value.category]; done) | rfl
def Q_rsb1_0c2 (Z : State) (a : Addr) (ca : ClassId) (b : Addr) (cb : ClassId) (c0_ : Int32) (h0 : Heap) (n0 : Nat) (v : Option Value) (h : Heap) (L : List Loc) : Prop := v = some (.int (0 : Int32)) ∧ Fr n0 L ∧ Keep h0 h [b]
set_option maxRecDepth 65536 in
set_option maxHeartbeats 40000000 in
theorem rsb1_0c2 (l : Launch) (Z : State) (a0 : Array Value) (hw : ∀ d ∈ tables_1, d.before a0 Z = true) (ws : List Jvm.Cond) (a : Addr) (ca : ClassId) (b : Addr) (cb : ClassId) (c0_ : Int32) (h0 : Heap) (n0 : Nat) (Z0 : n0 ≤ h0.size) (V_a : Arv Z h0 a ca .char (1 : Int32) [(.int c0_)] (.int (0 : Int32))) (V_b : Arv Z h0 b cb .byte (1 : Int32) [(.int (0 : Int32))] (.int (0 : Int32))) (nab : a ≠ b) (g_b : n0 ≤ b) (hb0 : (255 : Int32) < c0_) :
    OCon l Z (⟨"java/lang/StringUTF16", "compress", "([CI[BII)I"⟩ : MethodName) jdk_52_method_21_code 7 (some .int) ws ({ frames := 0, cells := 0, slots := 0, locals := 0 } : Room) #[(.ref a), (.int (0 : Int32)), (.ref b), (.int (0 : Int32)), (.int (1 : Int32))] h0 (Q_rsb1_0c2 Z a ca b cb c0_ h0 n0) := by
  refine OCon.of (plainFor_of_name pn1) ?_
  intro p e s m below meth c s₁ Φ X0 hx hby hml hown hnm hret hlk hZ e0 hΦ
  have N0 := Fr.nil n0
  refine os (fun _ z => castTop (ef_rsb1_0c2 m a (0 : Int32) b (0 : Int32) (1 : Int32)) z) ?_
  have K0 := Keep.refl h0 [b]
  show OG p e below Φ s₁ m 0 #[rv a, iv 0, rv b, iv 0, iv 1, .unset, .unset] []
  refine os (fun _ z => XS.iconst X0.here hx rfl (hb hby d5_0) z) ?_
  refine os (fun _ z => XS.istore X0.here hx rfl (hb hby d5_1) rfl (l' := #[rv a, iv 0, rv b, iv 0, iv 1, iv 0, .unset]) rfl z) ?_
  show OG p e below Φ s₁ m 3 #[rv a, iv 0, rv b, iv 0, iv 1, iv 0, .unset] []
  refine os (fun _ z => XS.iload X0.here hx rfl (hb hby d5_3) rfl z) ?_
  refine os (fun _ z => XS.iload X0.here hx rfl (hb hby d5_5) rfl z) ?_
  show OG p e below Φ s₁ m 7 #[rv a, iv 0, rv b, iv 0, iv 1, iv 0, .unset] [(.int 1), (.int 0)]
  refine os (fun _ z => XS.icmpNo X0.here hx rfl (hb hby d5_7) rfl (XT.ii_ge_f (by decide)) z) ?_
  show OG p e below Φ s₁ m 10 #[rv a, iv 0, rv b, iv 0, iv 1, iv 0, .unset] []
  refine os (fun _ z => XS.aloadN X0.here hx rfl (hb hby d5_10) rfl rfl z) ?_
  refine os (fun _ z => XS.iloadN X0.here hx rfl (hb hby d5_11) rfl z) ?_
  show OG p e below Φ s₁ m 12 #[rv a, iv 0, rv b, iv 0, iv 1, iv 0, .unset] [(.int 0), (.ref a)]
  obtain ⟨cl1, Aq1, -, S1, M1, H1, -⟩ := id V_a
  have in1 : ¬ ((0 : Int32) < 0 ∨ cl1.slots.size ≤ (0 : Int32).toNatClampNeg) := inb_of S1 ⟨by decide, by decide⟩
  have at1 : cl1.slots[(0 : Int32).toNatClampNeg]? = some (.int c0_) := H1.at in1 rfl
  refine os (fun _ z => X0.caload hx (by rw [e0]; exact Aq1.1) (oia hZ Aq1.2.1) Aq1.2.2 in1 at1 (g := (mkF m 12 #[rv a, iv 0, rv b, iv 0, iv 1, iv 0, .unset] [(.int 0), (.ref a)])) rfl rfl (hb hby d5_12) _ z) ?_
  show OG p e below Φ s₁ m 13 #[rv a, iv 0, rv b, iv 0, iv 1, iv 0, .unset] [(.int c0_)]
  refine os (fun _ z => XS.istore X0.here hx rfl (hb hby d5_13) rfl (l' := #[rv a, iv 0, rv b, iv 0, iv 1, iv 0, iv c0_]) rfl z) ?_
  show OG p e below Φ s₁ m 15 #[rv a, iv 0, rv b, iv 0, iv 1, iv 0, iv c0_] []
  refine os (fun _ z => XS.iload X0.here hx rfl (hb hby d5_15) rfl z) ?_
  refine os (fun _ z => XS.sipush X0.here hx rfl (hb hby d5_17) z) ?_
  show OG p e below Φ s₁ m 20 #[rv a, iv 0, rv b, iv 0, iv 1, iv 0, iv c0_] [(.int 255), (.int c0_)]
  refine os (fun _ z => XS.icmpNo X0.here hx rfl (hb hby d5_20) rfl (XT.ii_le_f hb0) z) ?_
  show OG p e below Φ s₁ m 23 #[rv a, iv 0, rv b, iv 0, iv 1, iv 0, iv c0_] []
  refine os (fun _ z => XS.iload X0.here hx rfl (hb hby d5_23) rfl z) ?_
  refine OGo.fin X0 hlk (v := (some (.int 0))) (fun h => by rw [hret] at h; cases h) (by decide) (by decide) (fun fs hr => X0.ireturnOut hx hret rfl (by simp) (hb hby d5_25) hr) fun U eU hF => hΦ _ _ _ ?_ hF
  rw [eU, e0]
  show Q_rsb1_0c2 Z a ca b cb c0_ h0 n0 _ _ _
  exact ⟨rfl, N0, K0⟩

theorem d12_0 : decode jdk_52_method_3_code 0 = .ok (.iload_n 0, 1) := by decide +kernel
theorem d12_1 : decode jdk_52_method_3_code 1 = .ok (.ifCond .ge 11, 3) := by decide +kernel
theorem d12_12 : decode jdk_52_method_3_code 12 = .ok (.iload_n 0, 1) := by decide +kernel
theorem d12_13 : decode jdk_52_method_3_code 13 = .ok (.ldc 20, 2) := by decide +kernel
theorem d12_15 : decode jdk_52_method_3_code 15 = .ok (.if_icmp .lt 40, 3) := by decide +kernel
theorem d12_55 : decode jdk_52_method_3_code 55 = .ok (.iload_n 0, 1) := by decide +kernel
theorem d12_56 : decode jdk_52_method_3_code 56 = .ok (.iconst 1, 1) := by decide +kernel
theorem d12_57 : decode jdk_52_method_3_code 57 = .ok (.ishl, 1) := by decide +kernel
theorem d12_58 : decode jdk_52_method_3_code 58 = .ok (.ireturn, 1) := by decide +kernel
theorem ef_rsb1_0nl (m : MethodId) (x0 : Int32) : entryFrame m #[(.int x0)] 1 = mkF m 0 #[.val (.int x0)] [] := by first | (simp [entryFrame, mkF, argsToLocals, Value.category]; done) | rfl
def Q_rsb1_0nl (Z : State)  (h0 : Heap) (n0 : Nat) (v : Option Value) (h : Heap) (L : List Loc) : Prop := v = some (.int (2 : Int32)) ∧ Fr n0 L ∧ h = h0
set_option maxRecDepth 65536 in
set_option maxHeartbeats 40000000 in
theorem rsb1_0nl (l : Launch) (Z : State) (a0 : Array Value) (hw : ∀ d ∈ tables_1, d.before a0 Z = true) (ws : List Jvm.Cond)  (h0 : Heap) (n0 : Nat) (Z0 : n0 ≤ h0.size)  :
    OCon l Z (⟨"java/lang/StringUTF16", "newBytesLength", "(I)I"⟩ : MethodName) jdk_52_method_3_code 1 (some .int) ws ({ frames := 0, cells := 0, slots := 0, locals := 0 } : Room) #[(.int (1 : Int32))] h0 (Q_rsb1_0nl Z  h0 n0) := by
  refine OCon.of (plainFor_of_name pn1) ?_
  intro p e s m below meth c s₁ Φ X0 hx hby hml hown hnm hret hlk hZ e0 hΦ
  have N0 := Fr.nil n0
  refine os (fun _ z => castTop (ef_rsb1_0nl m (1 : Int32)) z) ?_
  show OG p e below Φ s₁ m 0 #[iv 1] []
  refine os (fun _ z => XS.iloadN X0.here hx rfl (hb hby d12_0) rfl z) ?_
  refine os (fun _ z => XS.ifYes X0.here hx rfl (pc0 := 1) (pc' := 12) rfl (hb hby d12_1) rfl (XT.i0_ge_t (by decide)) (by decide) (by decide) z) ?_
  show OG p e below Φ s₁ m 12 #[iv 1] []
  refine os (fun _ z => XS.iloadN X0.here hx rfl (hb hby d12_12) rfl z) ?_
  refine os (fun _ z => X0.ldcI hx hown (mvT hZ (ow61 hw)) rfl (hb hby d12_13) z) ?_
  show OG p e below Φ s₁ m 15 #[iv 1] [(.int 1073741823), (.int 1)]
  refine os (fun _ z => XS.icmpYes X0.here hx rfl (pc0 := 15) (pc' := 55) rfl (hb hby d12_15) rfl (XT.ii_lt_t (by decide)) (by decide) (by decide) z) ?_
  show OG p e below Φ s₁ m 55 #[iv 1] []
  refine os (fun _ z => XS.iloadN X0.here hx rfl (hb hby d12_55) rfl z) ?_
  refine os (fun _ z => XS.iconst X0.here hx rfl (hb hby d12_56) z) ?_
  show OG p e below Φ s₁ m 57 #[iv 1] [(.int 1), (.int 1)]
  refine os (fun _ z => XT.ishl X0.here hx rfl (hb hby d12_57) rfl z) ?_
  show OG p e below Φ s₁ m 58 #[iv 1] [(.int 2)]
  refine OGo.fin X0 hlk (v := (some (.int 2))) (fun h => by rw [hret] at h; cases h) (by decide) (by decide) (fun fs hr => X0.ireturnOut hx hret rfl (by simp) (hb hby d12_58) hr) fun U eU hF => hΦ _ _ _ ?_ hF
  rw [eU, e0]
  show Q_rsb1_0nl Z  h0 n0 _ _ _
  exact ⟨rfl, N0, rfl⟩

theorem d11_0 : decode jdk_52_method_2_code 0 = .ok (.iload_n 0, 1) := by decide +kernel
theorem d11_1 : decode jdk_52_method_2_code 1 = .ok (.invokestatic 11, 3) := by decide +kernel
theorem pd4 : parseMethodDescriptor "(I)I" = some ⟨[.int], some .int⟩ := by decide +kernel
theorem d11_4 : decode jdk_52_method_2_code 4 = .ok (.newarray .byte, 2) := by decide +kernel
theorem d11_6 : decode jdk_52_method_2_code 6 = .ok (.areturn, 1) := by decide +kernel
theorem ef_rsb1_0nf (m : MethodId) (x0 : Int32) : entryFrame m #[(.int x0)] 1 = mkF m 0 #[.val (.int x0)] [] := by first | (simp [entryFrame, mkF, argsToLocals, Value.category]; done) | rfl
def Q_rsb1_0nf (Z : State)  (h0 : Heap) (n0 : Nat) (v : Option Value) (h : Heap) (L : List Loc) : Prop := ∃ b cb, v = some (.ref b) ∧ Fr n0 L ∧ Keep h0 h [] ∧ Arv Z h b cb .byte (2 : Int32) [(.int (0 : Int32)), (.int (0 : Int32))] (.int (0 : Int32)) ∧ h0.size ≤ b
set_option maxRecDepth 65536 in
set_option maxHeartbeats 40000000 in
theorem rsb1_0nf (l : Launch) (Z : State) (a0 : Array Value) (hw : ∀ d ∈ tables_1, d.before a0 Z = true) (ws : List Jvm.Cond)  (h0 : Heap) (n0 : Nat) (Z0 : n0 ≤ h0.size)  :
    OCon l Z (⟨"java/lang/StringUTF16", "newBytesFor", "(I)[B"⟩ : MethodName) jdk_52_method_2_code 1 (some (.array .byte)) ws ({ frames := 1, cells := 1, slots := 2, locals := 12 } : Room) #[(.int (1 : Int32))] h0 (Q_rsb1_0nf Z  h0 n0) := by
  refine OCon.of (plainFor_of_name pn1) ?_
  intro p e s m below meth c s₁ Φ X0 hx hby hml hown hnm hret hlk hZ e0 hΦ
  have N0 := Fr.nil n0
  refine os (fun _ z => castTop (ef_rsb1_0nf m (1 : Int32)) z) ?_
  have K0 := Keep.refl h0 []
  show OG p e below Φ s₁ m 0 #[iv 1] []
  refine os (fun _ z => XS.iloadN X0.here hx rfl (hb hby d11_0) rfl z) ?_
  obtain ⟨_, T1, L1, X1, hQ1, st1⟩ := own_callSt X0 hx hZ hown (ow58 hw) (ow59 hw) (ow20 hw) (ow60 hw) (by decide) (rsb1_0nl l Z a0 hw []  h0 n0 Z0 ) e0 (W := 0) (by decide) (by decide) (by decide) (by decide) (pc := 1) (ls := #[iv 1]) (stk := [(.int 1)]) (by rw [hml]; rfl) (argsL := [(.int 1)]) (rest := []) (lenOf pd4 rfl) rfl rfl (Nat.le_of_eq rfl) (hb hby d11_1)
  obtain ⟨rfl, Nq1, e1⟩ := hQ1
  have N1 := Fr.app N0 Nq1
  refine os st1 ?_
  show OG p e below Φ T1 m 4 #[iv 1] [(.int 2)]
  obtain ⟨T2, h2, c2, X2, e2, E2, Ar2, st2⟩ := newP (aty := .byte) X1 hx hZ (ow1 hw) e1 (g := (mkF m 4 #[iv 1] [(.int 2)])) rfl (hb hby d11_4) rfl (by decide) (cap := 2) (by decide) (by decide) (by decide) (by decide)
  obtain ⟨b2, g2⟩ : ∃ z, z = h0.size := ⟨_, rfl⟩
  rw [← g2] at Ar2 st2
  have gb2 : n0 ≤ b2 := Nat.le_trans Z0 (Nat.le_of_eq g2.symm)
  have sz2 : h0.size ≤ b2 := Nat.le_trans K0.1 (Nat.le_of_eq g2.symm)
  have K2 := K0.ext E2
  have Zs2 : n0 ≤ h2.size := Nat.le_trans Z0 E2.1
  have V2 : Arv Z h2 b2 c2 .byte (2 : Int32) [(.int (0 : Int32)), (.int (0 : Int32))] (.int (0 : Int32)) := (Arv.new Ar2 (by decide)).pad (pad_rep [] _ 2)
  refine os st2 ?_
  show OG p e below Φ T2 m 6 #[iv 1] [(.ref b2)]
  refine OGo.fin X2 hlk (v := (some (.ref b2))) (fun h => by rw [hret] at h; cases h) (by decide) (by decide) (fun fs hr => X2.areturnOut hx rfl hret rfl (hb hby d11_6) hr) fun U eU hF => hΦ _ _ _ ?_ hF
  rw [eU, e2]
  show Q_rsb1_0nf Z  h0 n0 _ _ _
  exact ⟨_, _, rfl, N1, K2, V2, sz2⟩

theorem d13_0 : decode jdk_52_method_4_code 0 = .ok (.getstatic 44, 3) := by decide +kernel
theorem d13_3 : decode jdk_52_method_4_code 3 = .ok (.ifCond .ne 25, 3) := by decide +kernel
theorem d13_28 : decode jdk_52_method_4_code 28 = .ok (.iload_n 1, 1) := by decide +kernel
theorem d13_29 : decode jdk_52_method_4_code 29 = .ok (.iconst 1, 1) := by decide +kernel
theorem d13_30 : decode jdk_52_method_4_code 30 = .ok (.ishl, 1) := by decide +kernel
theorem d13_31 : decode jdk_52_method_4_code 31 = .ok (.istore_n 1, 1) := by decide +kernel
theorem d13_32 : decode jdk_52_method_4_code 32 = .ok (.aload_n 0, 1) := by decide +kernel
theorem d13_33 : decode jdk_52_method_4_code 33 = .ok (.iload_n 1, 1) := by decide +kernel
theorem d13_34 : decode jdk_52_method_4_code 34 = .ok (.iinc 1 1, 3) := by decide +kernel
theorem d13_37 : decode jdk_52_method_4_code 37 = .ok (.iload_n 2, 1) := by decide +kernel
theorem d13_38 : decode jdk_52_method_4_code 38 = .ok (.getstatic 59, 3) := by decide +kernel
theorem d13_41 : decode jdk_52_method_4_code 41 = .ok (.ishr, 1) := by decide +kernel
theorem d13_42 : decode jdk_52_method_4_code 42 = .ok (.i2b, 1) := by decide +kernel
theorem d13_43 : decode jdk_52_method_4_code 43 = .ok (.bastore, 1) := by decide +kernel
theorem d13_44 : decode jdk_52_method_4_code 44 = .ok (.aload_n 0, 1) := by decide +kernel
theorem d13_45 : decode jdk_52_method_4_code 45 = .ok (.iload_n 1, 1) := by decide +kernel
theorem d13_46 : decode jdk_52_method_4_code 46 = .ok (.iload_n 2, 1) := by decide +kernel
theorem d13_47 : decode jdk_52_method_4_code 47 = .ok (.getstatic 63, 3) := by decide +kernel
theorem d13_50 : decode jdk_52_method_4_code 50 = .ok (.ishr, 1) := by decide +kernel
theorem d13_51 : decode jdk_52_method_4_code 51 = .ok (.i2b, 1) := by decide +kernel
theorem d13_52 : decode jdk_52_method_4_code 52 = .ok (.bastore, 1) := by decide +kernel
theorem d13_53 : decode jdk_52_method_4_code 53 = .ok (.return_, 1) := by decide +kernel
theorem ef_rsb1_0pc0 (m : MethodId) (x0 : Addr) (x1 : Int32) (x2 : Int32) : entryFrame m #[(.ref x0), (.int x1), (.int x2)] 3 = mkF m 0 #[.val (.ref x0), .val (.int x1), .val (.int x2)] [] := by first | (simp [entryFrame, mkF, argsToLocals, Value.category]; done) | rfl
def Q_rsb1_0pc0 (Z : State) (b : Addr) (cb : ClassId) (c0_ : Int32) (h0 : Heap) (n0 : Nat) (v : Option Value) (h : Heap) (L : List Loc) : Prop := v = none ∧ Fr n0 L ∧ Keep h0 h [b] ∧ Arv Z h b cb .byte (2 : Int32) [(.int (ohb c0_)), (.int (olb c0_))] (.int (0 : Int32))
set_option maxRecDepth 65536 in
set_option maxHeartbeats 40000000 in
theorem rsb1_0pc0 (l : Launch) (Z : State) (a0 : Array Value) (hw : ∀ d ∈ tables_1, d.before a0 Z = true) (ws : List Jvm.Cond) (b : Addr) (cb : ClassId) (c0_ : Int32) (h0 : Heap) (n0 : Nat) (Z0 : n0 ≤ h0.size) (V_b : Arv Z h0 b cb .byte (2 : Int32) [(.int (0 : Int32)), (.int (0 : Int32))] (.int (0 : Int32))) (g_b : n0 ≤ b) (S_ad : Sta Z h0 "java/lang/StringUTF16" "$assertionsDisabled" "Z" (.int (1 : Int32))) (S_hb : Sta Z h0 "java/lang/StringUTF16" "HI_BYTE_SHIFT" "I" (.int (0 : Int32))) (S_lb : Sta Z h0 "java/lang/StringUTF16" "LO_BYTE_SHIFT" "I" (.int (8 : Int32))) :
    OCon l Z (⟨"java/lang/StringUTF16", "putChar", "([BII)V"⟩ : MethodName) jdk_52_method_4_code 3 none ws ({ frames := 0, cells := 0, slots := 0, locals := 0 } : Room) #[(.ref b), (.int (0 : Int32)), (.int c0_)] h0 (Q_rsb1_0pc0 Z b cb c0_ h0 n0) := by
  refine OCon.of (plainFor_of_name pn1) ?_
  intro p e s m below meth c s₁ Φ X0 hx hby hml hown hnm hret hlk hZ e0 hΦ
  have N0 := Fr.nil n0
  refine os (fun _ z => castTop (ef_rsb1_0pc0 m b (0 : Int32) c0_) z) ?_
  have K0 := Keep.refl h0 [b]
  show OG p e below Φ s₁ m 0 #[rv b, iv 0, iv c0_] []
  obtain ⟨T1, X1, e1, st1⟩ := getS2 X0 hx hZ hown (host := "") (Or.inl (ow65 hw)) Via.refl e0 S_ad (g := (mkF m 0 #[rv b, iv 0, iv c0_] [])) rfl (hb hby d13_0)
  refine os st1 ?_
  show OG p e below Φ T1 m 3 #[rv b, iv 0, iv c0_] [(.int 1)]
  refine os (fun _ z => XS.ifYes X1.here hx rfl (pc0 := 3) (pc' := 28) rfl (hb hby d13_3) rfl (XT.i0_ne_t (by decide)) (by decide) (by decide) z) ?_
  show OG p e below Φ T1 m 28 #[rv b, iv 0, iv c0_] []
  refine os (fun _ z => XS.iloadN X1.here hx rfl (hb hby d13_28) rfl z) ?_
  refine os (fun _ z => XS.iconst X1.here hx rfl (hb hby d13_29) z) ?_
  show OG p e below Φ T1 m 30 #[rv b, iv 0, iv c0_] [(.int 1), (.int 0)]
  refine os (fun _ z => XT.ishl X1.here hx rfl (hb hby d13_30) rfl z) ?_
  show OG p e below Φ T1 m 31 #[rv b, iv 0, iv c0_] [(.int 0)]
  refine os (fun _ z => XS.istoreN X1.here hx rfl (hb hby d13_31) rfl (l' := #[rv b, iv 0, iv c0_]) rfl z) ?_
  show OG p e below Φ T1 m 32 #[rv b, iv 0, iv c0_] []
  refine os (fun _ z => XS.aloadN X1.here hx rfl (hb hby d13_32) rfl rfl z) ?_
  refine os (fun _ z => XS.iloadN X1.here hx rfl (hb hby d13_33) rfl z) ?_
  show OG p e below Φ T1 m 34 #[rv b, iv 0, iv c0_] [(.int 0), (.ref b)]
  refine os (fun _ z => XS.iinc X1.here hx rfl (hb hby d13_34) rfl (l' := #[rv b, iv ((0 : Int32) + (1 : Int32)), iv c0_]) rfl z) ?_
  show OG p e below Φ T1 m 37 #[rv b, iv 1, iv c0_] [(.int 0), (.ref b)]
  refine os (fun _ z => XS.iloadN X1.here hx rfl (hb hby d13_37) rfl z) ?_
  obtain ⟨T2, X2, e2, st2⟩ := getS2 X1 hx hZ hown (host := "") (Or.inl (ow66 hw)) Via.refl e1 S_hb (g := (mkF m 38 #[rv b, iv 1, iv c0_] [(.int c0_), (.int 0), (.ref b)])) rfl (hb hby d13_38)
  refine os st2 ?_
  show OG p e below Φ T2 m 41 #[rv b, iv 1, iv c0_] [(.int 0), (.int c0_), (.int 0), (.ref b)]
  refine os (fun _ z => XT.ishr X2.here hx rfl (hb hby d13_41) rfl z) ?_
  show OG p e below Φ T2 m 42 #[rv b, iv 1, iv c0_] [(.int (c0_ >>> ((0 : Int32) &&& 31))), (.int 0), (.ref b)]
  refine os (fun _ z => XT.i2b X2.here hx rfl (hb hby d13_42) rfl z) ?_
  show OG p e below Φ T2 m 43 #[rv b, iv 1, iv c0_] [(.int ((c0_ >>> ((0 : Int32) &&& 31)).toInt8.toInt32)), (.int 0), (.ref b)]
  obtain ⟨cl3, Aq3, Cq3, S3, M3, H3, G3⟩ := id V_b
  have in3 : ¬ ((0 : Int32) < 0 ∨ cl3.slots.size ≤ (0 : Int32).toNatClampNeg) := inb_of S3 ⟨by decide, by decide⟩
  obtain ⟨T3, h3, X3, e3, W3, st3⟩ := stB X2 hx hZ e2 Aq3 in3 (g := (mkF m 43 #[rv b, iv 1, iv c0_] [(.int ((c0_ >>> ((0 : Int32) &&& 31)).toInt8.toInt32)), (.int 0), (.ref b)])) rfl rfl (hb hby d13_43)
  have W3 : Wr h0 h3 b (0 : Int32).toNatClampNeg (.int (nar .byte ((c0_ >>> ((0 : Int32) &&& 31)).toInt8.toInt32))) := W3
  have F4 := S_ad.wr W3
  have F5 := S_hb.wr W3
  have F6 := S_lb.wr W3
  have V3 : Arv Z h3 b cb .byte (2 : Int32) [(.int (nar .byte ((c0_ >>> ((0 : Int32) &&& 31)).toInt8.toInt32))), (.int (0 : Int32))] (.int (0 : Int32)) := Arv.set Aq3 Cq3 S3 M3 H3 G3 (fits_nar_byte _) W3 0 (by decide) (by show 0 < 2; decide)
  have K3 := K0.wr W3 (Or.inl (List.mem_of_getElem? (i := 0) rfl))
  have N3 := Fr.snoc X3 N0 g_b
  have Zs3 : n0 ≤ h3.size := by rw [W3.size]; exact Z0
  refine os st3 ?_
  show OG p e below Φ T3 m 44 #[rv b, iv 1, iv c0_] []
  refine os (fun _ z => XS.aloadN X3.here hx rfl (hb hby d13_44) rfl rfl z) ?_
  refine os (fun _ z => XS.iloadN X3.here hx rfl (hb hby d13_45) rfl z) ?_
  show OG p e below Φ T3 m 46 #[rv b, iv 1, iv c0_] [(.int 1), (.ref b)]
  refine os (fun _ z => XS.iloadN X3.here hx rfl (hb hby d13_46) rfl z) ?_
  obtain ⟨T7, X7, e7, st7⟩ := getS2 X3 hx hZ hown (host := "") (Or.inl (ow67 hw)) Via.refl e3 F6 (g := (mkF m 47 #[rv b, iv 1, iv c0_] [(.int c0_), (.int 1), (.ref b)])) rfl (hb hby d13_47)
  refine os st7 ?_
  show OG p e below Φ T7 m 50 #[rv b, iv 1, iv c0_] [(.int 8), (.int c0_), (.int 1), (.ref b)]
  refine os (fun _ z => XT.ishr X7.here hx rfl (hb hby d13_50) rfl z) ?_
  show OG p e below Φ T7 m 51 #[rv b, iv 1, iv c0_] [(.int (c0_ >>> ((8 : Int32) &&& 31))), (.int 1), (.ref b)]
  refine os (fun _ z => XT.i2b X7.here hx rfl (hb hby d13_51) rfl z) ?_
  show OG p e below Φ T7 m 52 #[rv b, iv 1, iv c0_] [(.int ((c0_ >>> ((8 : Int32) &&& 31)).toInt8.toInt32)), (.int 1), (.ref b)]
  obtain ⟨cl8, Aq8, Cq8, S8, M8, H8, G8⟩ := id V3
  have in8 : ¬ ((1 : Int32) < 0 ∨ cl8.slots.size ≤ (1 : Int32).toNatClampNeg) := inb_of S8 ⟨by decide, by decide⟩
  obtain ⟨T8, h8, X8, e8, W8, st8⟩ := stB X7 hx hZ e7 Aq8 in8 (g := (mkF m 52 #[rv b, iv 1, iv c0_] [(.int ((c0_ >>> ((8 : Int32) &&& 31)).toInt8.toInt32)), (.int 1), (.ref b)])) rfl rfl (hb hby d13_52)
  have W8 : Wr h3 h8 b (1 : Int32).toNatClampNeg (.int (nar .byte ((c0_ >>> ((8 : Int32) &&& 31)).toInt8.toInt32))) := W8
  have F9 := F4.wr W8
  have F10 := F5.wr W8
  have F11 := F6.wr W8
  have V8 : Arv Z h8 b cb .byte (2 : Int32) [(.int (nar .byte ((c0_ >>> ((0 : Int32) &&& 31)).toInt8.toInt32))), (.int (nar .byte ((c0_ >>> ((8 : Int32) &&& 31)).toInt8.toInt32)))] (.int (0 : Int32)) := Arv.set Aq8 Cq8 S8 M8 H8 G8 (fits_nar_byte _) W8 1 (by decide) (by show 1 < 2; decide)
  have K8 := K3.wr W8 (Or.inl (List.mem_of_getElem? (i := 0) rfl))
  have N8 := Fr.snoc X8 N3 g_b
  have Zs8 : n0 ≤ h8.size := by rw [W8.size]; exact Zs3
  refine os st8 ?_
  show OG p e below Φ T8 m 53 #[rv b, iv 1, iv c0_] []
  refine OGo.fin X8 hlk (v := none) (fun _ => rfl) (by decide) (by decide) (fun fs hr => X8.returnOut hx hret (hb hby d13_53) hr) fun U eU hF => hΦ _ _ _ ?_ hF
  rw [eU, e8]
  show Q_rsb1_0pc0 Z b cb c0_ h0 n0 _ _ _
  exact ⟨rfl, N8, K8, V8⟩

theorem d10_0 : decode jdk_52_method_14_code 0 = .ok (.iload_n 2, 1) := by decide +kernel
theorem d10_1 : decode jdk_52_method_14_code 1 = .ok (.invokestatic 107, 3) := by decide +kernel
theorem pd5 : parseMethodDescriptor "(I)[B" = some ⟨[.int], some (.array .byte)⟩ := by decide +kernel
theorem d10_4 : decode jdk_52_method_14_code 4 = .ok (.astore_n 3, 1) := by decide +kernel
theorem d10_5 : decode jdk_52_method_14_code 5 = .ok (.iconst 0, 1) := by decide +kernel
theorem d10_6 : decode jdk_52_method_14_code 6 = .ok (.istore 4, 2) := by decide +kernel
theorem d10_8 : decode jdk_52_method_14_code 8 = .ok (.iload 4, 2) := by decide +kernel
theorem d10_10 : decode jdk_52_method_14_code 10 = .ok (.iload_n 2, 1) := by decide +kernel
theorem d10_11 : decode jdk_52_method_14_code 11 = .ok (.if_icmp .ge 21, 3) := by decide +kernel
theorem d10_14 : decode jdk_52_method_14_code 14 = .ok (.aload_n 3, 1) := by decide +kernel
theorem d10_15 : decode jdk_52_method_14_code 15 = .ok (.iload 4, 2) := by decide +kernel
theorem d10_17 : decode jdk_52_method_14_code 17 = .ok (.aload_n 0, 1) := by decide +kernel
theorem d10_18 : decode jdk_52_method_14_code 18 = .ok (.iload_n 1, 1) := by decide +kernel
theorem d10_19 : decode jdk_52_method_14_code 19 = .ok (.caload, 1) := by decide +kernel
theorem d10_20 : decode jdk_52_method_14_code 20 = .ok (.invokestatic 111, 3) := by decide +kernel
theorem pd6 : parseMethodDescriptor "([BII)V" = some ⟨[(.array .byte), .int, .int], none⟩ := by decide +kernel
theorem d10_23 : decode jdk_52_method_14_code 23 = .ok (.iinc 1 1, 3) := by decide +kernel
theorem d10_26 : decode jdk_52_method_14_code 26 = .ok (.iinc 4 1, 3) := by decide +kernel
theorem d10_29 : decode jdk_52_method_14_code 29 = .ok (.goto (-21), 3) := by decide +kernel
theorem d10_32 : decode jdk_52_method_14_code 32 = .ok (.aload_n 3, 1) := by decide +kernel
theorem d10_33 : decode jdk_52_method_14_code 33 = .ok (.areturn, 1) := by decide +kernel
theorem ef_rsb1_0tb (m : MethodId) (x0 : Addr) (x1 : Int32) (x2 : Int32) : entryFrame m #[(.ref x0), (.int x1), (.int x2)] 5 = mkF m 0 #[.val (.ref x0), .val (.int x1), .val (.int x2), .unset, .unset] [] := by first | (simp [entryFrame, mkF, argsToLocals, Value.category]; done) | rfl
def Q_rsb1_0tb (Z : State) (a : Addr) (ca : ClassId) (c0_ : Int32) (h0 : Heap) (n0 : Nat) (v : Option Value) (h : Heap) (L : List Loc) : Prop := ∃ b cb, v = some (.ref b) ∧ Fr n0 L ∧ Keep h0 h [] ∧ Arv Z h b cb .byte (2 : Int32) [(.int (ohb c0_)), (.int (olb c0_))] (.int (0 : Int32)) ∧ h0.size ≤ b
set_option maxRecDepth 65536 in
set_option maxHeartbeats 40000000 in
theorem rsb1_0tb (l : Launch) (Z : State) (a0 : Array Value) (hw : ∀ d ∈ tables_1, d.before a0 Z = true) (ws : List Jvm.Cond) (a : Addr) (ca : ClassId) (c0_ : Int32) (h0 : Heap) (n0 : Nat) (Z0 : n0 ≤ h0.size) (V_a : Arv Z h0 a ca .char (1 : Int32) [(.int c0_)] (.int (0 : Int32))) (O_0 : Old Z n0 h0) (S_ad : Sta Z Z.heap "java/lang/StringUTF16" "$assertionsDisabled" "Z" (.int (1 : Int32))) (S_hb : Sta Z Z.heap "java/lang/StringUTF16" "HI_BYTE_SHIFT" "I" (.int (0 : Int32))) (S_lb : Sta Z Z.heap "java/lang/StringUTF16" "LO_BYTE_SHIFT" "I" (.int (8 : Int32))) :
    OCon l Z (⟨"java/lang/StringUTF16", "toBytes", "([CII)[B"⟩ : MethodName) jdk_52_method_14_code 5 (some (.array .byte)) ws ({ frames := 2, cells := 1, slots := 2, locals := 24 } : Room) #[(.ref a), (.int (0 : Int32)), (.int (1 : Int32))] h0 (Q_rsb1_0tb Z a ca c0_ h0 n0) := by
  refine OCon.of (plainFor_of_name pn1) ?_
  intro p e s m below meth c s₁ Φ X0 hx hby hml hown hnm hret hlk hZ e0 hΦ
  have N0 := Fr.nil n0
  refine os (fun _ z => castTop (ef_rsb1_0tb m a (0 : Int32) (1 : Int32)) z) ?_
  have K0 := Keep.refl h0 []
  show OG p e below Φ s₁ m 0 #[rv a, iv 0, iv 1, .unset, .unset] []
  refine os (fun _ z => XS.iloadN X0.here hx rfl (hb hby d10_0) rfl z) ?_
  obtain ⟨_, T1, L1, X1, hQ1, st1⟩ := own_callSt X0 hx hZ hown (ow55 hw) (ow56 hw) (ow20 hw) (ow57 hw) (by decide) (rsb1_0nf l Z a0 hw []  h0 n0 Z0 ) e0 (W := 0) (by decide) (by decide) (by decide) (by decide) (pc := 1) (ls := #[rv a, iv 0, iv 1, .unset, .unset]) (stk := [(.int 1)]) (by rw [hml]; rfl) (argsL := [(.int 1)]) (rest := []) (lenOf pd5 rfl) rfl rfl (Nat.le_of_eq rfl) (hb hby d10_1)
  obtain ⟨b1, cb1, rfl, Nq1, Kq1, Vq1, hz1⟩ := hQ1
  have nq1_a : a ≠ b1 := Nat.ne_of_lt (Nat.lt_of_lt_of_le V_a.lt hz1)
  have gq1 : n0 ≤ b1 := Nat.le_trans Z0 hz1
  have sq1 : h0.size ≤ b1 := Nat.le_trans K0.1 hz1
  have N1 := Fr.app N0 Nq1
  have Zs1 : n0 ≤ T1.heap.size := Nat.le_trans Z0 Kq1.1
  have F2 := V_a.keep Kq1 nin0
  have F3 := O_0.keep Kq1 all0
  have K1 := K0.trans Kq1 all0
  refine os st1 ?_
  show OG p e below Φ T1 m 4 #[rv a, iv 0, iv 1, .unset, .unset] [(.ref b1)]
  refine os (fun _ z => XS.astoreN X1.here hx rfl (hb hby d10_4) rfl rfl (l' := #[rv a, iv 0, iv 1, rv b1, .unset]) rfl z) ?_
  show OG p e below Φ T1 m 5 #[rv a, iv 0, iv 1, rv b1, .unset] []
  refine os (fun _ z => XS.iconst X1.here hx rfl (hb hby d10_5) z) ?_
  refine os (fun _ z => XS.istore X1.here hx rfl (hb hby d10_6) rfl (l' := #[rv a, iv 0, iv 1, rv b1, iv 0]) rfl z) ?_
  show OG p e below Φ T1 m 8 #[rv a, iv 0, iv 1, rv b1, iv 0] []
  refine os (fun _ z => XS.iload X1.here hx rfl (hb hby d10_8) rfl z) ?_
  refine os (fun _ z => XS.iloadN X1.here hx rfl (hb hby d10_10) rfl z) ?_
  show OG p e below Φ T1 m 11 #[rv a, iv 0, iv 1, rv b1, iv 0] [(.int 1), (.int 0)]
  refine os (fun _ z => XS.icmpNo X1.here hx rfl (hb hby d10_11) rfl (XT.ii_ge_f (by decide)) z) ?_
  show OG p e below Φ T1 m 14 #[rv a, iv 0, iv 1, rv b1, iv 0] []
  refine os (fun _ z => XS.aloadN X1.here hx rfl (hb hby d10_14) rfl rfl z) ?_
  refine os (fun _ z => XS.iload X1.here hx rfl (hb hby d10_15) rfl z) ?_
  show OG p e below Φ T1 m 17 #[rv a, iv 0, iv 1, rv b1, iv 0] [(.int 0), (.ref b1)]
  refine os (fun _ z => XS.aloadN X1.here hx rfl (hb hby d10_17) rfl rfl z) ?_
  refine os (fun _ z => XS.iloadN X1.here hx rfl (hb hby d10_18) rfl z) ?_
  show OG p e below Φ T1 m 19 #[rv a, iv 0, iv 1, rv b1, iv 0] [(.int 0), (.ref a), (.int 0), (.ref b1)]
  obtain ⟨cl4, Aq4, -, S4, M4, H4, -⟩ := id F2
  have in4 : ¬ ((0 : Int32) < 0 ∨ cl4.slots.size ≤ (0 : Int32).toNatClampNeg) := inb_of S4 ⟨by decide, by decide⟩
  have at4 : cl4.slots[(0 : Int32).toNatClampNeg]? = some (.int c0_) := H4.at in4 rfl
  refine os (fun _ z => X1.caload hx Aq4.1 (oia hZ Aq4.2.1) Aq4.2.2 in4 at4 (g := (mkF m 19 #[rv a, iv 0, iv 1, rv b1, iv 0] [(.int 0), (.ref a), (.int 0), (.ref b1)])) rfl rfl (hb hby d10_19) _ z) ?_
  show OG p e below Φ T1 m 20 #[rv a, iv 0, iv 1, rv b1, iv 0] [(.int c0_), (.int 0), (.ref b1)]
  obtain ⟨_, T5, L5, X5, hQ5, st5⟩ := own_callSt X1 hx hZ hown (ow62 hw) (ow63 hw) (ow20 hw) (ow64 hw) (by decide) (rsb1_0pc0 l Z a0 hw [] b1 cb1 c0_ T1.heap n0 Zs1 Vq1 gq1 (S_ad.ext F3.2) (S_hb.ext F3.2) (S_lb.ext F3.2)) rfl (W := 0) (by decide) (by decide) (by decide) (by decide) (pc := 20) (ls := #[rv a, iv 0, iv 1, rv b1, iv 0]) (stk := [(.int c0_), (.int 0), (.ref b1)]) (by rw [hml]; rfl) (argsL := [(.ref b1), (.int 0), (.int c0_)]) (rest := []) (lenOf pd6 rfl) rfl rfl (Nat.le_of_eq rfl) (hb hby d10_20)
  obtain ⟨rfl, Nq5, Kq5, Vq5⟩ := hQ5
  have N5 := Fr.app N1 Nq5
  have Zs5 : n0 ≤ T5.heap.size := Nat.le_trans Zs1 Kq5.1
  have F6 := F2.keep Kq5 (ninS nq1_a nin0)
  have F7 := F3.keep Kq5 (allS gq1 all0)
  have K5 := K1.trans Kq5 (allS (Or.inr sq1) all0)
  refine os st5 ?_
  show OG p e below Φ T5 m 23 #[rv a, iv 0, iv 1, rv b1, iv 0] []
  refine os (fun _ z => XS.iinc X5.here hx rfl (hb hby d10_23) rfl (l' := #[rv a, iv ((0 : Int32) + (1 : Int32)), iv 1, rv b1, iv 0]) rfl z) ?_
  show OG p e below Φ T5 m 26 #[rv a, iv 1, iv 1, rv b1, iv 0] []
  refine os (fun _ z => XS.iinc X5.here hx rfl (hb hby d10_26) rfl (l' := #[rv a, iv 1, iv 1, rv b1, iv ((0 : Int32) + (1 : Int32))]) rfl z) ?_
  show OG p e below Φ T5 m 29 #[rv a, iv 1, iv 1, rv b1, iv 1] []
  refine os (fun _ z => XS.goto X5.here hx rfl (pc0 := 29) (pc' := 8) rfl (hb hby d10_29) (by decide) (by decide) z) ?_
  show OG p e below Φ T5 m 8 #[rv a, iv 1, iv 1, rv b1, iv 1] []
  refine os (fun _ z => XS.iload X5.here hx rfl (hb hby d10_8) rfl z) ?_
  refine os (fun _ z => XS.iloadN X5.here hx rfl (hb hby d10_10) rfl z) ?_
  show OG p e below Φ T5 m 11 #[rv a, iv 1, iv 1, rv b1, iv 1] [(.int 1), (.int 1)]
  refine os (fun _ z => XS.icmpYes X5.here hx rfl (pc0 := 11) (pc' := 32) rfl (hb hby d10_11) rfl (XT.ii_ge_t (by decide)) (by decide) (by decide) z) ?_
  show OG p e below Φ T5 m 32 #[rv a, iv 1, iv 1, rv b1, iv 1] []
  refine os (fun _ z => XS.aloadN X5.here hx rfl (hb hby d10_32) rfl rfl z) ?_
  refine OGo.fin X5 hlk (v := (some (.ref b1))) (fun h => by rw [hret] at h; cases h) (by decide) (by decide) (fun fs hr => X5.areturnOut hx rfl hret rfl (hb hby d10_33) hr) fun U eU hF => hΦ _ _ _ ?_ hF
  rw [eU]
  show Q_rsb1_0tb Z a ca c0_ h0 n0 _ _ _
  exact ⟨_, _, rfl, N5, K5, Vq5, sq1⟩

theorem d14_0 : decode jdk_52_method_5_code 0 = .ok (.getstatic 44, 3) := by decide +kernel
theorem d14_3 : decode jdk_52_method_5_code 3 = .ok (.ifCond .ne 25, 3) := by decide +kernel
theorem d14_28 : decode jdk_52_method_5_code 28 = .ok (.iload_n 1, 1) := by decide +kernel
theorem d14_29 : decode jdk_52_method_5_code 29 = .ok (.iconst 1, 1) := by decide +kernel
theorem d14_30 : decode jdk_52_method_5_code 30 = .ok (.ishl, 1) := by decide +kernel
theorem d14_31 : decode jdk_52_method_5_code 31 = .ok (.istore_n 1, 1) := by decide +kernel
theorem d14_32 : decode jdk_52_method_5_code 32 = .ok (.aload_n 0, 1) := by decide +kernel
theorem d14_33 : decode jdk_52_method_5_code 33 = .ok (.iload_n 1, 1) := by decide +kernel
theorem d14_34 : decode jdk_52_method_5_code 34 = .ok (.iinc 1 1, 3) := by decide +kernel
theorem d14_37 : decode jdk_52_method_5_code 37 = .ok (.baload, 1) := by decide +kernel
theorem d14_38 : decode jdk_52_method_5_code 38 = .ok (.sipush 255, 3) := by decide +kernel
theorem d14_41 : decode jdk_52_method_5_code 41 = .ok (.iand, 1) := by decide +kernel
theorem d14_42 : decode jdk_52_method_5_code 42 = .ok (.getstatic 59, 3) := by decide +kernel
theorem d14_45 : decode jdk_52_method_5_code 45 = .ok (.ishl, 1) := by decide +kernel
theorem d14_46 : decode jdk_52_method_5_code 46 = .ok (.aload_n 0, 1) := by decide +kernel
theorem d14_47 : decode jdk_52_method_5_code 47 = .ok (.iload_n 1, 1) := by decide +kernel
theorem d14_48 : decode jdk_52_method_5_code 48 = .ok (.baload, 1) := by decide +kernel
theorem d14_49 : decode jdk_52_method_5_code 49 = .ok (.sipush 255, 3) := by decide +kernel
theorem d14_52 : decode jdk_52_method_5_code 52 = .ok (.iand, 1) := by decide +kernel
theorem d14_53 : decode jdk_52_method_5_code 53 = .ok (.getstatic 63, 3) := by decide +kernel
theorem d14_56 : decode jdk_52_method_5_code 56 = .ok (.ishl, 1) := by decide +kernel
theorem d14_57 : decode jdk_52_method_5_code 57 = .ok (.ior, 1) := by decide +kernel
theorem d14_58 : decode jdk_52_method_5_code 58 = .ok (.i2c, 1) := by decide +kernel
theorem d14_59 : decode jdk_52_method_5_code 59 = .ok (.ireturn, 1) := by decide +kernel
theorem ef_rsb1_0gc (m : MethodId) (x0 : Addr) (x1 : Int32) : entryFrame m #[(.ref x0), (.int x1)] 2 = mkF m 0 #[.val (.ref x0), .val (.int x1)] [] := by first | (simp [entryFrame, mkF, argsToLocals, Value.category]; done) | rfl
def Q_rsb1_0gc (Z : State) (b : Addr) (cb : ClassId) (c0_ : Int32) (h0 : Heap) (n0 : Nat) (v : Option Value) (h : Heap) (L : List Loc) : Prop := v = some (.int c0_) ∧ Fr n0 L ∧ h = h0
set_option maxRecDepth 65536 in
set_option maxHeartbeats 40000000 in
theorem rsb1_0gc (l : Launch) (Z : State) (a0 : Array Value) (hw : ∀ d ∈ tables_1, d.before a0 Z = true) (ws : List Jvm.Cond) (b : Addr) (cb : ClassId) (c0_ : Int32) (h0 : Heap) (n0 : Nat) (Z0 : n0 ≤ h0.size) (V_b : Arv Z h0 b cb .byte (2 : Int32) [(.int (ohb c0_)), (.int (olb c0_))] (.int (0 : Int32))) (S_ad : Sta Z h0 "java/lang/StringUTF16" "$assertionsDisabled" "Z" (.int (1 : Int32))) (S_hb : Sta Z h0 "java/lang/StringUTF16" "HI_BYTE_SHIFT" "I" (.int (0 : Int32))) (S_lb : Sta Z h0 "java/lang/StringUTF16" "LO_BYTE_SHIFT" "I" (.int (8 : Int32))) (hr0 : nar .char c0_ = c0_) :
    OCon l Z (⟨"java/lang/StringUTF16", "getChar", "([BI)C"⟩ : MethodName) jdk_52_method_5_code 2 (some .char) ws ({ frames := 0, cells := 0, slots := 0, locals := 0 } : Room) #[(.ref b), (.int (0 : Int32))] h0 (Q_rsb1_0gc Z b cb c0_ h0 n0) := by
  refine OCon.of (plainFor_of_name pn1) ?_
  intro p e s m below meth c s₁ Φ X0 hx hby hml hown hnm hret hlk hZ e0 hΦ
  have N0 := Fr.nil n0
  refine os (fun _ z => castTop (ef_rsb1_0gc m b (0 : Int32)) z) ?_
  show OG p e below Φ s₁ m 0 #[rv b, iv 0] []
  obtain ⟨T1, X1, e1, st1⟩ := getS2 X0 hx hZ hown (host := "") (Or.inl (ow65 hw)) Via.refl e0 S_ad (g := (mkF m 0 #[rv b, iv 0] [])) rfl (hb hby d14_0)
  refine os st1 ?_
  show OG p e below Φ T1 m 3 #[rv b, iv 0] [(.int 1)]
  refine os (fun _ z => XS.ifYes X1.here hx rfl (pc0 := 3) (pc' := 28) rfl (hb hby d14_3) rfl (XT.i0_ne_t (by decide)) (by decide) (by decide) z) ?_
  show OG p e below Φ T1 m 28 #[rv b, iv 0] []
  refine os (fun _ z => XS.iloadN X1.here hx rfl (hb hby d14_28) rfl z) ?_
  refine os (fun _ z => XS.iconst X1.here hx rfl (hb hby d14_29) z) ?_
  show OG p e below Φ T1 m 30 #[rv b, iv 0] [(.int 1), (.int 0)]
  refine os (fun _ z => XT.ishl X1.here hx rfl (hb hby d14_30) rfl z) ?_
  show OG p e below Φ T1 m 31 #[rv b, iv 0] [(.int 0)]
  refine os (fun _ z => XS.istoreN X1.here hx rfl (hb hby d14_31) rfl (l' := #[rv b, iv 0]) rfl z) ?_
  show OG p e below Φ T1 m 32 #[rv b, iv 0] []
  refine os (fun _ z => XS.aloadN X1.here hx rfl (hb hby d14_32) rfl rfl z) ?_
  refine os (fun _ z => XS.iloadN X1.here hx rfl (hb hby d14_33) rfl z) ?_
  show OG p e below Φ T1 m 34 #[rv b, iv 0] [(.int 0), (.ref b)]
  refine os (fun _ z => XS.iinc X1.here hx rfl (hb hby d14_34) rfl (l' := #[rv b, iv ((0 : Int32) + (1 : Int32))]) rfl z) ?_
  show OG p e below Φ T1 m 37 #[rv b, iv 1] [(.int 0), (.ref b)]
  obtain ⟨cl2, Aq2, -, S2, M2, H2, -⟩ := id V_b
  have in2 : ¬ ((0 : Int32) < 0 ∨ cl2.slots.size ≤ (0 : Int32).toNatClampNeg) := inb_of S2 ⟨by decide, by decide⟩
  have at2 : cl2.slots[(0 : Int32).toNatClampNeg]? = some (.int (ohb c0_)) := H2.at in2 rfl
  refine os (fun _ z => X1.baloadBytes hx (by rw [e1]; exact Aq2.1) (oia hZ Aq2.2.1) Aq2.2.2 in2 at2 (g := (mkF m 37 #[rv b, iv 1] [(.int 0), (.ref b)])) rfl rfl (hb hby d14_37) _ z) ?_
  show OG p e below Φ T1 m 38 #[rv b, iv 1] [(.int (ohb c0_))]
  refine os (fun _ z => XS.sipush X1.here hx rfl (hb hby d14_38) z) ?_
  refine os (fun _ z => XS.iand X1.here hx rfl (hb hby d14_41) rfl z) ?_
  show OG p e below Φ T1 m 42 #[rv b, iv 1] [(.int ((ohb c0_) &&& (255 : Int32)))]
  obtain ⟨T3, X3, e3, st3⟩ := getS2 X1 hx hZ hown (host := "") (Or.inl (ow66 hw)) Via.refl e1 S_hb (g := (mkF m 42 #[rv b, iv 1] [(.int ((ohb c0_) &&& (255 : Int32)))])) rfl (hb hby d14_42)
  refine os st3 ?_
  show OG p e below Φ T3 m 45 #[rv b, iv 1] [(.int 0), (.int ((ohb c0_) &&& (255 : Int32)))]
  refine os (fun _ z => XT.ishl X3.here hx rfl (hb hby d14_45) rfl z) ?_
  show OG p e below Φ T3 m 46 #[rv b, iv 1] [(.int (((ohb c0_) &&& (255 : Int32)) <<< ((0 : Int32) &&& 31)))]
  refine os (fun _ z => XS.aloadN X3.here hx rfl (hb hby d14_46) rfl rfl z) ?_
  refine os (fun _ z => XS.iloadN X3.here hx rfl (hb hby d14_47) rfl z) ?_
  show OG p e below Φ T3 m 48 #[rv b, iv 1] [(.int 1), (.ref b), (.int (((ohb c0_) &&& (255 : Int32)) <<< ((0 : Int32) &&& 31)))]
  obtain ⟨cl4, Aq4, -, S4, M4, H4, -⟩ := id V_b
  have in4 : ¬ ((1 : Int32) < 0 ∨ cl4.slots.size ≤ (1 : Int32).toNatClampNeg) := inb_of S4 ⟨by decide, by decide⟩
  have at4 : cl4.slots[(1 : Int32).toNatClampNeg]? = some (.int (olb c0_)) := H4.at in4 rfl
  refine os (fun _ z => X3.baloadBytes hx (by rw [e3]; exact Aq4.1) (oia hZ Aq4.2.1) Aq4.2.2 in4 at4 (g := (mkF m 48 #[rv b, iv 1] [(.int 1), (.ref b), (.int (((ohb c0_) &&& (255 : Int32)) <<< ((0 : Int32) &&& 31)))])) rfl rfl (hb hby d14_48) _ z) ?_
  show OG p e below Φ T3 m 49 #[rv b, iv 1] [(.int (olb c0_)), (.int (((ohb c0_) &&& (255 : Int32)) <<< ((0 : Int32) &&& 31)))]
  refine os (fun _ z => XS.sipush X3.here hx rfl (hb hby d14_49) z) ?_
  refine os (fun _ z => XS.iand X3.here hx rfl (hb hby d14_52) rfl z) ?_
  show OG p e below Φ T3 m 53 #[rv b, iv 1] [(.int ((olb c0_) &&& (255 : Int32))), (.int (((ohb c0_) &&& (255 : Int32)) <<< ((0 : Int32) &&& 31)))]
  obtain ⟨T5, X5, e5, st5⟩ := getS2 X3 hx hZ hown (host := "") (Or.inl (ow67 hw)) Via.refl e3 S_lb (g := (mkF m 53 #[rv b, iv 1] [(.int ((olb c0_) &&& (255 : Int32))), (.int (((ohb c0_) &&& (255 : Int32)) <<< ((0 : Int32) &&& 31)))])) rfl (hb hby d14_53)
  refine os st5 ?_
  show OG p e below Φ T5 m 56 #[rv b, iv 1] [(.int 8), (.int ((olb c0_) &&& (255 : Int32))), (.int (((ohb c0_) &&& (255 : Int32)) <<< ((0 : Int32) &&& 31)))]
  refine os (fun _ z => XT.ishl X5.here hx rfl (hb hby d14_56) rfl z) ?_
  show OG p e below Φ T5 m 57 #[rv b, iv 1] [(.int (((olb c0_) &&& (255 : Int32)) <<< ((8 : Int32) &&& 31))), (.int (((ohb c0_) &&& (255 : Int32)) <<< ((0 : Int32) &&& 31)))]
  refine os (fun _ z => XT.ior X5.here hx rfl (hb hby d14_57) rfl z) ?_
  show OG p e below Φ T5 m 58 #[rv b, iv 1] [(.int ((((ohb c0_) &&& (255 : Int32)) <<< ((0 : Int32) &&& 31)) ||| (((olb c0_) &&& (255 : Int32)) <<< ((8 : Int32) &&& 31))))]
  refine os (fun _ z => XT.i2c X5.here hx rfl (hb hby d14_58) rfl z) ?_
  show OG p e below Φ T5 m 59 #[rv b, iv 1] [(.int (((((ohb c0_) &&& (255 : Int32)) <<< ((0 : Int32) &&& 31)) ||| (((olb c0_) &&& (255 : Int32)) <<< ((8 : Int32) &&& 31))).toUInt32.toUInt16.toUInt32.toInt32))]
  refine OGo.fin X5 hlk (v := (some (.int (((((ohb c0_) &&& (255 : Int32)) <<< ((0 : Int32) &&& 31)) ||| (((olb c0_) &&& (255 : Int32)) <<< ((8 : Int32) &&& 31))).toUInt32.toUInt16.toUInt32.toInt32)))) (fun h => by rw [hret] at h; cases h) (by decide) (by decide) (fun fs hr => X5.ireturnOut hx hret (XT.narrow_c _) (by simp) (hb hby d14_59) hr) fun U eU hF => hΦ _ _ _ ?_ hF
  rw [eU, e5]
  show Q_rsb1_0gc Z b cb c0_ h0 n0 _ _ _
  exact ⟨congrArg (fun z => some (Value.int z)) (own_gc' _ hr0), N0, rfl⟩

theorem d4_20 : decode jdk_52_method_16_code 20 = .ok (.aload_n 0, 1) := by decide +kernel
theorem d4_21 : decode jdk_52_method_16_code 21 = .ok (.iload_n 1, 1) := by decide +kernel
theorem d4_22 : decode jdk_52_method_16_code 22 = .ok (.iload_n 2, 1) := by decide +kernel
theorem d4_23 : decode jdk_52_method_16_code 23 = .ok (.invokestatic 119, 3) := by decide +kernel
theorem d4_26 : decode jdk_52_method_16_code 26 = .ok (.astore 5, 2) := by decide +kernel
theorem d4_28 : decode jdk_52_method_16_code 28 = .ok (.aload 5, 2) := by decide +kernel
theorem d4_30 : decode jdk_52_method_16_code 30 = .ok (.iload 4, 2) := by decide +kernel
theorem d4_32 : decode jdk_52_method_16_code 32 = .ok (.invokestatic 71, 3) := by decide +kernel
theorem pd7 : parseMethodDescriptor "([BI)C" = some ⟨[(.array .byte), .int], some .char⟩ := by decide +kernel
theorem d4_35 : decode jdk_52_method_16_code 35 = .ok (.sipush 255, 3) := by decide +kernel
theorem d4_38 : decode jdk_52_method_16_code 38 = .ok (.if_icmp .gt 16, 3) := by decide +kernel
theorem d4_54 : decode jdk_52_method_16_code 54 = .ok (.aload 5, 2) := by decide +kernel
theorem d4_56 : decode jdk_52_method_16_code 56 = .ok (.areturn, 1) := by decide +kernel
theorem ef_rsb1_0c3 (m : MethodId) (x0 : Addr) (x1 : Int32) (x2 : Int32) : entryFrame m #[(.ref x0), (.int x1), (.int x2)] 6 = mkF m 0 #[.val (.ref x0), .val (.int x1), .val (.int x2), .unset, .unset, .unset] [] := by first | (simp [entryFrame, mkF, argsToLocals, Value.category]; done) | rfl
def Q_rsb1_0c3 (Z : State) (a : Addr) (ca : ClassId) (c0_ : Int32) (h0 : Heap) (n0 : Nat) (v : Option Value) (h : Heap) (L : List Loc) : Prop := ∃ b cb, v = some (.ref b) ∧ Fr n0 L ∧ Keep h0 h [] ∧ Arv Z h b cb .byte (2 : Int32) [(.int (ohb c0_)), (.int (olb c0_))] (.int (0 : Int32)) ∧ h0.size ≤ b
set_option maxRecDepth 65536 in
set_option maxHeartbeats 40000000 in
theorem rsb1_0c3 (l : Launch) (Z : State) (a0 : Array Value) (hw : ∀ d ∈ tables_1, d.before a0 Z = true) (ws : List Jvm.Cond) (a : Addr) (ca : ClassId) (c0_ : Int32) (h0 : Heap) (n0 : Nat) (Z0 : n0 ≤ h0.size) (V_a : Arv Z h0 a ca .char (1 : Int32) [(.int c0_)] (.int (0 : Int32))) (O_0 : Old Z n0 h0) (S_ad : Sta Z Z.heap "java/lang/StringUTF16" "$assertionsDisabled" "Z" (.int (1 : Int32))) (S_hb : Sta Z Z.heap "java/lang/StringUTF16" "HI_BYTE_SHIFT" "I" (.int (0 : Int32))) (S_lb : Sta Z Z.heap "java/lang/StringUTF16" "LO_BYTE_SHIFT" "I" (.int (8 : Int32))) (hb0 : (255 : Int32) < c0_) (hr0 : nar .char c0_ = c0_) :
    OCon l Z (⟨"java/lang/StringUTF16", "compress", "([CII)[B"⟩ : MethodName) jdk_52_method_16_code 6 (some (.array .byte)) ws ({ frames := 3, cells := 2, slots := 3, locals := 40 } : Room) #[(.ref a), (.int (0 : Int32)), (.int (1 : Int32))] h0 (Q_rsb1_0c3 Z a ca c0_ h0 n0) := by
  refine OCon.of (plainFor_of_name pn1) ?_
  intro p e s m below meth c s₁ Φ X0 hx hby hml hown hnm hret hlk hZ e0 hΦ
  have N0 := Fr.nil n0
  refine os (fun _ z => castTop (ef_rsb1_0c3 m a (0 : Int32) (1 : Int32)) z) ?_
  have K0 := Keep.refl h0 []
  show OG p e below Φ s₁ m 0 #[rv a, iv 0, iv 1, .unset, .unset, .unset] []
  refine os (fun _ z => XS.iloadN X0.here hx rfl (hb hby d4_0) rfl z) ?_
  obtain ⟨T1, h1, c1, X1, e1, E1, Ar1, st1⟩ := newP (aty := .byte) X0 hx hZ (ow1 hw) e0 (g := (mkF m 1 #[rv a, iv 0, iv 1, .unset, .unset, .unset] [(.int 1)])) rfl (hb hby d4_1) rfl (by decide) (cap := 1) (by decide) (by decide) (by decide) (by decide)
  obtain ⟨b1, g1⟩ : ∃ z, z = h0.size := ⟨_, rfl⟩
  rw [← g1] at Ar1 st1
  have ne1_a : a ≠ b1 := by rw [g1]; exact Nat.ne_of_lt V_a.lt
  have F2 := V_a.ext E1
  have F3 := O_0.ext E1
  have gb1 : n0 ≤ b1 := Nat.le_trans Z0 (Nat.le_of_eq g1.symm)
  have sz1 : h0.size ≤ b1 := Nat.le_trans K0.1 (Nat.le_of_eq g1.symm)
  have K1 := K0.ext E1
  have Zs1 : n0 ≤ h1.size := Nat.le_trans Z0 E1.1
  have V1 : Arv Z h1 b1 c1 .byte (1 : Int32) [(.int (0 : Int32))] (.int (0 : Int32)) := (Arv.new Ar1 (by decide)).pad (pad_rep [] _ 1)
  refine os st1 ?_
  show OG p e below Φ T1 m 3 #[rv a, iv 0, iv 1, .unset, .unset, .unset] [(.ref b1)]
  refine os (fun _ z => XS.astoreN X1.here hx rfl (hb hby d4_3) rfl rfl (l' := #[rv a, iv 0, iv 1, rv b1, .unset, .unset]) rfl z) ?_
  show OG p e below Φ T1 m 4 #[rv a, iv 0, iv 1, rv b1, .unset, .unset] []
  refine os (fun _ z => XS.aloadN X1.here hx rfl (hb hby d4_4) rfl rfl z) ?_
  refine os (fun _ z => XS.iloadN X1.here hx rfl (hb hby d4_5) rfl z) ?_
  show OG p e below Φ T1 m 6 #[rv a, iv 0, iv 1, rv b1, .unset, .unset] [(.int 0), (.ref a)]
  refine os (fun _ z => XS.aloadN X1.here hx rfl (hb hby d4_6) rfl rfl z) ?_
  refine os (fun _ z => XS.iconst X1.here hx rfl (hb hby d4_7) z) ?_
  show OG p e below Φ T1 m 8 #[rv a, iv 0, iv 1, rv b1, .unset, .unset] [(.int 0), (.ref b1), (.int 0), (.ref a)]
  refine os (fun _ z => XS.iloadN X1.here hx rfl (hb hby d4_8) rfl z) ?_
  obtain ⟨_, T4, L4, X4, hQ4, st4⟩ := own_callSt X1 hx hZ hown (ow22 hw) (ow23 hw) (ow20 hw) (ow24 hw) (by decide) (rsb1_0c2 l Z a0 hw [] a ca b1 c1 c0_ h1 n0 Zs1 F2 V1 ne1_a gb1 hb0) e1 (W := 0) (by decide) (by decide) (by decide) (by decide) (pc := 9) (ls := #[rv a, iv 0, iv 1, rv b1, .unset, .unset]) (stk := [(.int 1), (.int 0), (.ref b1), (.int 0), (.ref a)]) (by rw [hml]; rfl) (argsL := [(.ref a), (.int 0), (.ref b1), (.int 0), (.int 1)]) (rest := []) (lenOf pd1 rfl) rfl rfl (Nat.le_of_eq rfl) (hb hby d4_9)
  obtain ⟨rfl, Nq4, Kq4⟩ := hQ4
  have N4 := Fr.app N0 Nq4
  have Zs4 : n0 ≤ T4.heap.size := Nat.le_trans Zs1 Kq4.1
  have F5 := F2.keep Kq4 (ninS ne1_a nin0)
  have F6 := F3.keep Kq4 (allS gb1 all0)
  have K4 := K1.trans Kq4 (allS (Or.inr sz1) all0)
  refine os st4 ?_
  show OG p e below Φ T4 m 12 #[rv a, iv 0, iv 1, rv b1, .unset, .unset] [(.int 0)]
  refine os (fun _ z => XS.istore X4.here hx rfl (hb hby d4_12) rfl (l' := #[rv a, iv 0, iv 1, rv b1, iv 0, .unset]) rfl z) ?_
  show OG p e below Φ T4 m 14 #[rv a, iv 0, iv 1, rv b1, iv 0, .unset] []
  refine os (fun _ z => XS.iload X4.here hx rfl (hb hby d4_14) rfl z) ?_
  refine os (fun _ z => XS.iloadN X4.here hx rfl (hb hby d4_16) rfl z) ?_
  show OG p e below Φ T4 m 17 #[rv a, iv 0, iv 1, rv b1, iv 0, .unset] [(.int 1), (.int 0)]
  refine os (fun _ z => XS.icmpNo X4.here hx rfl (hb hby d4_17) rfl (XT.ii_eq_f (by decide)) z) ?_
  show OG p e below Φ T4 m 20 #[rv a, iv 0, iv 1, rv b1, iv 0, .unset] []
  refine os (fun _ z => XS.aloadN X4.here hx rfl (hb hby d4_20) rfl rfl z) ?_
  refine os (fun _ z => XS.iloadN X4.here hx rfl (hb hby d4_21) rfl z) ?_
  show OG p e below Φ T4 m 22 #[rv a, iv 0, iv 1, rv b1, iv 0, .unset] [(.int 0), (.ref a)]
  refine os (fun _ z => XS.iloadN X4.here hx rfl (hb hby d4_22) rfl z) ?_
  obtain ⟨_, T7, L7, X7, hQ7, st7⟩ := own_callSt X4 hx hZ hown (ow52 hw) (ow53 hw) (ow20 hw) (ow54 hw) (by decide) (rsb1_0tb l Z a0 hw [] a ca c0_ T4.heap n0 Zs4 F5 F6 S_ad S_hb S_lb) rfl (W := 0) (by decide) (by decide) (by decide) (by decide) (pc := 23) (ls := #[rv a, iv 0, iv 1, rv b1, iv 0, .unset]) (stk := [(.int 1), (.int 0), (.ref a)]) (by rw [hml]; rfl) (argsL := [(.ref a), (.int 0), (.int 1)]) (rest := []) (lenOf pd2 rfl) rfl rfl (Nat.le_of_eq rfl) (hb hby d4_23)
  obtain ⟨b7, cb7, rfl, Nq7, Kq7, Vq7, hz7⟩ := hQ7
  have nq7_a : a ≠ b7 := Nat.ne_of_lt (Nat.lt_of_lt_of_le F5.lt hz7)
  have gq7 : n0 ≤ b7 := Nat.le_trans Zs4 hz7
  have sq7 : h0.size ≤ b7 := Nat.le_trans K4.1 hz7
  have N7 := Fr.app N4 Nq7
  have Zs7 : n0 ≤ T7.heap.size := Nat.le_trans Zs4 Kq7.1
  have F8 := F5.keep Kq7 nin0
  have F9 := F6.keep Kq7 all0
  have K7 := K4.trans Kq7 all0
  refine os st7 ?_
  show OG p e below Φ T7 m 26 #[rv a, iv 0, iv 1, rv b1, iv 0, .unset] [(.ref b7)]
  refine os (fun _ z => XS.astore X7.here hx rfl (hb hby d4_26) rfl rfl (l' := #[rv a, iv 0, iv 1, rv b1, iv 0, rv b7]) rfl z) ?_
  show OG p e below Φ T7 m 28 #[rv a, iv 0, iv 1, rv b1, iv 0, rv b7] []
  refine os (fun _ z => XS.aload X7.here hx rfl (hb hby d4_28) rfl rfl z) ?_
  refine os (fun _ z => XS.iload X7.here hx rfl (hb hby d4_30) rfl z) ?_
  show OG p e below Φ T7 m 32 #[rv a, iv 0, iv 1, rv b1, iv 0, rv b7] [(.int 0), (.ref b7)]
  obtain ⟨_, T10, L10, X10, hQ10, st10⟩ := own_callSt X7 hx hZ hown (ow68 hw) (ow69 hw) (ow20 hw) (ow70 hw) (by decide) (rsb1_0gc l Z a0 hw [] b7 cb7 c0_ T7.heap n0 Zs7 Vq7 (S_ad.ext F9.2) (S_hb.ext F9.2) (S_lb.ext F9.2) hr0) rfl (W := 0) (by decide) (by decide) (by decide) (by decide) (pc := 32) (ls := #[rv a, iv 0, iv 1, rv b1, iv 0, rv b7]) (stk := [(.int 0), (.ref b7)]) (by rw [hml]; rfl) (argsL := [(.ref b7), (.int 0)]) (rest := []) (lenOf pd7 rfl) rfl rfl (Nat.le_of_eq rfl) (hb hby d4_32)
  obtain ⟨rfl, Nq10, e10⟩ := hQ10
  have N10 := Fr.app N7 Nq10
  refine os st10 ?_
  show OG p e below Φ T10 m 35 #[rv a, iv 0, iv 1, rv b1, iv 0, rv b7] [(.int c0_)]
  refine os (fun _ z => XS.sipush X10.here hx rfl (hb hby d4_35) z) ?_
  refine os (fun _ z => XS.icmpYes X10.here hx rfl (pc0 := 38) (pc' := 54) rfl (hb hby d4_38) rfl (XT.ii_gt_t hb0) (by decide) (by decide) z) ?_
  show OG p e below Φ T10 m 54 #[rv a, iv 0, iv 1, rv b1, iv 0, rv b7] []
  refine os (fun _ z => XS.aload X10.here hx rfl (hb hby d4_54) rfl rfl z) ?_
  refine OGo.fin X10 hlk (v := (some (.ref b7))) (fun h => by rw [hret] at h; cases h) (by decide) (by decide) (fun fs hr => X10.areturnOut hx rfl hret rfl (hb hby d4_56) hr) fun U eU hF => hΦ _ _ _ ?_ hF
  rw [eU, e10]
  show Q_rsb1_0c3 Z a ca c0_ h0 n0 _ _ _
  exact ⟨_, _, rfl, N10, K7, Vq7, sq7⟩

theorem ef_rsb1_0cf (m : MethodId) (x0 : Addr) (x1 : Int32) : entryFrame m #[(.ref x0), (.int x1)] 2 = mkF m 0 #[.val (.ref x0), .val (.int x1)] [] := by first | (simp [entryFrame, mkF, argsToLocals, Value.category]; done) | rfl
def Q_rsb1_0cf (Z : State) (b : Addr) (cb : ClassId) (c0_ : Int32) (h0 : Heap) (n0 : Nat) (v : Option Value) (h : Heap) (L : List Loc) : Prop := v = some (.int (1 : Int32)) ∧ Fr n0 L ∧ h = h0
set_option maxRecDepth 65536 in
set_option maxHeartbeats 40000000 in
theorem rsb1_0cf (l : Launch) (Z : State) (a0 : Array Value) (hw : ∀ d ∈ tables_1, d.before a0 Z = true) (ws : List Jvm.Cond) (b : Addr) (cb : ClassId) (c0_ : Int32) (h0 : Heap) (n0 : Nat) (Z0 : n0 ≤ h0.size) (V_b : Arv Z h0 b cb .byte (2 : Int32) [(.int (ohb c0_)), (.int (olb c0_))] (.int (0 : Int32))) :
    OCon l Z (⟨"java/lang/StringUTF16", "coderFromArrayLen", "([BI)B"⟩ : MethodName) jdk_52_method_15_code 2 (some .byte) ws ({ frames := 0, cells := 0, slots := 0, locals := 0 } : Room) #[(.ref b), (.int (1 : Int32))] h0 (Q_rsb1_0cf Z b cb c0_ h0 n0) := by
  refine OCon.of (plainFor_of_name pn1) ?_
  intro p e s m below meth c s₁ Φ X0 hx hby hml hown hnm hret hlk hZ e0 hΦ
  have N0 := Fr.nil n0
  refine os (fun _ z => castTop (ef_rsb1_0cf m b (1 : Int32)) z) ?_
  show OG p e below Φ s₁ m 0 #[rv b, iv 1] []
  refine os (fun _ z => XS.iloadN X0.here hx rfl (hb hby d6_0) rfl z) ?_
  refine os (fun _ z => XS.aloadN X0.here hx rfl (hb hby d6_1) rfl rfl z) ?_
  show OG p e below Φ s₁ m 2 #[rv b, iv 1] [(.ref b), (.int 1)]
  obtain ⟨cl1, Aq1, -, S1, M1, -, -⟩ := id V_b
  refine os (fun _ z => X0.arraylength hx (by rw [e0]; exact Aq1.1) (oia hZ Aq1.2.1) (g := (mkF m 2 #[rv b, iv 1] [(.ref b), (.int 1)])) rfl rfl (hb hby d6_2) _ z) ?_
  rw [len_of S1 M1]
  show OG p e below Φ s₁ m 3 #[rv b, iv 1] [(.int 2), (.int 1)]
  refine os (fun _ z => XS.isub X0.here hx rfl (hb hby d6_3) rfl z) ?_
  show OG p e below Φ s₁ m 4 #[rv b, iv 1] [(.int (-1))]
  refine os (fun _ z => XS.bipush X0.here hx rfl (hb hby d6_4) z) ?_
  refine os (fun _ z => XT.iushr X0.here hx rfl (hb hby d6_6) rfl z) ?_
  show OG p e below Φ s₁ m 7 #[rv b, iv 1] [(.int 1)]
  refine os (fun _ z => XT.i2b X0.here hx rfl (hb hby d6_7) rfl z) ?_
  show OG p e below Φ s₁ m 8 #[rv b, iv 1] [(.int 1)]
  refine OGo.fin X0 hlk (v := (some (.int 1))) (fun h => by rw [hret] at h; cases h) (by decide) (by decide) (fun fs hr => X0.ireturnOut hx hret rfl (by simp) (hb hby d6_8) hr) fun U eU hF => hΦ _ _ _ ?_ hF
  rw [eU, e0]
  show Q_rsb1_0cf Z b cb c0_ h0 n0 _ _ _
  exact ⟨rfl, N0, rfl⟩

theorem ef_rsb1_0i4 (m : MethodId) (x0 : Addr) (x1 : Addr) (x2 : Int32) (x3 : Int32) : entryFrame m #[(.ref x0), (.ref x1), (.int x2), (.int x3), .null] 6 = mkF m 0 #[.val (.ref x0), .val (.ref x1), .val (.int x2), .val (.int x3), .val .null, .unset] [] := by first | (simp [entryFrame, mkF, argsToLocals, Value.category]; done) | rfl
def Q_rsb1_0i4 (Z : State) (s_ : Addr) (a : Addr) (ca : ClassId) (qc : Int32) (c0_ : Int32) (h0 : Heap) (n0 : Nat) (v : Option Value) (h : Heap) (L : List Loc) : Prop := v = none ∧ Fr n0 L ∧ Keep h0 h [s_] ∧ Exa Z h s_ "java/lang/String" ∧ ∃ b cb, Fld Z h s_ "java/lang/String" "value" "[B" (.ref b) ∧ Fld Z h s_ "java/lang/String" "coder" "B" (.int (1 : Int32)) ∧ Arv Z h b cb .byte (2 : Int32) [(.int (ohb c0_)), (.int (olb c0_))] (.int (0 : Int32)) ∧ h0.size ≤ b
set_option maxRecDepth 65536 in
set_option maxHeartbeats 40000000 in
theorem rsb1_0i4 (l : Launch) (Z : State) (a0 : Array Value) (hw : ∀ d ∈ tables_1, d.before a0 Z = true) (ws : List Jvm.Cond) (s_ : Addr) (a : Addr) (ca : ClassId) (qc : Int32) (c0_ : Int32) (h0 : Heap) (n0 : Nat) (Z0 : n0 ≤ h0.size) (E_s : Exa Z h0 s_ "java/lang/String") (g_s : n0 ≤ s_) (F_v : Fld Z h0 s_ "java/lang/String" "value" "[B" .null) (F_c : Fld Z h0 s_ "java/lang/String" "coder" "B" (.int (0 : Int32))) (V_a : Arv Z h0 a ca .char (1 : Int32) [(.int c0_)] (.int (0 : Int32))) (nsa : s_ ≠ a) (S_cs : Sta Z Z.heap "java/lang/String" "COMPACT_STRINGS" "Z" (.int qc)) (hq : ¬ qc = 0) (O_0 : Old Z n0 h0) (S_ad : Sta Z Z.heap "java/lang/StringUTF16" "$assertionsDisabled" "Z" (.int (1 : Int32))) (S_hb : Sta Z Z.heap "java/lang/StringUTF16" "HI_BYTE_SHIFT" "I" (.int (0 : Int32))) (S_lb : Sta Z Z.heap "java/lang/StringUTF16" "LO_BYTE_SHIFT" "I" (.int (8 : Int32))) (hb0 : (255 : Int32) < c0_) (hr0 : nar .char c0_ = c0_) :
    OCon l Z (⟨"java/lang/String", "<init>", "([CIILjava/lang/Void;)V"⟩ : MethodName) jdk_42_method_149_code 6 none ws ({ frames := 4, cells := 2, slots := 3, locals := 57 } : Room) #[(.ref s_), (.ref a), (.int (0 : Int32)), (.int (1 : Int32)), .null] h0 (Q_rsb1_0i4 Z s_ a ca qc c0_ h0 n0) := by
  refine OCon.of (plainFor_of_name pn0) ?_
  intro p e s m below meth c s₁ Φ X0 hx hby hml hown hnm hret hlk hZ e0 hΦ
  have N0 := Fr.nil n0
  refine os (fun _ z => castTop (ef_rsb1_0i4 m s_ a (0 : Int32) (1 : Int32)) z) ?_
  have K0 := Keep.refl h0 [s_]
  show OG p e below Φ s₁ m 0 #[rv s_, rv a, iv 0, iv 1, .val .null, .unset] []
  refine os (fun _ z => XS.aloadN X0.here hx rfl (hb hby d2_0) rfl rfl z) ?_
  obtain ⟨T1, X1, e1, st1⟩ := initO X0 hx hZ hown (ow14 hw) (ow15 hw) (ow16 hw) e0 (g := (mkF m 1 #[rv s_, rv a, iv 0, iv 1, .val .null, .unset] [(.ref s_)])) rfl (by rw [hml]; rfl) rfl (hb hby d2_1) (by decide) (W := 0) (Nat.le_of_eq rfl) (by decide)
  refine os st1 ?_
  show OG p e below Φ T1 m 4 #[rv s_, rv a, iv 0, iv 1, .val .null, .unset] []
  refine os (fun _ z => XS.iloadN X1.here hx rfl (hb hby d2_4) rfl z) ?_
  refine os (fun _ z => XS.ifYes X1.here hx rfl (pc0 := 5) (pc' := 27) rfl (hb hby d2_5) rfl (XT.i0_ne_t (by decide)) (by decide) (by decide) z) ?_
  show OG p e below Φ T1 m 27 #[rv s_, rv a, iv 0, iv 1, .val .null, .unset] []
  have Sq := S_cs.ext O_0.2
  obtain ⟨T2, X2, e2, st2⟩ := getS2 X1 hx hZ hown (host := "") (Or.inl (ow17 hw)) Via.refl e1 Sq (g := (mkF m 27 #[rv s_, rv a, iv 0, iv 1, .val .null, .unset] [])) rfl (hb hby d2_27)
  refine os st2 ?_
  show OG p e below Φ T2 m 30 #[rv s_, rv a, iv 0, iv 1, .val .null, .unset] [(.int qc)]
  refine os (fun _ z => XS.ifNo X2.here hx rfl (hb hby d2_30) rfl (XT.i0_eq_f hq) z) ?_
  show OG p e below Φ T2 m 33 #[rv s_, rv a, iv 0, iv 1, .val .null, .unset] []
  refine os (fun _ z => XS.aloadN X2.here hx rfl (hb hby d2_33) rfl rfl z) ?_
  refine os (fun _ z => XS.iloadN X2.here hx rfl (hb hby d2_34) rfl z) ?_
  show OG p e below Φ T2 m 35 #[rv s_, rv a, iv 0, iv 1, .val .null, .unset] [(.int 0), (.ref a)]
  refine os (fun _ z => XS.iloadN X2.here hx rfl (hb hby d2_35) rfl z) ?_
  obtain ⟨_, T3, L3, X3, hQ3, st3⟩ := own_callSt X2 hx hZ hown (ow18 hw) (ow19 hw) (ow20 hw) (ow21 hw) (by decide) (rsb1_0c3 l Z a0 hw [] a ca c0_ h0 n0 Z0 V_a O_0 S_ad S_hb S_lb hb0 hr0) e2 (W := 0) (by decide) (by decide) (by decide) (by decide) (pc := 36) (ls := #[rv s_, rv a, iv 0, iv 1, .val .null, .unset]) (stk := [(.int 1), (.int 0), (.ref a)]) (by rw [hml]; rfl) (argsL := [(.ref a), (.int 0), (.int 1)]) (rest := []) (lenOf pd2 rfl) rfl rfl (Nat.le_of_eq rfl) (hb hby d2_36)
  obtain ⟨b3, cb3, rfl, Nq3, Kq3, Vq3, hz3⟩ := hQ3
  have nq3_a : a ≠ b3 := Nat.ne_of_lt (Nat.lt_of_lt_of_le V_a.lt hz3)
  have nq3_s_ : s_ ≠ b3 := Nat.ne_of_lt (Nat.lt_of_lt_of_le E_s.lt hz3)
  have gq3 : n0 ≤ b3 := Nat.le_trans Z0 hz3
  have sq3 : h0.size ≤ b3 := Nat.le_trans K0.1 hz3
  have N3 := Fr.app N0 Nq3
  have Zs3 : n0 ≤ T3.heap.size := Nat.le_trans Z0 Kq3.1
  have F4 := E_s.keep Kq3
  have F5 := F_v.keep Kq3 nin0
  have F6 := F_c.keep Kq3 nin0
  have F7 := V_a.keep Kq3 nin0
  have F8 := O_0.keep Kq3 all0
  have K3 := K0.trans Kq3 all0
  refine os st3 ?_
  show OG p e below Φ T3 m 39 #[rv s_, rv a, iv 0, iv 1, .val .null, .unset] [(.ref b3)]
  refine os (fun _ z => XS.astore X3.here hx rfl (hb hby d2_39) rfl rfl (l' := #[rv s_, rv a, iv 0, iv 1, .val .null, rv b3]) rfl z) ?_
  show OG p e below Φ T3 m 41 #[rv s_, rv a, iv 0, iv 1, .val .null, rv b3] []
  refine os (fun _ z => XS.aloadN X3.here hx rfl (hb hby d2_41) rfl rfl z) ?_
  refine os (fun _ z => XS.aload X3.here hx rfl (hb hby d2_42) rfl rfl z) ?_
  show OG p e below Φ T3 m 44 #[rv s_, rv a, iv 0, iv 1, .val .null, rv b3] [(.ref b3), (.ref s_)]
  refine os (fun _ z => XS.iloadN X3.here hx rfl (hb hby d2_44) rfl z) ?_
  obtain ⟨_, T9, L9, X9, hQ9, st9⟩ := own_callSt X3 hx hZ hown (ow25 hw) (ow26 hw) (ow20 hw) (ow27 hw) (by decide) (rsb1_0cf l Z a0 hw [] b3 cb3 c0_ T3.heap n0 Zs3 Vq3) rfl (W := 1) (by decide) (by decide) (by decide) (by decide) (pc := 45) (ls := #[rv s_, rv a, iv 0, iv 1, .val .null, rv b3]) (stk := [(.int 1), (.ref b3), (.ref s_)]) (by rw [hml]; rfl) (argsL := [(.ref b3), (.int 1)]) (rest := [(.ref s_)]) (lenOf pd3 rfl) rfl rfl (Nat.le_of_eq rfl) (hb hby d2_45)
  obtain ⟨rfl, Nq9, e9⟩ := hQ9
  have N9 := Fr.app N3 Nq9
  refine os st9 ?_
  show OG p e below Φ T9 m 48 #[rv s_, rv a, iv 0, iv 1, .val .null, rv b3] [(.int 1), (.ref s_)]
  obtain ⟨T10, h10, X10, e10, W10, st10⟩ := putF X9 hx hZ hown (host := "") (Or.inl (ow28 hw)) Via.refl e9 F6 F4 (Or.inr ⟨(ow29 hw), rfl, hnm⟩) (ow5 hw) (ty := .byte) (by decide) (by decide) (by decide) (g := (mkF m 48 #[rv s_, rv a, iv 0, iv 1, .val .null, rv b3] [(.int 1), (.ref s_)])) rfl rfl (hb hby d2_48)
  have F11 := F4.wr W10
  have F12 := F5.other W10 (Or.inr (slot_ne (Or.inr (ow31 hw)) (Or.inr (ow29 hw)) (by decide) (t := (.array .byte)) (t' := .byte) (by decide) (by decide)))
  have F13 := F6.same W10
  have F14 := F7.other W10 (Ne.symm nsa)
  have F15 := F8.wr W10 g_s
  have F16 := Vq3.other W10 (Ne.symm nq3_s_)
  have K10 := K3.wr W10 (Or.inl (List.mem_of_getElem? (i := 0) rfl))
  have N10 := Fr.snoc X10 N9 g_s
  have Zs10 : n0 ≤ h10.size := by rw [W10.size]; exact Zs3
  refine os st10 ?_
  show OG p e below Φ T10 m 51 #[rv s_, rv a, iv 0, iv 1, .val .null, rv b3] []
  refine os (fun _ z => XS.aloadN X10.here hx rfl (hb hby d2_51) rfl rfl z) ?_
  refine os (fun _ z => XS.aload X10.here hx rfl (hb hby d2_52) rfl rfl z) ?_
  show OG p e below Φ T10 m 54 #[rv s_, rv a, iv 0, iv 1, .val .null, rv b3] [(.ref b3), (.ref s_)]
  obtain ⟨T17, h17, X17, e17, W17, st17⟩ := putF X10 hx hZ hown (host := "") (Or.inl (ow30 hw)) Via.refl e10 F12 F11 (Or.inr ⟨(ow31 hw), rfl, hnm⟩) (ow5 hw) (ty := (.array .byte)) (by decide) rfl rfl (g := (mkF m 54 #[rv s_, rv a, iv 0, iv 1, .val .null, rv b3] [(.ref b3), (.ref s_)])) rfl rfl (hb hby d2_54)
  have F18 := F11.wr W17
  have F19 := F12.same W17
  have F20 := F13.other W17 (Or.inr (slot_ne (Or.inr (ow29 hw)) (Or.inr (ow31 hw)) (by decide) (t := .byte) (t' := (.array .byte)) (by decide) (by decide)))
  have F21 := F14.other W17 (Ne.symm nsa)
  have F22 := F15.wr W17 g_s
  have F23 := F16.other W17 (Ne.symm nq3_s_)
  have K17 := K10.wr W17 (Or.inl (List.mem_of_getElem? (i := 0) rfl))
  have N17 := Fr.snoc X17 N10 g_s
  have Zs17 : n0 ≤ h17.size := by rw [W17.size]; exact Zs10
  refine os st17 ?_
  show OG p e below Φ T17 m 57 #[rv s_, rv a, iv 0, iv 1, .val .null, rv b3] []
  refine OGo.fin X17 hlk (v := none) (fun _ => rfl) (by decide) (by decide) (fun fs hr => X17.returnOut hx hret (hb hby d2_57) hr) fun U eU hF => hΦ _ _ _ ?_ hF
  rw [eU, e17]
  show Q_rsb1_0i4 Z s_ a ca qc c0_ h0 n0 _ _ _
  exact ⟨rfl, N17, K17, F18, _, _, F19, F20, F23, sq3⟩

theorem ef_rsb1_0i1 (m : MethodId) (x0 : Addr) (x1 : Addr) : entryFrame m #[(.ref x0), (.ref x1)] 2 = mkF m 0 #[.val (.ref x0), .val (.ref x1)] [] := by first | (simp [entryFrame, mkF, argsToLocals, Value.category]; done) | rfl
def Q_rsb1_0i1 (Z : State) (s_ : Addr) (a : Addr) (ca : ClassId) (qc : Int32) (c0_ : Int32) (h0 : Heap) (n0 : Nat) (v : Option Value) (h : Heap) (L : List Loc) : Prop := v = none ∧ Fr n0 L ∧ Keep h0 h [s_] ∧ Exa Z h s_ "java/lang/String" ∧ ∃ b cb, Fld Z h s_ "java/lang/String" "value" "[B" (.ref b) ∧ Fld Z h s_ "java/lang/String" "coder" "B" (.int (1 : Int32)) ∧ Arv Z h b cb .byte (2 : Int32) [(.int (ohb c0_)), (.int (olb c0_))] (.int (0 : Int32)) ∧ h0.size ≤ b
set_option maxRecDepth 65536 in
set_option maxHeartbeats 40000000 in
theorem rsb1_0i1 (l : Launch) (Z : State) (a0 : Array Value) (hw : ∀ d ∈ tables_1, d.before a0 Z = true) (ws : List Jvm.Cond) (s_ : Addr) (a : Addr) (ca : ClassId) (qc : Int32) (c0_ : Int32) (h0 : Heap) (n0 : Nat) (Z0 : n0 ≤ h0.size) (E_s : Exa Z h0 s_ "java/lang/String") (g_s : n0 ≤ s_) (F_v : Fld Z h0 s_ "java/lang/String" "value" "[B" .null) (F_c : Fld Z h0 s_ "java/lang/String" "coder" "B" (.int (0 : Int32))) (V_a : Arv Z h0 a ca .char (1 : Int32) [(.int c0_)] (.int (0 : Int32))) (nsa : s_ ≠ a) (S_cs : Sta Z Z.heap "java/lang/String" "COMPACT_STRINGS" "Z" (.int qc)) (hq : ¬ qc = 0) (O_0 : Old Z n0 h0) (S_ad : Sta Z Z.heap "java/lang/StringUTF16" "$assertionsDisabled" "Z" (.int (1 : Int32))) (S_hb : Sta Z Z.heap "java/lang/StringUTF16" "HI_BYTE_SHIFT" "I" (.int (0 : Int32))) (S_lb : Sta Z Z.heap "java/lang/StringUTF16" "LO_BYTE_SHIFT" "I" (.int (8 : Int32))) (hb0 : (255 : Int32) < c0_) (hr0 : nar .char c0_ = c0_) :
    OCon l Z (⟨"java/lang/String", "<init>", "([C)V"⟩ : MethodName) jdk_42_method_3_code 2 none ws ({ frames := 5, cells := 2, slots := 3, locals := 74 } : Room) #[(.ref s_), (.ref a)] h0 (Q_rsb1_0i1 Z s_ a ca qc c0_ h0 n0) := by
  refine OCon.of (plainFor_of_name pn0) ?_
  intro p e s m below meth c s₁ Φ X0 hx hby hml hown hnm hret hlk hZ e0 hΦ
  have N0 := Fr.nil n0
  refine os (fun _ z => castTop (ef_rsb1_0i1 m s_ a) z) ?_
  have K0 := Keep.refl h0 [s_]
  show OG p e below Φ s₁ m 0 #[rv s_, rv a] []
  refine os (fun _ z => XS.aloadN X0.here hx rfl (hb hby d1_0) rfl rfl z) ?_
  refine os (fun _ z => XS.aloadN X0.here hx rfl (hb hby d1_1) rfl rfl z) ?_
  show OG p e below Φ s₁ m 2 #[rv s_, rv a] [(.ref a), (.ref s_)]
  refine os (fun _ z => XS.iconst X0.here hx rfl (hb hby d1_2) z) ?_
  refine os (fun _ z => XS.aloadN X0.here hx rfl (hb hby d1_3) rfl rfl z) ?_
  show OG p e below Φ s₁ m 4 #[rv s_, rv a] [(.ref a), (.int 0), (.ref a), (.ref s_)]
  obtain ⟨cl1, Aq1, -, S1, M1, -, -⟩ := id V_a
  refine os (fun _ z => X0.arraylength hx (by rw [e0]; exact Aq1.1) (oia hZ Aq1.2.1) (g := (mkF m 4 #[rv s_, rv a] [(.ref a), (.int 0), (.ref a), (.ref s_)])) rfl rfl (hb hby d1_4) _ z) ?_
  rw [len_of S1 M1]
  show OG p e below Φ s₁ m 5 #[rv s_, rv a] [(.int 1), (.int 0), (.ref a), (.ref s_)]
  refine os (fun _ z => XS.aconstNull X0.here hx rfl (hb hby d1_5) z) ?_
  obtain ⟨_, T2, L2, X2, hQ2, st2⟩ := own_callSp X0 hx hZ rfl hown (ow10 hw) (ow11 hw) (ow6 hw) (ow13 hw) (by decide) (rsb1_0i4 l Z a0 hw [] s_ a ca qc c0_ h0 n0 Z0 E_s g_s F_v F_c V_a nsa S_cs hq O_0 S_ad S_hb S_lb hb0 hr0) e0 (W := 0) (by decide) (by decide) (by decide) (by decide) (pc := 6) (ls := #[rv s_, rv a]) (stk := [.null, (.int 1), (.int 0), (.ref a), (.ref s_)]) (by rw [hml]; rfl) (a := s_) (argsL := [(.ref a), (.int 0), (.int 1), .null]) (rest := []) (lenOf pd0 rfl) rfl rfl (Nat.le_of_eq rfl) (hb hby d1_6)
  obtain ⟨rfl, Nq2, Kq2, Eq2, b2, cb2, Fv2, Fc2, Vq2, hz2⟩ := hQ2
  have nq2_a : a ≠ b2 := Nat.ne_of_lt (Nat.lt_of_lt_of_le V_a.lt hz2)
  have nq2_s_ : s_ ≠ b2 := Nat.ne_of_lt (Nat.lt_of_lt_of_le E_s.lt hz2)
  have gq2 : n0 ≤ b2 := Nat.le_trans Z0 hz2
  have sq2 : h0.size ≤ b2 := Nat.le_trans K0.1 hz2
  have N2 := Fr.app N0 Nq2
  have Zs2 : n0 ≤ T2.heap.size := Nat.le_trans Z0 Kq2.1
  have F3 := V_a.keep Kq2 (ninS (Ne.symm nsa) nin0)
  have F4 := O_0.keep Kq2 (allS g_s all0)
  have K2 := K0.trans Kq2 (allS (Or.inl (List.mem_of_getElem? (i := 0) rfl)) all0)
  refine os st2 ?_
  show OG p e below Φ T2 m 9 #[rv s_, rv a] []
  refine OGo.fin X2 hlk (v := none) (fun _ => rfl) (by decide) (by decide) (fun fs hr => X2.returnOut hx hret (hb hby d1_9) hr) fun U eU hF => hΦ _ _ _ ?_ hF
  rw [eU]
  show Q_rsb1_0i1 Z s_ a ca qc c0_ h0 n0 _ _ _
  exact ⟨rfl, N2, K2, Eq2, _, _, Fv2, Fc2, Vq2, sq2⟩

theorem ef_rsl2c2 (m : MethodId) (x0 : Addr) (x1 : Int32) (x2 : Addr) (x3 : Int32) (x4 : Int32) : entryFrame m #[(.ref x0), (.int x1), (.ref x2), (.int x3), (.int x4)] 7 = mkF m 0 #[.val (.ref x0), .val (.int x1), .val (.ref x2), .val (.int x3), .val (.int x4), .unset, .unset] [] := by first | (simp [entryFrame, mkF, argsToLocals, Value.category]; done) | rfl
def Q_rsl2c2 (Z : State) (a : Addr) (ca : ClassId) (b : Addr) (cb : ClassId) (c0_ : Int32) (c1_ : Int32) (h0 : Heap) (n0 : Nat) (v : Option Value) (h : Heap) (L : List Loc) : Prop := v = some (.int (2 : Int32)) ∧ Fr n0 L ∧ Keep h0 h [b] ∧ Arv Z h b cb .byte (2 : Int32) [(.int (nar .byte (c0_.toInt8.toInt32))), (.int (nar .byte (c1_.toInt8.toInt32)))] (.int (0 : Int32))
set_option maxRecDepth 65536 in
set_option maxHeartbeats 40000000 in
theorem rsl2c2 (l : Launch) (Z : State) (a0 : Array Value) (hw : ∀ d ∈ tables_1, d.before a0 Z = true) (ws : List Jvm.Cond) (a : Addr) (ca : ClassId) (b : Addr) (cb : ClassId) (c0_ : Int32) (c1_ : Int32) (h0 : Heap) (n0 : Nat) (Z0 : n0 ≤ h0.size) (V_a : Arv Z h0 a ca .char (2 : Int32) [(.int c0_), (.int c1_)] (.int (0 : Int32))) (V_b : Arv Z h0 b cb .byte (2 : Int32) [(.int (0 : Int32)), (.int (0 : Int32))] (.int (0 : Int32))) (nab : a ≠ b) (g_b : n0 ≤ b) (hl0 : ¬ (255 : Int32) < c0_) (hl1 : ¬ (255 : Int32) < c1_) :
    OCon l Z (⟨"java/lang/StringUTF16", "compress", "([CI[BII)I"⟩ : MethodName) jdk_52_method_21_code 7 (some .int) ws ({ frames := 0, cells := 0, slots := 0, locals := 0 } : Room) #[(.ref a), (.int (0 : Int32)), (.ref b), (.int (0 : Int32)), (.int (2 : Int32))] h0 (Q_rsl2c2 Z a ca b cb c0_ c1_ h0 n0) := by
  refine OCon.of (plainFor_of_name pn1) ?_
  intro p e s m below meth c s₁ Φ X0 hx hby hml hown hnm hret hlk hZ e0 hΦ
  have N0 := Fr.nil n0
  refine os (fun _ z => castTop (ef_rsl2c2 m a (0 : Int32) b (0 : Int32) (2 : Int32)) z) ?_
  have K0 := Keep.refl h0 [b]
  show OG p e below Φ s₁ m 0 #[rv a, iv 0, rv b, iv 0, iv 2, .unset, .unset] []
  refine os (fun _ z => XS.iconst X0.here hx rfl (hb hby d5_0) z) ?_
  refine os (fun _ z => XS.istore X0.here hx rfl (hb hby d5_1) rfl (l' := #[rv a, iv 0, rv b, iv 0, iv 2, iv 0, .unset]) rfl z) ?_
  show OG p e below Φ s₁ m 3 #[rv a, iv 0, rv b, iv 0, iv 2, iv 0, .unset] []
  refine os (fun _ z => XS.iload X0.here hx rfl (hb hby d5_3) rfl z) ?_
  refine os (fun _ z => XS.iload X0.here hx rfl (hb hby d5_5) rfl z) ?_
  show OG p e below Φ s₁ m 7 #[rv a, iv 0, rv b, iv 0, iv 2, iv 0, .unset] [(.int 2), (.int 0)]
  refine os (fun _ z => XS.icmpNo X0.here hx rfl (hb hby d5_7) rfl (XT.ii_ge_f (by decide)) z) ?_
  show OG p e below Φ s₁ m 10 #[rv a, iv 0, rv b, iv 0, iv 2, iv 0, .unset] []
  refine os (fun _ z => XS.aloadN X0.here hx rfl (hb hby d5_10) rfl rfl z) ?_
  refine os (fun _ z => XS.iloadN X0.here hx rfl (hb hby d5_11) rfl z) ?_
  show OG p e below Φ s₁ m 12 #[rv a, iv 0, rv b, iv 0, iv 2, iv 0, .unset] [(.int 0), (.ref a)]
  obtain ⟨cl1, Aq1, -, S1, M1, H1, -⟩ := id V_a
  have in1 : ¬ ((0 : Int32) < 0 ∨ cl1.slots.size ≤ (0 : Int32).toNatClampNeg) := inb_of S1 ⟨by decide, by decide⟩
  have at1 : cl1.slots[(0 : Int32).toNatClampNeg]? = some (.int c0_) := H1.at in1 rfl
  refine os (fun _ z => X0.caload hx (by rw [e0]; exact Aq1.1) (oia hZ Aq1.2.1) Aq1.2.2 in1 at1 (g := (mkF m 12 #[rv a, iv 0, rv b, iv 0, iv 2, iv 0, .unset] [(.int 0), (.ref a)])) rfl rfl (hb hby d5_12) _ z) ?_
  show OG p e below Φ s₁ m 13 #[rv a, iv 0, rv b, iv 0, iv 2, iv 0, .unset] [(.int c0_)]
  refine os (fun _ z => XS.istore X0.here hx rfl (hb hby d5_13) rfl (l' := #[rv a, iv 0, rv b, iv 0, iv 2, iv 0, iv c0_]) rfl z) ?_
  show OG p e below Φ s₁ m 15 #[rv a, iv 0, rv b, iv 0, iv 2, iv 0, iv c0_] []
  refine os (fun _ z => XS.iload X0.here hx rfl (hb hby d5_15) rfl z) ?_
  refine os (fun _ z => XS.sipush X0.here hx rfl (hb hby d5_17) z) ?_
  show OG p e below Φ s₁ m 20 #[rv a, iv 0, rv b, iv 0, iv 2, iv 0, iv c0_] [(.int 255), (.int c0_)]
  refine os (fun _ z => XS.icmpYes X0.here hx rfl (pc0 := 20) (pc' := 26) rfl (hb hby d5_20) rfl (XT.ii_le_t hl0) (by decide) (by decide) z) ?_
  show OG p e below Φ s₁ m 26 #[rv a, iv 0, rv b, iv 0, iv 2, iv 0, iv c0_] []
  refine os (fun _ z => XS.aloadN X0.here hx rfl (hb hby d5_26) rfl rfl z) ?_
  refine os (fun _ z => XS.iloadN X0.here hx rfl (hb hby d5_27) rfl z) ?_
  show OG p e below Φ s₁ m 28 #[rv a, iv 0, rv b, iv 0, iv 2, iv 0, iv c0_] [(.int 0), (.ref b)]
  refine os (fun _ z => XS.iload X0.here hx rfl (hb hby d5_28) rfl z) ?_
  refine os (fun _ z => XT.i2b X0.here hx rfl (hb hby d5_30) rfl z) ?_
  show OG p e below Φ s₁ m 31 #[rv a, iv 0, rv b, iv 0, iv 2, iv 0, iv c0_] [(.int (c0_.toInt8.toInt32)), (.int 0), (.ref b)]
  obtain ⟨cl2, Aq2, Cq2, S2, M2, H2, G2⟩ := id V_b
  have in2 : ¬ ((0 : Int32) < 0 ∨ cl2.slots.size ≤ (0 : Int32).toNatClampNeg) := inb_of S2 ⟨by decide, by decide⟩
  obtain ⟨T2, h2, X2, e2, W2, st2⟩ := stB X0 hx hZ e0 Aq2 in2 (g := (mkF m 31 #[rv a, iv 0, rv b, iv 0, iv 2, iv 0, iv c0_] [(.int (c0_.toInt8.toInt32)), (.int 0), (.ref b)])) rfl rfl (hb hby d5_31)
  have W2 : Wr h0 h2 b (0 : Int32).toNatClampNeg (.int (nar .byte (c0_.toInt8.toInt32))) := W2
  have F3 := V_a.other W2 nab
  have V2 : Arv Z h2 b cb .byte (2 : Int32) [(.int (nar .byte (c0_.toInt8.toInt32))), (.int (0 : Int32))] (.int (0 : Int32)) := Arv.set Aq2 Cq2 S2 M2 H2 G2 (fits_nar_byte _) W2 0 (by decide) (by show 0 < 2; decide)
  have K2 := K0.wr W2 (Or.inl (List.mem_of_getElem? (i := 0) rfl))
  have N2 := Fr.snoc X2 N0 g_b
  have Zs2 : n0 ≤ h2.size := by rw [W2.size]; exact Z0
  refine os st2 ?_
  show OG p e below Φ T2 m 32 #[rv a, iv 0, rv b, iv 0, iv 2, iv 0, iv c0_] []
  refine os (fun _ z => XS.iinc X2.here hx rfl (hb hby d5_32) rfl (l' := #[rv a, iv ((0 : Int32) + (1 : Int32)), rv b, iv 0, iv 2, iv 0, iv c0_]) rfl z) ?_
  show OG p e below Φ T2 m 35 #[rv a, iv 1, rv b, iv 0, iv 2, iv 0, iv c0_] []
  refine os (fun _ z => XS.iinc X2.here hx rfl (hb hby d5_35) rfl (l' := #[rv a, iv 1, rv b, iv ((0 : Int32) + (1 : Int32)), iv 2, iv 0, iv c0_]) rfl z) ?_
  show OG p e below Φ T2 m 38 #[rv a, iv 1, rv b, iv 1, iv 2, iv 0, iv c0_] []
  refine os (fun _ z => XS.iinc X2.here hx rfl (hb hby d5_38) rfl (l' := #[rv a, iv 1, rv b, iv 1, iv 2, iv ((0 : Int32) + (1 : Int32)), iv c0_]) rfl z) ?_
  show OG p e below Φ T2 m 41 #[rv a, iv 1, rv b, iv 1, iv 2, iv 1, iv c0_] []
  refine os (fun _ z => XS.goto X2.here hx rfl (pc0 := 41) (pc' := 3) rfl (hb hby d5_41) (by decide) (by decide) z) ?_
  show OG p e below Φ T2 m 3 #[rv a, iv 1, rv b, iv 1, iv 2, iv 1, iv c0_] []
  refine os (fun _ z => XS.iload X2.here hx rfl (hb hby d5_3) rfl z) ?_
  refine os (fun _ z => XS.iload X2.here hx rfl (hb hby d5_5) rfl z) ?_
  show OG p e below Φ T2 m 7 #[rv a, iv 1, rv b, iv 1, iv 2, iv 1, iv c0_] [(.int 2), (.int 1)]
  refine os (fun _ z => XS.icmpNo X2.here hx rfl (hb hby d5_7) rfl (XT.ii_ge_f (by decide)) z) ?_
  show OG p e below Φ T2 m 10 #[rv a, iv 1, rv b, iv 1, iv 2, iv 1, iv c0_] []
  refine os (fun _ z => XS.aloadN X2.here hx rfl (hb hby d5_10) rfl rfl z) ?_
  refine os (fun _ z => XS.iloadN X2.here hx rfl (hb hby d5_11) rfl z) ?_
  show OG p e below Φ T2 m 12 #[rv a, iv 1, rv b, iv 1, iv 2, iv 1, iv c0_] [(.int 1), (.ref a)]
  obtain ⟨cl4, Aq4, -, S4, M4, H4, -⟩ := id F3
  have in4 : ¬ ((1 : Int32) < 0 ∨ cl4.slots.size ≤ (1 : Int32).toNatClampNeg) := inb_of S4 ⟨by decide, by decide⟩
  have at4 : cl4.slots[(1 : Int32).toNatClampNeg]? = some (.int c1_) := H4.at in4 rfl
  refine os (fun _ z => X2.caload hx (by rw [e2]; exact Aq4.1) (oia hZ Aq4.2.1) Aq4.2.2 in4 at4 (g := (mkF m 12 #[rv a, iv 1, rv b, iv 1, iv 2, iv 1, iv c0_] [(.int 1), (.ref a)])) rfl rfl (hb hby d5_12) _ z) ?_
  show OG p e below Φ T2 m 13 #[rv a, iv 1, rv b, iv 1, iv 2, iv 1, iv c0_] [(.int c1_)]
  refine os (fun _ z => XS.istore X2.here hx rfl (hb hby d5_13) rfl (l' := #[rv a, iv 1, rv b, iv 1, iv 2, iv 1, iv c1_]) rfl z) ?_
  show OG p e below Φ T2 m 15 #[rv a, iv 1, rv b, iv 1, iv 2, iv 1, iv c1_] []
  refine os (fun _ z => XS.iload X2.here hx rfl (hb hby d5_15) rfl z) ?_
  refine os (fun _ z => XS.sipush X2.here hx rfl (hb hby d5_17) z) ?_
  show OG p e below Φ T2 m 20 #[rv a, iv 1, rv b, iv 1, iv 2, iv 1, iv c1_] [(.int 255), (.int c1_)]
  refine os (fun _ z => XS.icmpYes X2.here hx rfl (pc0 := 20) (pc' := 26) rfl (hb hby d5_20) rfl (XT.ii_le_t hl1) (by decide) (by decide) z) ?_
  show OG p e below Φ T2 m 26 #[rv a, iv 1, rv b, iv 1, iv 2, iv 1, iv c1_] []
  refine os (fun _ z => XS.aloadN X2.here hx rfl (hb hby d5_26) rfl rfl z) ?_
  refine os (fun _ z => XS.iloadN X2.here hx rfl (hb hby d5_27) rfl z) ?_
  show OG p e below Φ T2 m 28 #[rv a, iv 1, rv b, iv 1, iv 2, iv 1, iv c1_] [(.int 1), (.ref b)]
  refine os (fun _ z => XS.iload X2.here hx rfl (hb hby d5_28) rfl z) ?_
  refine os (fun _ z => XT.i2b X2.here hx rfl (hb hby d5_30) rfl z) ?_
  show OG p e below Φ T2 m 31 #[rv a, iv 1, rv b, iv 1, iv 2, iv 1, iv c1_] [(.int (c1_.toInt8.toInt32)), (.int 1), (.ref b)]
  obtain ⟨cl5, Aq5, Cq5, S5, M5, H5, G5⟩ := id V2
  have in5 : ¬ ((1 : Int32) < 0 ∨ cl5.slots.size ≤ (1 : Int32).toNatClampNeg) := inb_of S5 ⟨by decide, by decide⟩
  obtain ⟨T5, h5, X5, e5, W5, st5⟩ := stB X2 hx hZ e2 Aq5 in5 (g := (mkF m 31 #[rv a, iv 1, rv b, iv 1, iv 2, iv 1, iv c1_] [(.int (c1_.toInt8.toInt32)), (.int 1), (.ref b)])) rfl rfl (hb hby d5_31)
  have W5 : Wr h2 h5 b (1 : Int32).toNatClampNeg (.int (nar .byte (c1_.toInt8.toInt32))) := W5
  have F6 := F3.other W5 nab
  have V5 : Arv Z h5 b cb .byte (2 : Int32) [(.int (nar .byte (c0_.toInt8.toInt32))), (.int (nar .byte (c1_.toInt8.toInt32)))] (.int (0 : Int32)) := Arv.set Aq5 Cq5 S5 M5 H5 G5 (fits_nar_byte _) W5 1 (by decide) (by show 1 < 2; decide)
  have K5 := K2.wr W5 (Or.inl (List.mem_of_getElem? (i := 0) rfl))
  have N5 := Fr.snoc X5 N2 g_b
  have Zs5 : n0 ≤ h5.size := by rw [W5.size]; exact Zs2
  refine os st5 ?_
  show OG p e below Φ T5 m 32 #[rv a, iv 1, rv b, iv 1, iv 2, iv 1, iv c1_] []
  refine os (fun _ z => XS.iinc X5.here hx rfl (hb hby d5_32) rfl (l' := #[rv a, iv ((1 : Int32) + (1 : Int32)), rv b, iv 1, iv 2, iv 1, iv c1_]) rfl z) ?_
  show OG p e below Φ T5 m 35 #[rv a, iv 2, rv b, iv 1, iv 2, iv 1, iv c1_] []
  refine os (fun _ z => XS.iinc X5.here hx rfl (hb hby d5_35) rfl (l' := #[rv a, iv 2, rv b, iv ((1 : Int32) + (1 : Int32)), iv 2, iv 1, iv c1_]) rfl z) ?_
  show OG p e below Φ T5 m 38 #[rv a, iv 2, rv b, iv 2, iv 2, iv 1, iv c1_] []
  refine os (fun _ z => XS.iinc X5.here hx rfl (hb hby d5_38) rfl (l' := #[rv a, iv 2, rv b, iv 2, iv 2, iv ((1 : Int32) + (1 : Int32)), iv c1_]) rfl z) ?_
  show OG p e below Φ T5 m 41 #[rv a, iv 2, rv b, iv 2, iv 2, iv 2, iv c1_] []
  refine os (fun _ z => XS.goto X5.here hx rfl (pc0 := 41) (pc' := 3) rfl (hb hby d5_41) (by decide) (by decide) z) ?_
  show OG p e below Φ T5 m 3 #[rv a, iv 2, rv b, iv 2, iv 2, iv 2, iv c1_] []
  refine os (fun _ z => XS.iload X5.here hx rfl (hb hby d5_3) rfl z) ?_
  refine os (fun _ z => XS.iload X5.here hx rfl (hb hby d5_5) rfl z) ?_
  show OG p e below Φ T5 m 7 #[rv a, iv 2, rv b, iv 2, iv 2, iv 2, iv c1_] [(.int 2), (.int 2)]
  refine os (fun _ z => XS.icmpYes X5.here hx rfl (pc0 := 7) (pc' := 44) rfl (hb hby d5_7) rfl (XT.ii_ge_t (by decide)) (by decide) (by decide) z) ?_
  show OG p e below Φ T5 m 44 #[rv a, iv 2, rv b, iv 2, iv 2, iv 2, iv c1_] []
  refine os (fun _ z => XS.iload X5.here hx rfl (hb hby d5_44) rfl z) ?_
  refine OGo.fin X5 hlk (v := (some (.int 2))) (fun h => by rw [hret] at h; cases h) (by decide) (by decide) (fun fs hr => X5.ireturnOut hx hret rfl (by simp) (hb hby d5_46) hr) fun U eU hF => hΦ _ _ _ ?_ hF
  rw [eU, e5]
  show Q_rsl2c2 Z a ca b cb c0_ c1_ h0 n0 _ _ _
  exact ⟨rfl, N5, K5, V5⟩

theorem ef_rsl2c3 (m : MethodId) (x0 : Addr) (x1 : Int32) (x2 : Int32) : entryFrame m #[(.ref x0), (.int x1), (.int x2)] 6 = mkF m 0 #[.val (.ref x0), .val (.int x1), .val (.int x2), .unset, .unset, .unset] [] := by first | (simp [entryFrame, mkF, argsToLocals, Value.category]; done) | rfl
def Q_rsl2c3 (Z : State) (a : Addr) (ca : ClassId) (c0_ : Int32) (c1_ : Int32) (h0 : Heap) (n0 : Nat) (v : Option Value) (h : Heap) (L : List Loc) : Prop := ∃ b cb, v = some (.ref b) ∧ Fr n0 L ∧ Keep h0 h [] ∧ Arv Z h b cb .byte (2 : Int32) [(.int (nar .byte (c0_.toInt8.toInt32))), (.int (nar .byte (c1_.toInt8.toInt32)))] (.int (0 : Int32)) ∧ h0.size ≤ b
set_option maxRecDepth 65536 in
set_option maxHeartbeats 40000000 in
theorem rsl2c3 (l : Launch) (Z : State) (a0 : Array Value) (hw : ∀ d ∈ tables_1, d.before a0 Z = true) (ws : List Jvm.Cond) (a : Addr) (ca : ClassId) (c0_ : Int32) (c1_ : Int32) (h0 : Heap) (n0 : Nat) (Z0 : n0 ≤ h0.size) (V_a : Arv Z h0 a ca .char (2 : Int32) [(.int c0_), (.int c1_)] (.int (0 : Int32))) (hl0 : ¬ (255 : Int32) < c0_) (hl1 : ¬ (255 : Int32) < c1_) :
    OCon l Z (⟨"java/lang/StringUTF16", "compress", "([CII)[B"⟩ : MethodName) jdk_52_method_16_code 6 (some (.array .byte)) ws ({ frames := 1, cells := 1, slots := 2, locals := 18 } : Room) #[(.ref a), (.int (0 : Int32)), (.int (2 : Int32))] h0 (Q_rsl2c3 Z a ca c0_ c1_ h0 n0) := by
  refine OCon.of (plainFor_of_name pn1) ?_
  intro p e s m below meth c s₁ Φ X0 hx hby hml hown hnm hret hlk hZ e0 hΦ
  have N0 := Fr.nil n0
  refine os (fun _ z => castTop (ef_rsl2c3 m a (0 : Int32) (2 : Int32)) z) ?_
  have K0 := Keep.refl h0 []
  show OG p e below Φ s₁ m 0 #[rv a, iv 0, iv 2, .unset, .unset, .unset] []
  refine os (fun _ z => XS.iloadN X0.here hx rfl (hb hby d4_0) rfl z) ?_
  obtain ⟨T1, h1, c1, X1, e1, E1, Ar1, st1⟩ := newP (aty := .byte) X0 hx hZ (ow1 hw) e0 (g := (mkF m 1 #[rv a, iv 0, iv 2, .unset, .unset, .unset] [(.int 2)])) rfl (hb hby d4_1) rfl (by decide) (cap := 2) (by decide) (by decide) (by decide) (by decide)
  obtain ⟨b1, g1⟩ : ∃ z, z = h0.size := ⟨_, rfl⟩
  rw [← g1] at Ar1 st1
  have ne1_a : a ≠ b1 := by rw [g1]; exact Nat.ne_of_lt V_a.lt
  have F2 := V_a.ext E1
  have gb1 : n0 ≤ b1 := Nat.le_trans Z0 (Nat.le_of_eq g1.symm)
  have sz1 : h0.size ≤ b1 := Nat.le_trans K0.1 (Nat.le_of_eq g1.symm)
  have K1 := K0.ext E1
  have Zs1 : n0 ≤ h1.size := Nat.le_trans Z0 E1.1
  have V1 : Arv Z h1 b1 c1 .byte (2 : Int32) [(.int (0 : Int32)), (.int (0 : Int32))] (.int (0 : Int32)) := (Arv.new Ar1 (by decide)).pad (pad_rep [] _ 2)
  refine os st1 ?_
  show OG p e below Φ T1 m 3 #[rv a, iv 0, iv 2, .unset, .unset, .unset] [(.ref b1)]
  refine os (fun _ z => XS.astoreN X1.here hx rfl (hb hby d4_3) rfl rfl (l' := #[rv a, iv 0, iv 2, rv b1, .unset, .unset]) rfl z) ?_
  show OG p e below Φ T1 m 4 #[rv a, iv 0, iv 2, rv b1, .unset, .unset] []
  refine os (fun _ z => XS.aloadN X1.here hx rfl (hb hby d4_4) rfl rfl z) ?_
  refine os (fun _ z => XS.iloadN X1.here hx rfl (hb hby d4_5) rfl z) ?_
  show OG p e below Φ T1 m 6 #[rv a, iv 0, iv 2, rv b1, .unset, .unset] [(.int 0), (.ref a)]
  refine os (fun _ z => XS.aloadN X1.here hx rfl (hb hby d4_6) rfl rfl z) ?_
  refine os (fun _ z => XS.iconst X1.here hx rfl (hb hby d4_7) z) ?_
  show OG p e below Φ T1 m 8 #[rv a, iv 0, iv 2, rv b1, .unset, .unset] [(.int 0), (.ref b1), (.int 0), (.ref a)]
  refine os (fun _ z => XS.iloadN X1.here hx rfl (hb hby d4_8) rfl z) ?_
  obtain ⟨_, T3, L3, X3, hQ3, st3⟩ := own_callSt X1 hx hZ hown (ow22 hw) (ow23 hw) (ow20 hw) (ow24 hw) (by decide) (rsl2c2 l Z a0 hw [] a ca b1 c1 c0_ c1_ h1 n0 Zs1 F2 V1 ne1_a gb1 hl0 hl1) e1 (W := 0) (by decide) (by decide) (by decide) (by decide) (pc := 9) (ls := #[rv a, iv 0, iv 2, rv b1, .unset, .unset]) (stk := [(.int 2), (.int 0), (.ref b1), (.int 0), (.ref a)]) (by rw [hml]; rfl) (argsL := [(.ref a), (.int 0), (.ref b1), (.int 0), (.int 2)]) (rest := []) (lenOf pd1 rfl) rfl rfl (Nat.le_of_eq rfl) (hb hby d4_9)
  obtain ⟨rfl, Nq3, Kq3, Vq3⟩ := hQ3
  have N3 := Fr.app N0 Nq3
  have Zs3 : n0 ≤ T3.heap.size := Nat.le_trans Zs1 Kq3.1
  have F4 := F2.keep Kq3 (ninS ne1_a nin0)
  have K3 := K1.trans Kq3 (allS (Or.inr sz1) all0)
  refine os st3 ?_
  show OG p e below Φ T3 m 12 #[rv a, iv 0, iv 2, rv b1, .unset, .unset] [(.int 2)]
  refine os (fun _ z => XS.istore X3.here hx rfl (hb hby d4_12) rfl (l' := #[rv a, iv 0, iv 2, rv b1, iv 2, .unset]) rfl z) ?_
  show OG p e below Φ T3 m 14 #[rv a, iv 0, iv 2, rv b1, iv 2, .unset] []
  refine os (fun _ z => XS.iload X3.here hx rfl (hb hby d4_14) rfl z) ?_
  refine os (fun _ z => XS.iloadN X3.here hx rfl (hb hby d4_16) rfl z) ?_
  show OG p e below Φ T3 m 17 #[rv a, iv 0, iv 2, rv b1, iv 2, .unset] [(.int 2), (.int 2)]
  refine os (fun _ z => XS.icmpYes X3.here hx rfl (pc0 := 17) (pc' := 57) rfl (hb hby d4_17) rfl (XT.ii_eq_t (by decide)) (by decide) (by decide) z) ?_
  show OG p e below Φ T3 m 57 #[rv a, iv 0, iv 2, rv b1, iv 2, .unset] []
  refine os (fun _ z => XS.aloadN X3.here hx rfl (hb hby d4_57) rfl rfl z) ?_
  refine OGo.fin X3 hlk (v := (some (.ref b1))) (fun h => by rw [hret] at h; cases h) (by decide) (by decide) (fun fs hr => X3.areturnOut hx rfl hret rfl (hb hby d4_58) hr) fun U eU hF => hΦ _ _ _ ?_ hF
  rw [eU]
  show Q_rsl2c3 Z a ca c0_ c1_ h0 n0 _ _ _
  exact ⟨_, _, rfl, N3, K3, Vq3, sz1⟩

theorem ef_rsl2cf (m : MethodId) (x0 : Addr) (x1 : Int32) : entryFrame m #[(.ref x0), (.int x1)] 2 = mkF m 0 #[.val (.ref x0), .val (.int x1)] [] := by first | (simp [entryFrame, mkF, argsToLocals, Value.category]; done) | rfl
def Q_rsl2cf (Z : State) (b : Addr) (cb : ClassId) (c0_ : Int32) (c1_ : Int32) (h0 : Heap) (n0 : Nat) (v : Option Value) (h : Heap) (L : List Loc) : Prop := v = some (.int (0 : Int32)) ∧ Fr n0 L ∧ h = h0
set_option maxRecDepth 65536 in
set_option maxHeartbeats 40000000 in
theorem rsl2cf (l : Launch) (Z : State) (a0 : Array Value) (hw : ∀ d ∈ tables_1, d.before a0 Z = true) (ws : List Jvm.Cond) (b : Addr) (cb : ClassId) (c0_ : Int32) (c1_ : Int32) (h0 : Heap) (n0 : Nat) (Z0 : n0 ≤ h0.size) (V_b : Arv Z h0 b cb .byte (2 : Int32) [(.int (nar .byte (c0_.toInt8.toInt32))), (.int (nar .byte (c1_.toInt8.toInt32)))] (.int (0 : Int32))) :
    OCon l Z (⟨"java/lang/StringUTF16", "coderFromArrayLen", "([BI)B"⟩ : MethodName) jdk_52_method_15_code 2 (some .byte) ws ({ frames := 0, cells := 0, slots := 0, locals := 0 } : Room) #[(.ref b), (.int (2 : Int32))] h0 (Q_rsl2cf Z b cb c0_ c1_ h0 n0) := by
  refine OCon.of (plainFor_of_name pn1) ?_
  intro p e s m below meth c s₁ Φ X0 hx hby hml hown hnm hret hlk hZ e0 hΦ
  have N0 := Fr.nil n0
  refine os (fun _ z => castTop (ef_rsl2cf m b (2 : Int32)) z) ?_
  show OG p e below Φ s₁ m 0 #[rv b, iv 2] []
  refine os (fun _ z => XS.iloadN X0.here hx rfl (hb hby d6_0) rfl z) ?_
  refine os (fun _ z => XS.aloadN X0.here hx rfl (hb hby d6_1) rfl rfl z) ?_
  show OG p e below Φ s₁ m 2 #[rv b, iv 2] [(.ref b), (.int 2)]
  obtain ⟨cl1, Aq1, -, S1, M1, -, -⟩ := id V_b
  refine os (fun _ z => X0.arraylength hx (by rw [e0]; exact Aq1.1) (oia hZ Aq1.2.1) (g := (mkF m 2 #[rv b, iv 2] [(.ref b), (.int 2)])) rfl rfl (hb hby d6_2) _ z) ?_
  rw [len_of S1 M1]
  show OG p e below Φ s₁ m 3 #[rv b, iv 2] [(.int 2), (.int 2)]
  refine os (fun _ z => XS.isub X0.here hx rfl (hb hby d6_3) rfl z) ?_
  show OG p e below Φ s₁ m 4 #[rv b, iv 2] [(.int 0)]
  refine os (fun _ z => XS.bipush X0.here hx rfl (hb hby d6_4) z) ?_
  refine os (fun _ z => XT.iushr X0.here hx rfl (hb hby d6_6) rfl z) ?_
  show OG p e below Φ s₁ m 7 #[rv b, iv 2] [(.int 0)]
  refine os (fun _ z => XT.i2b X0.here hx rfl (hb hby d6_7) rfl z) ?_
  show OG p e below Φ s₁ m 8 #[rv b, iv 2] [(.int 0)]
  refine OGo.fin X0 hlk (v := (some (.int 0))) (fun h => by rw [hret] at h; cases h) (by decide) (by decide) (fun fs hr => X0.ireturnOut hx hret rfl (by simp) (hb hby d6_8) hr) fun U eU hF => hΦ _ _ _ ?_ hF
  rw [eU, e0]
  show Q_rsl2cf Z b cb c0_ c1_ h0 n0 _ _ _
  exact ⟨rfl, N0, rfl⟩

theorem ef_rsl2i4 (m : MethodId) (x0 : Addr) (x1 : Addr) (x2 : Int32) (x3 : Int32) : entryFrame m #[(.ref x0), (.ref x1), (.int x2), (.int x3), .null] 6 = mkF m 0 #[.val (.ref x0), .val (.ref x1), .val (.int x2), .val (.int x3), .val .null, .unset] [] := by first | (simp [entryFrame, mkF, argsToLocals, Value.category]; done) | rfl
def Q_rsl2i4 (Z : State) (s_ : Addr) (a : Addr) (ca : ClassId) (qc : Int32) (c0_ : Int32) (c1_ : Int32) (h0 : Heap) (n0 : Nat) (v : Option Value) (h : Heap) (L : List Loc) : Prop := v = none ∧ Fr n0 L ∧ Keep h0 h [s_] ∧ Exa Z h s_ "java/lang/String" ∧ ∃ b cb, Fld Z h s_ "java/lang/String" "value" "[B" (.ref b) ∧ Fld Z h s_ "java/lang/String" "coder" "B" (.int (0 : Int32)) ∧ Arv Z h b cb .byte (2 : Int32) [(.int (nar .byte (c0_.toInt8.toInt32))), (.int (nar .byte (c1_.toInt8.toInt32)))] (.int (0 : Int32)) ∧ h0.size ≤ b
set_option maxRecDepth 65536 in
set_option maxHeartbeats 40000000 in
theorem rsl2i4 (l : Launch) (Z : State) (a0 : Array Value) (hw : ∀ d ∈ tables_1, d.before a0 Z = true) (ws : List Jvm.Cond) (s_ : Addr) (a : Addr) (ca : ClassId) (qc : Int32) (c0_ : Int32) (c1_ : Int32) (h0 : Heap) (n0 : Nat) (Z0 : n0 ≤ h0.size) (E_s : Exa Z h0 s_ "java/lang/String") (g_s : n0 ≤ s_) (F_v : Fld Z h0 s_ "java/lang/String" "value" "[B" .null) (F_c : Fld Z h0 s_ "java/lang/String" "coder" "B" (.int (0 : Int32))) (V_a : Arv Z h0 a ca .char (2 : Int32) [(.int c0_), (.int c1_)] (.int (0 : Int32))) (nsa : s_ ≠ a) (S_q : Sta Z h0 "java/lang/String" "COMPACT_STRINGS" "Z" (.int qc)) (hq : ¬ qc = 0) (hl0 : ¬ (255 : Int32) < c0_) (hl1 : ¬ (255 : Int32) < c1_) :
    OCon l Z (⟨"java/lang/String", "<init>", "([CIILjava/lang/Void;)V"⟩ : MethodName) jdk_42_method_149_code 6 none ws ({ frames := 2, cells := 1, slots := 2, locals := 35 } : Room) #[(.ref s_), (.ref a), (.int (0 : Int32)), (.int (2 : Int32)), .null] h0 (Q_rsl2i4 Z s_ a ca qc c0_ c1_ h0 n0) := by
  refine OCon.of (plainFor_of_name pn0) ?_
  intro p e s m below meth c s₁ Φ X0 hx hby hml hown hnm hret hlk hZ e0 hΦ
  have N0 := Fr.nil n0
  refine os (fun _ z => castTop (ef_rsl2i4 m s_ a (0 : Int32) (2 : Int32)) z) ?_
  have K0 := Keep.refl h0 [s_]
  show OG p e below Φ s₁ m 0 #[rv s_, rv a, iv 0, iv 2, .val .null, .unset] []
  refine os (fun _ z => XS.aloadN X0.here hx rfl (hb hby d2_0) rfl rfl z) ?_
  obtain ⟨T1, X1, e1, st1⟩ := initO X0 hx hZ hown (ow14 hw) (ow15 hw) (ow16 hw) e0 (g := (mkF m 1 #[rv s_, rv a, iv 0, iv 2, .val .null, .unset] [(.ref s_)])) rfl (by rw [hml]; rfl) rfl (hb hby d2_1) (by decide) (W := 0) (Nat.le_of_eq rfl) (by decide)
  refine os st1 ?_
  show OG p e below Φ T1 m 4 #[rv s_, rv a, iv 0, iv 2, .val .null, .unset] []
  refine os (fun _ z => XS.iloadN X1.here hx rfl (hb hby d2_4) rfl z) ?_
  refine os (fun _ z => XS.ifYes X1.here hx rfl (pc0 := 5) (pc' := 27) rfl (hb hby d2_5) rfl (XT.i0_ne_t (by decide)) (by decide) (by decide) z) ?_
  show OG p e below Φ T1 m 27 #[rv s_, rv a, iv 0, iv 2, .val .null, .unset] []
  obtain ⟨T2, X2, e2, st2⟩ := getS2 X1 hx hZ hown (host := "") (Or.inl (ow17 hw)) Via.refl e1 S_q (g := (mkF m 27 #[rv s_, rv a, iv 0, iv 2, .val .null, .unset] [])) rfl (hb hby d2_27)
  refine os st2 ?_
  show OG p e below Φ T2 m 30 #[rv s_, rv a, iv 0, iv 2, .val .null, .unset] [(.int qc)]
  refine os (fun _ z => XS.ifNo X2.here hx rfl (hb hby d2_30) rfl (XT.i0_eq_f hq) z) ?_
  show OG p e below Φ T2 m 33 #[rv s_, rv a, iv 0, iv 2, .val .null, .unset] []
  refine os (fun _ z => XS.aloadN X2.here hx rfl (hb hby d2_33) rfl rfl z) ?_
  refine os (fun _ z => XS.iloadN X2.here hx rfl (hb hby d2_34) rfl z) ?_
  show OG p e below Φ T2 m 35 #[rv s_, rv a, iv 0, iv 2, .val .null, .unset] [(.int 0), (.ref a)]
  refine os (fun _ z => XS.iloadN X2.here hx rfl (hb hby d2_35) rfl z) ?_
  obtain ⟨_, T3, L3, X3, hQ3, st3⟩ := own_callSt X2 hx hZ hown (ow18 hw) (ow19 hw) (ow20 hw) (ow21 hw) (by decide) (rsl2c3 l Z a0 hw [] a ca c0_ c1_ h0 n0 Z0 V_a hl0 hl1) e2 (W := 0) (by decide) (by decide) (by decide) (by decide) (pc := 36) (ls := #[rv s_, rv a, iv 0, iv 2, .val .null, .unset]) (stk := [(.int 2), (.int 0), (.ref a)]) (by rw [hml]; rfl) (argsL := [(.ref a), (.int 0), (.int 2)]) (rest := []) (lenOf pd2 rfl) rfl rfl (Nat.le_of_eq rfl) (hb hby d2_36)
  obtain ⟨b3, cb3, rfl, Nq3, Kq3, Vq3, hz3⟩ := hQ3
  have nq3_a : a ≠ b3 := Nat.ne_of_lt (Nat.lt_of_lt_of_le V_a.lt hz3)
  have nq3_s_ : s_ ≠ b3 := Nat.ne_of_lt (Nat.lt_of_lt_of_le E_s.lt hz3)
  have gq3 : n0 ≤ b3 := Nat.le_trans Z0 hz3
  have sq3 : h0.size ≤ b3 := Nat.le_trans K0.1 hz3
  have N3 := Fr.app N0 Nq3
  have Zs3 : n0 ≤ T3.heap.size := Nat.le_trans Z0 Kq3.1
  have F4 := E_s.keep Kq3
  have F5 := F_v.keep Kq3 nin0
  have F6 := F_c.keep Kq3 nin0
  have F7 := V_a.keep Kq3 nin0
  have K3 := K0.trans Kq3 all0
  refine os st3 ?_
  show OG p e below Φ T3 m 39 #[rv s_, rv a, iv 0, iv 2, .val .null, .unset] [(.ref b3)]
  refine os (fun _ z => XS.astore X3.here hx rfl (hb hby d2_39) rfl rfl (l' := #[rv s_, rv a, iv 0, iv 2, .val .null, rv b3]) rfl z) ?_
  show OG p e below Φ T3 m 41 #[rv s_, rv a, iv 0, iv 2, .val .null, rv b3] []
  refine os (fun _ z => XS.aloadN X3.here hx rfl (hb hby d2_41) rfl rfl z) ?_
  refine os (fun _ z => XS.aload X3.here hx rfl (hb hby d2_42) rfl rfl z) ?_
  show OG p e below Φ T3 m 44 #[rv s_, rv a, iv 0, iv 2, .val .null, rv b3] [(.ref b3), (.ref s_)]
  refine os (fun _ z => XS.iloadN X3.here hx rfl (hb hby d2_44) rfl z) ?_
  obtain ⟨_, T8, L8, X8, hQ8, st8⟩ := own_callSt X3 hx hZ hown (ow25 hw) (ow26 hw) (ow20 hw) (ow27 hw) (by decide) (rsl2cf l Z a0 hw [] b3 cb3 c0_ c1_ T3.heap n0 Zs3 Vq3) rfl (W := 1) (by decide) (by decide) (by decide) (by decide) (pc := 45) (ls := #[rv s_, rv a, iv 0, iv 2, .val .null, rv b3]) (stk := [(.int 2), (.ref b3), (.ref s_)]) (by rw [hml]; rfl) (argsL := [(.ref b3), (.int 2)]) (rest := [(.ref s_)]) (lenOf pd3 rfl) rfl rfl (Nat.le_of_eq rfl) (hb hby d2_45)
  obtain ⟨rfl, Nq8, e8⟩ := hQ8
  have N8 := Fr.app N3 Nq8
  refine os st8 ?_
  show OG p e below Φ T8 m 48 #[rv s_, rv a, iv 0, iv 2, .val .null, rv b3] [(.int 0), (.ref s_)]
  obtain ⟨T9, h9, X9, e9, W9, st9⟩ := putF X8 hx hZ hown (host := "") (Or.inl (ow28 hw)) Via.refl e8 F6 F4 (Or.inr ⟨(ow29 hw), rfl, hnm⟩) (ow5 hw) (ty := .byte) (by decide) (by decide) (by decide) (g := (mkF m 48 #[rv s_, rv a, iv 0, iv 2, .val .null, rv b3] [(.int 0), (.ref s_)])) rfl rfl (hb hby d2_48)
  have F10 := F4.wr W9
  have F11 := F5.other W9 (Or.inr (slot_ne (Or.inr (ow31 hw)) (Or.inr (ow29 hw)) (by decide) (t := (.array .byte)) (t' := .byte) (by decide) (by decide)))
  have F12 := F6.same W9
  have F13 := F7.other W9 (Ne.symm nsa)
  have F14 := Vq3.other W9 (Ne.symm nq3_s_)
  have K9 := K3.wr W9 (Or.inl (List.mem_of_getElem? (i := 0) rfl))
  have N9 := Fr.snoc X9 N8 g_s
  have Zs9 : n0 ≤ h9.size := by rw [W9.size]; exact Zs3
  refine os st9 ?_
  show OG p e below Φ T9 m 51 #[rv s_, rv a, iv 0, iv 2, .val .null, rv b3] []
  refine os (fun _ z => XS.aloadN X9.here hx rfl (hb hby d2_51) rfl rfl z) ?_
  refine os (fun _ z => XS.aload X9.here hx rfl (hb hby d2_52) rfl rfl z) ?_
  show OG p e below Φ T9 m 54 #[rv s_, rv a, iv 0, iv 2, .val .null, rv b3] [(.ref b3), (.ref s_)]
  obtain ⟨T15, h15, X15, e15, W15, st15⟩ := putF X9 hx hZ hown (host := "") (Or.inl (ow30 hw)) Via.refl e9 F11 F10 (Or.inr ⟨(ow31 hw), rfl, hnm⟩) (ow5 hw) (ty := (.array .byte)) (by decide) rfl rfl (g := (mkF m 54 #[rv s_, rv a, iv 0, iv 2, .val .null, rv b3] [(.ref b3), (.ref s_)])) rfl rfl (hb hby d2_54)
  have F16 := F10.wr W15
  have F17 := F11.same W15
  have F18 := F12.other W15 (Or.inr (slot_ne (Or.inr (ow29 hw)) (Or.inr (ow31 hw)) (by decide) (t := .byte) (t' := (.array .byte)) (by decide) (by decide)))
  have F19 := F13.other W15 (Ne.symm nsa)
  have F20 := F14.other W15 (Ne.symm nq3_s_)
  have K15 := K9.wr W15 (Or.inl (List.mem_of_getElem? (i := 0) rfl))
  have N15 := Fr.snoc X15 N9 g_s
  have Zs15 : n0 ≤ h15.size := by rw [W15.size]; exact Zs9
  refine os st15 ?_
  show OG p e below Φ T15 m 57 #[rv s_, rv a, iv 0, iv 2, .val .null, rv b3] []
  refine OGo.fin X15 hlk (v := none) (fun _ => rfl) (by decide) (by decide) (fun fs hr => X15.returnOut hx hret (hb hby d2_57) hr) fun U eU hF => hΦ _ _ _ ?_ hF
  rw [eU, e15]
  show Q_rsl2i4 Z s_ a ca qc c0_ c1_ h0 n0 _ _ _
  exact ⟨rfl, N15, K15, F16, _, _, F17, F18, F20, sq3⟩

theorem ef_rsl2i1 (m : MethodId) (x0 : Addr) (x1 : Addr) : entryFrame m #[(.ref x0), (.ref x1)] 2 = mkF m 0 #[.val (.ref x0), .val (.ref x1)] [] := by first | (simp [entryFrame, mkF, argsToLocals, Value.category]; done) | rfl
def Q_rsl2i1 (Z : State) (s_ : Addr) (a : Addr) (ca : ClassId) (qc : Int32) (c0_ : Int32) (c1_ : Int32) (h0 : Heap) (n0 : Nat) (v : Option Value) (h : Heap) (L : List Loc) : Prop := v = none ∧ Fr n0 L ∧ Keep h0 h [s_] ∧ Exa Z h s_ "java/lang/String" ∧ ∃ b cb, Fld Z h s_ "java/lang/String" "value" "[B" (.ref b) ∧ Fld Z h s_ "java/lang/String" "coder" "B" (.int (0 : Int32)) ∧ Arv Z h b cb .byte (2 : Int32) [(.int (nar .byte (c0_.toInt8.toInt32))), (.int (nar .byte (c1_.toInt8.toInt32)))] (.int (0 : Int32)) ∧ h0.size ≤ b
set_option maxRecDepth 65536 in
set_option maxHeartbeats 40000000 in
theorem rsl2i1 (l : Launch) (Z : State) (a0 : Array Value) (hw : ∀ d ∈ tables_1, d.before a0 Z = true) (ws : List Jvm.Cond) (s_ : Addr) (a : Addr) (ca : ClassId) (qc : Int32) (c0_ : Int32) (c1_ : Int32) (h0 : Heap) (n0 : Nat) (Z0 : n0 ≤ h0.size) (E_s : Exa Z h0 s_ "java/lang/String") (g_s : n0 ≤ s_) (F_v : Fld Z h0 s_ "java/lang/String" "value" "[B" .null) (F_c : Fld Z h0 s_ "java/lang/String" "coder" "B" (.int (0 : Int32))) (V_a : Arv Z h0 a ca .char (2 : Int32) [(.int c0_), (.int c1_)] (.int (0 : Int32))) (nsa : s_ ≠ a) (S_q : Sta Z h0 "java/lang/String" "COMPACT_STRINGS" "Z" (.int qc)) (hq : ¬ qc = 0) (hl0 : ¬ (255 : Int32) < c0_) (hl1 : ¬ (255 : Int32) < c1_) :
    OCon l Z (⟨"java/lang/String", "<init>", "([C)V"⟩ : MethodName) jdk_42_method_3_code 2 none ws ({ frames := 3, cells := 1, slots := 2, locals := 52 } : Room) #[(.ref s_), (.ref a)] h0 (Q_rsl2i1 Z s_ a ca qc c0_ c1_ h0 n0) := by
  refine OCon.of (plainFor_of_name pn0) ?_
  intro p e s m below meth c s₁ Φ X0 hx hby hml hown hnm hret hlk hZ e0 hΦ
  have N0 := Fr.nil n0
  refine os (fun _ z => castTop (ef_rsl2i1 m s_ a) z) ?_
  have K0 := Keep.refl h0 [s_]
  show OG p e below Φ s₁ m 0 #[rv s_, rv a] []
  refine os (fun _ z => XS.aloadN X0.here hx rfl (hb hby d1_0) rfl rfl z) ?_
  refine os (fun _ z => XS.aloadN X0.here hx rfl (hb hby d1_1) rfl rfl z) ?_
  show OG p e below Φ s₁ m 2 #[rv s_, rv a] [(.ref a), (.ref s_)]
  refine os (fun _ z => XS.iconst X0.here hx rfl (hb hby d1_2) z) ?_
  refine os (fun _ z => XS.aloadN X0.here hx rfl (hb hby d1_3) rfl rfl z) ?_
  show OG p e below Φ s₁ m 4 #[rv s_, rv a] [(.ref a), (.int 0), (.ref a), (.ref s_)]
  obtain ⟨cl1, Aq1, -, S1, M1, -, -⟩ := id V_a
  refine os (fun _ z => X0.arraylength hx (by rw [e0]; exact Aq1.1) (oia hZ Aq1.2.1) (g := (mkF m 4 #[rv s_, rv a] [(.ref a), (.int 0), (.ref a), (.ref s_)])) rfl rfl (hb hby d1_4) _ z) ?_
  rw [len_of S1 M1]
  show OG p e below Φ s₁ m 5 #[rv s_, rv a] [(.int 2), (.int 0), (.ref a), (.ref s_)]
  refine os (fun _ z => XS.aconstNull X0.here hx rfl (hb hby d1_5) z) ?_
  obtain ⟨_, T2, L2, X2, hQ2, st2⟩ := own_callSp X0 hx hZ rfl hown (ow10 hw) (ow11 hw) (ow6 hw) (ow13 hw) (by decide) (rsl2i4 l Z a0 hw [] s_ a ca qc c0_ c1_ h0 n0 Z0 E_s g_s F_v F_c V_a nsa S_q hq hl0 hl1) e0 (W := 0) (by decide) (by decide) (by decide) (by decide) (pc := 6) (ls := #[rv s_, rv a]) (stk := [.null, (.int 2), (.int 0), (.ref a), (.ref s_)]) (by rw [hml]; rfl) (a := s_) (argsL := [(.ref a), (.int 0), (.int 2), .null]) (rest := []) (lenOf pd0 rfl) rfl rfl (Nat.le_of_eq rfl) (hb hby d1_6)
  obtain ⟨rfl, Nq2, Kq2, Eq2, b2, cb2, Fv2, Fc2, Vq2, hz2⟩ := hQ2
  have nq2_a : a ≠ b2 := Nat.ne_of_lt (Nat.lt_of_lt_of_le V_a.lt hz2)
  have nq2_s_ : s_ ≠ b2 := Nat.ne_of_lt (Nat.lt_of_lt_of_le E_s.lt hz2)
  have gq2 : n0 ≤ b2 := Nat.le_trans Z0 hz2
  have sq2 : h0.size ≤ b2 := Nat.le_trans K0.1 hz2
  have N2 := Fr.app N0 Nq2
  have Zs2 : n0 ≤ T2.heap.size := Nat.le_trans Z0 Kq2.1
  have F3 := V_a.keep Kq2 (ninS (Ne.symm nsa) nin0)
  have K2 := K0.trans Kq2 (allS (Or.inl (List.mem_of_getElem? (i := 0) rfl)) all0)
  refine os st2 ?_
  show OG p e below Φ T2 m 9 #[rv s_, rv a] []
  refine OGo.fin X2 hlk (v := none) (fun _ => rfl) (by decide) (by decide) (fun fs hr => X2.returnOut hx hret (hb hby d1_9) hr) fun U eU hF => hΦ _ _ _ ?_ hF
  rw [eU]
  show Q_rsl2i1 Z s_ a ca qc c0_ c1_ h0 n0 _ _ _
  exact ⟨rfl, N2, K2, Eq2, _, _, Fv2, Fc2, Vq2, sq2⟩

theorem ef_rsb2_0c2 (m : MethodId) (x0 : Addr) (x1 : Int32) (x2 : Addr) (x3 : Int32) (x4 : Int32) : entryFrame m #[(.ref x0), (.int x1), (.ref x2), (.int x3), (.int x4)] 7 = mkF m 0 #[.val (.ref x0), .val (.int x1), .val (.ref x2), .val (.int x3), .val (.int x4), .unset, .unset] [] := by first | (simp [entryFrame, mkF, argsToLocals, Value.category]; done) | rfl
def Q_rsb2_0c2 (Z : State) (a : Addr) (ca : ClassId) (b : Addr) (cb : ClassId) (c0_ : Int32) (c1_ : Int32) (h0 : Heap) (n0 : Nat) (v : Option Value) (h : Heap) (L : List Loc) : Prop := v = some (.int (0 : Int32)) ∧ Fr n0 L ∧ Keep h0 h [b]
set_option maxRecDepth 65536 in
set_option maxHeartbeats 40000000 in
theorem rsb2_0c2 (l : Launch) (Z : State) (a0 : Array Value) (hw : ∀ d ∈ tables_1, d.before a0 Z = true) (ws : List Jvm.Cond) (a : Addr) (ca : ClassId) (b : Addr) (cb : ClassId) (c0_ : Int32) (c1_ : Int32) (h0 : Heap) (n0 : Nat) (Z0 : n0 ≤ h0.size) (V_a : Arv Z h0 a ca .char (2 : Int32) [(.int c0_), (.int c1_)] (.int (0 : Int32))) (V_b : Arv Z h0 b cb .byte (2 : Int32) [(.int (0 : Int32)), (.int (0 : Int32))] (.int (0 : Int32))) (nab : a ≠ b) (g_b : n0 ≤ b) (hb0 : (255 : Int32) < c0_) :
    OCon l Z (⟨"java/lang/StringUTF16", "compress", "([CI[BII)I"⟩ : MethodName) jdk_52_method_21_code 7 (some .int) ws ({ frames := 0, cells := 0, slots := 0, locals := 0 } : Room) #[(.ref a), (.int (0 : Int32)), (.ref b), (.int (0 : Int32)), (.int (2 : Int32))] h0 (Q_rsb2_0c2 Z a ca b cb c0_ c1_ h0 n0) := by
  refine OCon.of (plainFor_of_name pn1) ?_
  intro p e s m below meth c s₁ Φ X0 hx hby hml hown hnm hret hlk hZ e0 hΦ
  have N0 := Fr.nil n0
  refine os (fun _ z => castTop (ef_rsb2_0c2 m a (0 : Int32) b (0 : Int32) (2 : Int32)) z) ?_
  have K0 := Keep.refl h0 [b]
  show OG p e below Φ s₁ m 0 #[rv a, iv 0, rv b, iv 0, iv 2, .unset, .unset] []
  refine os (fun _ z => XS.iconst X0.here hx rfl (hb hby d5_0) z) ?_
  refine os (fun _ z => XS.istore X0.here hx rfl (hb hby d5_1) rfl (l' := #[rv a, iv 0, rv b, iv 0, iv 2, iv 0, .unset]) rfl z) ?_
  show OG p e below Φ s₁ m 3 #[rv a, iv 0, rv b, iv 0, iv 2, iv 0, .unset] []
  refine os (fun _ z => XS.iload X0.here hx rfl (hb hby d5_3) rfl z) ?_
  refine os (fun _ z => XS.iload X0.here hx rfl (hb hby d5_5) rfl z) ?_
  show OG p e below Φ s₁ m 7 #[rv a, iv 0, rv b, iv 0, iv 2, iv 0, .unset] [(.int 2), (.int 0)]
  refine os (fun _ z => XS.icmpNo X0.here hx rfl (hb hby d5_7) rfl (XT.ii_ge_f (by decide)) z) ?_
  show OG p e below Φ s₁ m 10 #[rv a, iv 0, rv b, iv 0, iv 2, iv 0, .unset] []
  refine os (fun _ z => XS.aloadN X0.here hx rfl (hb hby d5_10) rfl rfl z) ?_
  refine os (fun _ z => XS.iloadN X0.here hx rfl (hb hby d5_11) rfl z) ?_
  show OG p e below Φ s₁ m 12 #[rv a, iv 0, rv b, iv 0, iv 2, iv 0, .unset] [(.int 0), (.ref a)]
  obtain ⟨cl1, Aq1, -, S1, M1, H1, -⟩ := id V_a
  have in1 : ¬ ((0 : Int32) < 0 ∨ cl1.slots.size ≤ (0 : Int32).toNatClampNeg) := inb_of S1 ⟨by decide, by decide⟩
  have at1 : cl1.slots[(0 : Int32).toNatClampNeg]? = some (.int c0_) := H1.at in1 rfl
  refine os (fun _ z => X0.caload hx (by rw [e0]; exact Aq1.1) (oia hZ Aq1.2.1) Aq1.2.2 in1 at1 (g := (mkF m 12 #[rv a, iv 0, rv b, iv 0, iv 2, iv 0, .unset] [(.int 0), (.ref a)])) rfl rfl (hb hby d5_12) _ z) ?_
  show OG p e below Φ s₁ m 13 #[rv a, iv 0, rv b, iv 0, iv 2, iv 0, .unset] [(.int c0_)]
  refine os (fun _ z => XS.istore X0.here hx rfl (hb hby d5_13) rfl (l' := #[rv a, iv 0, rv b, iv 0, iv 2, iv 0, iv c0_]) rfl z) ?_
  show OG p e below Φ s₁ m 15 #[rv a, iv 0, rv b, iv 0, iv 2, iv 0, iv c0_] []
  refine os (fun _ z => XS.iload X0.here hx rfl (hb hby d5_15) rfl z) ?_
  refine os (fun _ z => XS.sipush X0.here hx rfl (hb hby d5_17) z) ?_
  show OG p e below Φ s₁ m 20 #[rv a, iv 0, rv b, iv 0, iv 2, iv 0, iv c0_] [(.int 255), (.int c0_)]
  refine os (fun _ z => XS.icmpNo X0.here hx rfl (hb hby d5_20) rfl (XT.ii_le_f hb0) z) ?_
  show OG p e below Φ s₁ m 23 #[rv a, iv 0, rv b, iv 0, iv 2, iv 0, iv c0_] []
  refine os (fun _ z => XS.iload X0.here hx rfl (hb hby d5_23) rfl z) ?_
  refine OGo.fin X0 hlk (v := (some (.int 0))) (fun h => by rw [hret] at h; cases h) (by decide) (by decide) (fun fs hr => X0.ireturnOut hx hret rfl (by simp) (hb hby d5_25) hr) fun U eU hF => hΦ _ _ _ ?_ hF
  rw [eU, e0]
  show Q_rsb2_0c2 Z a ca b cb c0_ c1_ h0 n0 _ _ _
  exact ⟨rfl, N0, K0⟩

theorem ef_rsb2_0nl (m : MethodId) (x0 : Int32) : entryFrame m #[(.int x0)] 1 = mkF m 0 #[.val (.int x0)] [] := by first | (simp [entryFrame, mkF, argsToLocals, Value.category]; done) | rfl
def Q_rsb2_0nl (Z : State)  (h0 : Heap) (n0 : Nat) (v : Option Value) (h : Heap) (L : List Loc) : Prop := v = some (.int (4 : Int32)) ∧ Fr n0 L ∧ h = h0
set_option maxRecDepth 65536 in
set_option maxHeartbeats 40000000 in
theorem rsb2_0nl (l : Launch) (Z : State) (a0 : Array Value) (hw : ∀ d ∈ tables_1, d.before a0 Z = true) (ws : List Jvm.Cond)  (h0 : Heap) (n0 : Nat) (Z0 : n0 ≤ h0.size)  :
    OCon l Z (⟨"java/lang/StringUTF16", "newBytesLength", "(I)I"⟩ : MethodName) jdk_52_method_3_code 1 (some .int) ws ({ frames := 0, cells := 0, slots := 0, locals := 0 } : Room) #[(.int (2 : Int32))] h0 (Q_rsb2_0nl Z  h0 n0) := by
  refine OCon.of (plainFor_of_name pn1) ?_
  intro p e s m below meth c s₁ Φ X0 hx hby hml hown hnm hret hlk hZ e0 hΦ
  have N0 := Fr.nil n0
  refine os (fun _ z => castTop (ef_rsb2_0nl m (2 : Int32)) z) ?_
  show OG p e below Φ s₁ m 0 #[iv 2] []
  refine os (fun _ z => XS.iloadN X0.here hx rfl (hb hby d12_0) rfl z) ?_
  refine os (fun _ z => XS.ifYes X0.here hx rfl (pc0 := 1) (pc' := 12) rfl (hb hby d12_1) rfl (XT.i0_ge_t (by decide)) (by decide) (by decide) z) ?_
  show OG p e below Φ s₁ m 12 #[iv 2] []
  refine os (fun _ z => XS.iloadN X0.here hx rfl (hb hby d12_12) rfl z) ?_
  refine os (fun _ z => X0.ldcI hx hown (mvT hZ (ow61 hw)) rfl (hb hby d12_13) z) ?_
  show OG p e below Φ s₁ m 15 #[iv 2] [(.int 1073741823), (.int 2)]
  refine os (fun _ z => XS.icmpYes X0.here hx rfl (pc0 := 15) (pc' := 55) rfl (hb hby d12_15) rfl (XT.ii_lt_t (by decide)) (by decide) (by decide) z) ?_
  show OG p e below Φ s₁ m 55 #[iv 2] []
  refine os (fun _ z => XS.iloadN X0.here hx rfl (hb hby d12_55) rfl z) ?_
  refine os (fun _ z => XS.iconst X0.here hx rfl (hb hby d12_56) z) ?_
  show OG p e below Φ s₁ m 57 #[iv 2] [(.int 1), (.int 2)]
  refine os (fun _ z => XT.ishl X0.here hx rfl (hb hby d12_57) rfl z) ?_
  show OG p e below Φ s₁ m 58 #[iv 2] [(.int 4)]
  refine OGo.fin X0 hlk (v := (some (.int 4))) (fun h => by rw [hret] at h; cases h) (by decide) (by decide) (fun fs hr => X0.ireturnOut hx hret rfl (by simp) (hb hby d12_58) hr) fun U eU hF => hΦ _ _ _ ?_ hF
  rw [eU, e0]
  show Q_rsb2_0nl Z  h0 n0 _ _ _
  exact ⟨rfl, N0, rfl⟩

theorem ef_rsb2_0nf (m : MethodId) (x0 : Int32) : entryFrame m #[(.int x0)] 1 = mkF m 0 #[.val (.int x0)] [] := by first | (simp [entryFrame, mkF, argsToLocals, Value.category]; done) | rfl
def Q_rsb2_0nf (Z : State)  (h0 : Heap) (n0 : Nat) (v : Option Value) (h : Heap) (L : List Loc) : Prop := ∃ b cb, v = some (.ref b) ∧ Fr n0 L ∧ Keep h0 h [] ∧ Arv Z h b cb .byte (4 : Int32) [(.int (0 : Int32)), (.int (0 : Int32)), (.int (0 : Int32)), (.int (0 : Int32))] (.int (0 : Int32)) ∧ h0.size ≤ b
set_option maxRecDepth 65536 in
set_option maxHeartbeats 40000000 in
theorem rsb2_0nf (l : Launch) (Z : State) (a0 : Array Value) (hw : ∀ d ∈ tables_1, d.before a0 Z = true) (ws : List Jvm.Cond)  (h0 : Heap) (n0 : Nat) (Z0 : n0 ≤ h0.size)  :
    OCon l Z (⟨"java/lang/StringUTF16", "newBytesFor", "(I)[B"⟩ : MethodName) jdk_52_method_2_code 1 (some (.array .byte)) ws ({ frames := 1, cells := 1, slots := 4, locals := 12 } : Room) #[(.int (2 : Int32))] h0 (Q_rsb2_0nf Z  h0 n0) := by
  refine OCon.of (plainFor_of_name pn1) ?_
  intro p e s m below meth c s₁ Φ X0 hx hby hml hown hnm hret hlk hZ e0 hΦ
  have N0 := Fr.nil n0
  refine os (fun _ z => castTop (ef_rsb2_0nf m (2 : Int32)) z) ?_
  have K0 := Keep.refl h0 []
  show OG p e below Φ s₁ m 0 #[iv 2] []
  refine os (fun _ z => XS.iloadN X0.here hx rfl (hb hby d11_0) rfl z) ?_
  obtain ⟨_, T1, L1, X1, hQ1, st1⟩ := own_callSt X0 hx hZ hown (ow58 hw) (ow59 hw) (ow20 hw) (ow60 hw) (by decide) (rsb2_0nl l Z a0 hw []  h0 n0 Z0 ) e0 (W := 0) (by decide) (by decide) (by decide) (by decide) (pc := 1) (ls := #[iv 2]) (stk := [(.int 2)]) (by rw [hml]; rfl) (argsL := [(.int 2)]) (rest := []) (lenOf pd4 rfl) rfl rfl (Nat.le_of_eq rfl) (hb hby d11_1)
  obtain ⟨rfl, Nq1, e1⟩ := hQ1
  have N1 := Fr.app N0 Nq1
  refine os st1 ?_
  show OG p e below Φ T1 m 4 #[iv 2] [(.int 4)]
  obtain ⟨T2, h2, c2, X2, e2, E2, Ar2, st2⟩ := newP (aty := .byte) X1 hx hZ (ow1 hw) e1 (g := (mkF m 4 #[iv 2] [(.int 4)])) rfl (hb hby d11_4) rfl (by decide) (cap := 4) (by decide) (by decide) (by decide) (by decide)
  obtain ⟨b2, g2⟩ : ∃ z, z = h0.size := ⟨_, rfl⟩
  rw [← g2] at Ar2 st2
  have gb2 : n0 ≤ b2 := Nat.le_trans Z0 (Nat.le_of_eq g2.symm)
  have sz2 : h0.size ≤ b2 := Nat.le_trans K0.1 (Nat.le_of_eq g2.symm)
  have K2 := K0.ext E2
  have Zs2 : n0 ≤ h2.size := Nat.le_trans Z0 E2.1
  have V2 : Arv Z h2 b2 c2 .byte (4 : Int32) [(.int (0 : Int32)), (.int (0 : Int32)), (.int (0 : Int32)), (.int (0 : Int32))] (.int (0 : Int32)) := (Arv.new Ar2 (by decide)).pad (pad_rep [] _ 4)
  refine os st2 ?_
  show OG p e below Φ T2 m 6 #[iv 2] [(.ref b2)]
  refine OGo.fin X2 hlk (v := (some (.ref b2))) (fun h => by rw [hret] at h; cases h) (by decide) (by decide) (fun fs hr => X2.areturnOut hx rfl hret rfl (hb hby d11_6) hr) fun U eU hF => hΦ _ _ _ ?_ hF
  rw [eU, e2]
  show Q_rsb2_0nf Z  h0 n0 _ _ _
  exact ⟨_, _, rfl, N1, K2, V2, sz2⟩

theorem ef_rsb2_0pc0 (m : MethodId) (x0 : Addr) (x1 : Int32) (x2 : Int32) : entryFrame m #[(.ref x0), (.int x1), (.int x2)] 3 = mkF m 0 #[.val (.ref x0), .val (.int x1), .val (.int x2)] [] := by first | (simp [entryFrame, mkF, argsToLocals, Value.category]; done) | rfl
def Q_rsb2_0pc0 (Z : State) (b : Addr) (cb : ClassId) (c0_ : Int32) (c1_ : Int32) (h0 : Heap) (n0 : Nat) (v : Option Value) (h : Heap) (L : List Loc) : Prop := v = none ∧ Fr n0 L ∧ Keep h0 h [b] ∧ Arv Z h b cb .byte (4 : Int32) [(.int (ohb c0_)), (.int (olb c0_)), (.int (0 : Int32)), (.int (0 : Int32))] (.int (0 : Int32))
set_option maxRecDepth 65536 in
set_option maxHeartbeats 40000000 in
theorem rsb2_0pc0 (l : Launch) (Z : State) (a0 : Array Value) (hw : ∀ d ∈ tables_1, d.before a0 Z = true) (ws : List Jvm.Cond) (b : Addr) (cb : ClassId) (c0_ : Int32) (c1_ : Int32) (h0 : Heap) (n0 : Nat) (Z0 : n0 ≤ h0.size) (V_b : Arv Z h0 b cb .byte (4 : Int32) [(.int (0 : Int32)), (.int (0 : Int32)), (.int (0 : Int32)), (.int (0 : Int32))] (.int (0 : Int32))) (g_b : n0 ≤ b) (S_ad : Sta Z h0 "java/lang/StringUTF16" "$assertionsDisabled" "Z" (.int (1 : Int32))) (S_hb : Sta Z h0 "java/lang/StringUTF16" "HI_BYTE_SHIFT" "I" (.int (0 : Int32))) (S_lb : Sta Z h0 "java/lang/StringUTF16" "LO_BYTE_SHIFT" "I" (.int (8 : Int32))) :
    OCon l Z (⟨"java/lang/StringUTF16", "putChar", "([BII)V"⟩ : MethodName) jdk_52_method_4_code 3 none ws ({ frames := 0, cells := 0, slots := 0, locals := 0 } : Room) #[(.ref b), (.int (0 : Int32)), (.int c0_)] h0 (Q_rsb2_0pc0 Z b cb c0_ c1_ h0 n0) := by
  refine OCon.of (plainFor_of_name pn1) ?_
  intro p e s m below meth c s₁ Φ X0 hx hby hml hown hnm hret hlk hZ e0 hΦ
  have N0 := Fr.nil n0
  refine os (fun _ z => castTop (ef_rsb2_0pc0 m b (0 : Int32) c0_) z) ?_
  have K0 := Keep.refl h0 [b]
  show OG p e below Φ s₁ m 0 #[rv b, iv 0, iv c0_] []
  obtain ⟨T1, X1, e1, st1⟩ := getS2 X0 hx hZ hown (host := "") (Or.inl (ow65 hw)) Via.refl e0 S_ad (g := (mkF m 0 #[rv b, iv 0, iv c0_] [])) rfl (hb hby d13_0)
  refine os st1 ?_
  show OG p e below Φ T1 m 3 #[rv b, iv 0, iv c0_] [(.int 1)]
  refine os (fun _ z => XS.ifYes X1.here hx rfl (pc0 := 3) (pc' := 28) rfl (hb hby d13_3) rfl (XT.i0_ne_t (by decide)) (by decide) (by decide) z) ?_
  show OG p e below Φ T1 m 28 #[rv b, iv 0, iv c0_] []
  refine os (fun _ z => XS.iloadN X1.here hx rfl (hb hby d13_28) rfl z) ?_
  refine os (fun _ z => XS.iconst X1.here hx rfl (hb hby d13_29) z) ?_
  show OG p e below Φ T1 m 30 #[rv b, iv 0, iv c0_] [(.int 1), (.int 0)]
  refine os (fun _ z => XT.ishl X1.here hx rfl (hb hby d13_30) rfl z) ?_
  show OG p e below Φ T1 m 31 #[rv b, iv 0, iv c0_] [(.int 0)]
  refine os (fun _ z => XS.istoreN X1.here hx rfl (hb hby d13_31) rfl (l' := #[rv b, iv 0, iv c0_]) rfl z) ?_
  show OG p e below Φ T1 m 32 #[rv b, iv 0, iv c0_] []
  refine os (fun _ z => XS.aloadN X1.here hx rfl (hb hby d13_32) rfl rfl z) ?_
  refine os (fun _ z => XS.iloadN X1.here hx rfl (hb hby d13_33) rfl z) ?_
  show OG p e below Φ T1 m 34 #[rv b, iv 0, iv c0_] [(.int 0), (.ref b)]
  refine os (fun _ z => XS.iinc X1.here hx rfl (hb hby d13_34) rfl (l' := #[rv b, iv ((0 : Int32) + (1 : Int32)), iv c0_]) rfl z) ?_
  show OG p e below Φ T1 m 37 #[rv b, iv 1, iv c0_] [(.int 0), (.ref b)]
  refine os (fun _ z => XS.iloadN X1.here hx rfl (hb hby d13_37) rfl z) ?_
  obtain ⟨T2, X2, e2, st2⟩ := getS2 X1 hx hZ hown (host := "") (Or.inl (ow66 hw)) Via.refl e1 S_hb (g := (mkF m 38 #[rv b, iv 1, iv c0_] [(.int c0_), (.int 0), (.ref b)])) rfl (hb hby d13_38)
  refine os st2 ?_
  show OG p e below Φ T2 m 41 #[rv b, iv 1, iv c0_] [(.int 0), (.int c0_), (.int 0), (.ref b)]
  refine os (fun _ z => XT.ishr X2.here hx rfl (hb hby d13_41) rfl z) ?_
  show OG p e below Φ T2 m 42 #[rv b, iv 1, iv c0_] [(.int (c0_ >>> ((0 : Int32) &&& 31))), (.int 0), (.ref b)]
  refine os (fun _ z => XT.i2b X2.here hx rfl (hb hby d13_42) rfl z) ?_
  show OG p e below Φ T2 m 43 #[rv b, iv 1, iv c0_] [(.int ((c0_ >>> ((0 : Int32) &&& 31)).toInt8.toInt32)), (.int 0), (.ref b)]
  obtain ⟨cl3, Aq3, Cq3, S3, M3, H3, G3⟩ := id V_b
  have in3 : ¬ ((0 : Int32) < 0 ∨ cl3.slots.size ≤ (0 : Int32).toNatClampNeg) := inb_of S3 ⟨by decide, by decide⟩
  obtain ⟨T3, h3, X3, e3, W3, st3⟩ := stB X2 hx hZ e2 Aq3 in3 (g := (mkF m 43 #[rv b, iv 1, iv c0_] [(.int ((c0_ >>> ((0 : Int32) &&& 31)).toInt8.toInt32)), (.int 0), (.ref b)])) rfl rfl (hb hby d13_43)
  have W3 : Wr h0 h3 b (0 : Int32).toNatClampNeg (.int (nar .byte ((c0_ >>> ((0 : Int32) &&& 31)).toInt8.toInt32))) := W3
  have F4 := S_ad.wr W3
  have F5 := S_hb.wr W3
  have F6 := S_lb.wr W3
  have V3 : Arv Z h3 b cb .byte (4 : Int32) [(.int (nar .byte ((c0_ >>> ((0 : Int32) &&& 31)).toInt8.toInt32))), (.int (0 : Int32)), (.int (0 : Int32)), (.int (0 : Int32))] (.int (0 : Int32)) := Arv.set Aq3 Cq3 S3 M3 H3 G3 (fits_nar_byte _) W3 0 (by decide) (by show 0 < 4; decide)
  have K3 := K0.wr W3 (Or.inl (List.mem_of_getElem? (i := 0) rfl))
  have N3 := Fr.snoc X3 N0 g_b
  have Zs3 : n0 ≤ h3.size := by rw [W3.size]; exact Z0
  refine os st3 ?_
  show OG p e below Φ T3 m 44 #[rv b, iv 1, iv c0_] []
  refine os (fun _ z => XS.aloadN X3.here hx rfl (hb hby d13_44) rfl rfl z) ?_
  refine os (fun _ z => XS.iloadN X3.here hx rfl (hb hby d13_45) rfl z) ?_
  show OG p e below Φ T3 m 46 #[rv b, iv 1, iv c0_] [(.int 1), (.ref b)]
  refine os (fun _ z => XS.iloadN X3.here hx rfl (hb hby d13_46) rfl z) ?_
  obtain ⟨T7, X7, e7, st7⟩ := getS2 X3 hx hZ hown (host := "") (Or.inl (ow67 hw)) Via.refl e3 F6 (g := (mkF m 47 #[rv b, iv 1, iv c0_] [(.int c0_), (.int 1), (.ref b)])) rfl (hb hby d13_47)
  refine os st7 ?_
  show OG p e below Φ T7 m 50 #[rv b, iv 1, iv c0_] [(.int 8), (.int c0_), (.int 1), (.ref b)]
  refine os (fun _ z => XT.ishr X7.here hx rfl (hb hby d13_50) rfl z) ?_
  show OG p e below Φ T7 m 51 #[rv b, iv 1, iv c0_] [(.int (c0_ >>> ((8 : Int32) &&& 31))), (.int 1), (.ref b)]
  refine os (fun _ z => XT.i2b X7.here hx rfl (hb hby d13_51) rfl z) ?_
  show OG p e below Φ T7 m 52 #[rv b, iv 1, iv c0_] [(.int ((c0_ >>> ((8 : Int32) &&& 31)).toInt8.toInt32)), (.int 1), (.ref b)]
  obtain ⟨cl8, Aq8, Cq8, S8, M8, H8, G8⟩ := id V3
  have in8 : ¬ ((1 : Int32) < 0 ∨ cl8.slots.size ≤ (1 : Int32).toNatClampNeg) := inb_of S8 ⟨by decide, by decide⟩
  obtain ⟨T8, h8, X8, e8, W8, st8⟩ := stB X7 hx hZ e7 Aq8 in8 (g := (mkF m 52 #[rv b, iv 1, iv c0_] [(.int ((c0_ >>> ((8 : Int32) &&& 31)).toInt8.toInt32)), (.int 1), (.ref b)])) rfl rfl (hb hby d13_52)
  have W8 : Wr h3 h8 b (1 : Int32).toNatClampNeg (.int (nar .byte ((c0_ >>> ((8 : Int32) &&& 31)).toInt8.toInt32))) := W8
  have F9 := F4.wr W8
  have F10 := F5.wr W8
  have F11 := F6.wr W8
  have V8 : Arv Z h8 b cb .byte (4 : Int32) [(.int (nar .byte ((c0_ >>> ((0 : Int32) &&& 31)).toInt8.toInt32))), (.int (nar .byte ((c0_ >>> ((8 : Int32) &&& 31)).toInt8.toInt32))), (.int (0 : Int32)), (.int (0 : Int32))] (.int (0 : Int32)) := Arv.set Aq8 Cq8 S8 M8 H8 G8 (fits_nar_byte _) W8 1 (by decide) (by show 1 < 4; decide)
  have K8 := K3.wr W8 (Or.inl (List.mem_of_getElem? (i := 0) rfl))
  have N8 := Fr.snoc X8 N3 g_b
  have Zs8 : n0 ≤ h8.size := by rw [W8.size]; exact Zs3
  refine os st8 ?_
  show OG p e below Φ T8 m 53 #[rv b, iv 1, iv c0_] []
  refine OGo.fin X8 hlk (v := none) (fun _ => rfl) (by decide) (by decide) (fun fs hr => X8.returnOut hx hret (hb hby d13_53) hr) fun U eU hF => hΦ _ _ _ ?_ hF
  rw [eU, e8]
  show Q_rsb2_0pc0 Z b cb c0_ c1_ h0 n0 _ _ _
  exact ⟨rfl, N8, K8, V8⟩

theorem ef_rsb2_0pc1 (m : MethodId) (x0 : Addr) (x1 : Int32) (x2 : Int32) : entryFrame m #[(.ref x0), (.int x1), (.int x2)] 3 = mkF m 0 #[.val (.ref x0), .val (.int x1), .val (.int x2)] [] := by first | (simp [entryFrame, mkF, argsToLocals, Value.category]; done) | rfl
def Q_rsb2_0pc1 (Z : State) (b : Addr) (cb : ClassId) (c0_ : Int32) (c1_ : Int32) (h0 : Heap) (n0 : Nat) (v : Option Value) (h : Heap) (L : List Loc) : Prop := v = none ∧ Fr n0 L ∧ Keep h0 h [b] ∧ Arv Z h b cb .byte (4 : Int32) [(.int (ohb c0_)), (.int (olb c0_)), (.int (ohb c1_)), (.int (olb c1_))] (.int (0 : Int32))
set_option maxRecDepth 65536 in
set_option maxHeartbeats 40000000 in
theorem rsb2_0pc1 (l : Launch) (Z : State) (a0 : Array Value) (hw : ∀ d ∈ tables_1, d.before a0 Z = true) (ws : List Jvm.Cond) (b : Addr) (cb : ClassId) (c0_ : Int32) (c1_ : Int32) (h0 : Heap) (n0 : Nat) (Z0 : n0 ≤ h0.size) (V_b : Arv Z h0 b cb .byte (4 : Int32) [(.int (ohb c0_)), (.int (olb c0_)), (.int (0 : Int32)), (.int (0 : Int32))] (.int (0 : Int32))) (g_b : n0 ≤ b) (S_ad : Sta Z h0 "java/lang/StringUTF16" "$assertionsDisabled" "Z" (.int (1 : Int32))) (S_hb : Sta Z h0 "java/lang/StringUTF16" "HI_BYTE_SHIFT" "I" (.int (0 : Int32))) (S_lb : Sta Z h0 "java/lang/StringUTF16" "LO_BYTE_SHIFT" "I" (.int (8 : Int32))) :
    OCon l Z (⟨"java/lang/StringUTF16", "putChar", "([BII)V"⟩ : MethodName) jdk_52_method_4_code 3 none ws ({ frames := 0, cells := 0, slots := 0, locals := 0 } : Room) #[(.ref b), (.int (1 : Int32)), (.int c1_)] h0 (Q_rsb2_0pc1 Z b cb c0_ c1_ h0 n0) := by
  refine OCon.of (plainFor_of_name pn1) ?_
  intro p e s m below meth c s₁ Φ X0 hx hby hml hown hnm hret hlk hZ e0 hΦ
  have N0 := Fr.nil n0
  refine os (fun _ z => castTop (ef_rsb2_0pc1 m b (1 : Int32) c1_) z) ?_
  have K0 := Keep.refl h0 [b]
  show OG p e below Φ s₁ m 0 #[rv b, iv 1, iv c1_] []
  obtain ⟨T1, X1, e1, st1⟩ := getS2 X0 hx hZ hown (host := "") (Or.inl (ow65 hw)) Via.refl e0 S_ad (g := (mkF m 0 #[rv b, iv 1, iv c1_] [])) rfl (hb hby d13_0)
  refine os st1 ?_
  show OG p e below Φ T1 m 3 #[rv b, iv 1, iv c1_] [(.int 1)]
  refine os (fun _ z => XS.ifYes X1.here hx rfl (pc0 := 3) (pc' := 28) rfl (hb hby d13_3) rfl (XT.i0_ne_t (by decide)) (by decide) (by decide) z) ?_
  show OG p e below Φ T1 m 28 #[rv b, iv 1, iv c1_] []
  refine os (fun _ z => XS.iloadN X1.here hx rfl (hb hby d13_28) rfl z) ?_
  refine os (fun _ z => XS.iconst X1.here hx rfl (hb hby d13_29) z) ?_
  show OG p e below Φ T1 m 30 #[rv b, iv 1, iv c1_] [(.int 1), (.int 1)]
  refine os (fun _ z => XT.ishl X1.here hx rfl (hb hby d13_30) rfl z) ?_
  show OG p e below Φ T1 m 31 #[rv b, iv 1, iv c1_] [(.int 2)]
  refine os (fun _ z => XS.istoreN X1.here hx rfl (hb hby d13_31) rfl (l' := #[rv b, iv 2, iv c1_]) rfl z) ?_
  show OG p e below Φ T1 m 32 #[rv b, iv 2, iv c1_] []
  refine os (fun _ z => XS.aloadN X1.here hx rfl (hb hby d13_32) rfl rfl z) ?_
  refine os (fun _ z => XS.iloadN X1.here hx rfl (hb hby d13_33) rfl z) ?_
  show OG p e below Φ T1 m 34 #[rv b, iv 2, iv c1_] [(.int 2), (.ref b)]
  refine os (fun _ z => XS.iinc X1.here hx rfl (hb hby d13_34) rfl (l' := #[rv b, iv ((2 : Int32) + (1 : Int32)), iv c1_]) rfl z) ?_
  show OG p e below Φ T1 m 37 #[rv b, iv 3, iv c1_] [(.int 2), (.ref b)]
  refine os (fun _ z => XS.iloadN X1.here hx rfl (hb hby d13_37) rfl z) ?_
  obtain ⟨T2, X2, e2, st2⟩ := getS2 X1 hx hZ hown (host := "") (Or.inl (ow66 hw)) Via.refl e1 S_hb (g := (mkF m 38 #[rv b, iv 3, iv c1_] [(.int c1_), (.int 2), (.ref b)])) rfl (hb hby d13_38)
  refine os st2 ?_
  show OG p e below Φ T2 m 41 #[rv b, iv 3, iv c1_] [(.int 0), (.int c1_), (.int 2), (.ref b)]
  refine os (fun _ z => XT.ishr X2.here hx rfl (hb hby d13_41) rfl z) ?_
  show OG p e below Φ T2 m 42 #[rv b, iv 3, iv c1_] [(.int (c1_ >>> ((0 : Int32) &&& 31))), (.int 2), (.ref b)]
  refine os (fun _ z => XT.i2b X2.here hx rfl (hb hby d13_42) rfl z) ?_
  show OG p e below Φ T2 m 43 #[rv b, iv 3, iv c1_] [(.int ((c1_ >>> ((0 : Int32) &&& 31)).toInt8.toInt32)), (.int 2), (.ref b)]
  obtain ⟨cl3, Aq3, Cq3, S3, M3, H3, G3⟩ := id V_b
  have in3 : ¬ ((2 : Int32) < 0 ∨ cl3.slots.size ≤ (2 : Int32).toNatClampNeg) := inb_of S3 ⟨by decide, by decide⟩
  obtain ⟨T3, h3, X3, e3, W3, st3⟩ := stB X2 hx hZ e2 Aq3 in3 (g := (mkF m 43 #[rv b, iv 3, iv c1_] [(.int ((c1_ >>> ((0 : Int32) &&& 31)).toInt8.toInt32)), (.int 2), (.ref b)])) rfl rfl (hb hby d13_43)
  have W3 : Wr h0 h3 b (2 : Int32).toNatClampNeg (.int (nar .byte ((c1_ >>> ((0 : Int32) &&& 31)).toInt8.toInt32))) := W3
  have F4 := S_ad.wr W3
  have F5 := S_hb.wr W3
  have F6 := S_lb.wr W3
  have V3 : Arv Z h3 b cb .byte (4 : Int32) [(.int (ohb c0_)), (.int (olb c0_)), (.int (nar .byte ((c1_ >>> ((0 : Int32) &&& 31)).toInt8.toInt32))), (.int (0 : Int32))] (.int (0 : Int32)) := Arv.set Aq3 Cq3 S3 M3 H3 G3 (fits_nar_byte _) W3 2 (by decide) (by show 2 < 4; decide)
  have K3 := K0.wr W3 (Or.inl (List.mem_of_getElem? (i := 0) rfl))
  have N3 := Fr.snoc X3 N0 g_b
  have Zs3 : n0 ≤ h3.size := by rw [W3.size]; exact Z0
  refine os st3 ?_
  show OG p e below Φ T3 m 44 #[rv b, iv 3, iv c1_] []
  refine os (fun _ z => XS.aloadN X3.here hx rfl (hb hby d13_44) rfl rfl z) ?_
  refine os (fun _ z => XS.iloadN X3.here hx rfl (hb hby d13_45) rfl z) ?_
  show OG p e below Φ T3 m 46 #[rv b, iv 3, iv c1_] [(.int 3), (.ref b)]
  refine os (fun _ z => XS.iloadN X3.here hx rfl (hb hby d13_46) rfl z) ?_
  obtain ⟨T7, X7, e7, st7⟩ := getS2 X3 hx hZ hown (host := "") (Or.inl (ow67 hw)) Via.refl e3 F6 (g := (mkF m 47 #[rv b, iv 3, iv c1_] [(.int c1_), (.int 3), (.ref b)])) rfl (hb hby d13_47)
  refine os st7 ?_
  show OG p e below Φ T7 m 50 #[rv b, iv 3, iv c1_] [(.int 8), (.int c1_), (.int 3), (.ref b)]
  refine os (fun _ z => XT.ishr X7.here hx rfl (hb hby d13_50) rfl z) ?_
  show OG p e below Φ T7 m 51 #[rv b, iv 3, iv c1_] [(.int (c1_ >>> ((8 : Int32) &&& 31))), (.int 3), (.ref b)]
  refine os (fun _ z => XT.i2b X7.here hx rfl (hb hby d13_51) rfl z) ?_
  show OG p e below Φ T7 m 52 #[rv b, iv 3, iv c1_] [(.int ((c1_ >>> ((8 : Int32) &&& 31)).toInt8.toInt32)), (.int 3), (.ref b)]
  obtain ⟨cl8, Aq8, Cq8, S8, M8, H8, G8⟩ := id V3
  have in8 : ¬ ((3 : Int32) < 0 ∨ cl8.slots.size ≤ (3 : Int32).toNatClampNeg) := inb_of S8 ⟨by decide, by decide⟩
  obtain ⟨T8, h8, X8, e8, W8, st8⟩ := stB X7 hx hZ e7 Aq8 in8 (g := (mkF m 52 #[rv b, iv 3, iv c1_] [(.int ((c1_ >>> ((8 : Int32) &&& 31)).toInt8.toInt32)), (.int 3), (.ref b)])) rfl rfl (hb hby d13_52)
  have W8 : Wr h3 h8 b (3 : Int32).toNatClampNeg (.int (nar .byte ((c1_ >>> ((8 : Int32) &&& 31)).toInt8.toInt32))) := W8
  have F9 := F4.wr W8
  have F10 := F5.wr W8
  have F11 := F6.wr W8
  have V8 : Arv Z h8 b cb .byte (4 : Int32) [(.int (ohb c0_)), (.int (olb c0_)), (.int (nar .byte ((c1_ >>> ((0 : Int32) &&& 31)).toInt8.toInt32))), (.int (nar .byte ((c1_ >>> ((8 : Int32) &&& 31)).toInt8.toInt32)))] (.int (0 : Int32)) := Arv.set Aq8 Cq8 S8 M8 H8 G8 (fits_nar_byte _) W8 3 (by decide) (by show 3 < 4; decide)
  have K8 := K3.wr W8 (Or.inl (List.mem_of_getElem? (i := 0) rfl))
  have N8 := Fr.snoc X8 N3 g_b
  have Zs8 : n0 ≤ h8.size := by rw [W8.size]; exact Zs3
  refine os st8 ?_
  show OG p e below Φ T8 m 53 #[rv b, iv 3, iv c1_] []
  refine OGo.fin X8 hlk (v := none) (fun _ => rfl) (by decide) (by decide) (fun fs hr => X8.returnOut hx hret (hb hby d13_53) hr) fun U eU hF => hΦ _ _ _ ?_ hF
  rw [eU, e8]
  show Q_rsb2_0pc1 Z b cb c0_ c1_ h0 n0 _ _ _
  exact ⟨rfl, N8, K8, V8⟩

theorem ef_rsb2_0tb (m : MethodId) (x0 : Addr) (x1 : Int32) (x2 : Int32) : entryFrame m #[(.ref x0), (.int x1), (.int x2)] 5 = mkF m 0 #[.val (.ref x0), .val (.int x1), .val (.int x2), .unset, .unset] [] := by first | (simp [entryFrame, mkF, argsToLocals, Value.category]; done) | rfl
def Q_rsb2_0tb (Z : State) (a : Addr) (ca : ClassId) (c0_ : Int32) (c1_ : Int32) (h0 : Heap) (n0 : Nat) (v : Option Value) (h : Heap) (L : List Loc) : Prop := ∃ b cb, v = some (.ref b) ∧ Fr n0 L ∧ Keep h0 h [] ∧ Arv Z h b cb .byte (4 : Int32) [(.int (ohb c0_)), (.int (olb c0_)), (.int (ohb c1_)), (.int (olb c1_))] (.int (0 : Int32)) ∧ h0.size ≤ b
set_option maxRecDepth 65536 in
set_option maxHeartbeats 40000000 in
theorem rsb2_0tb (l : Launch) (Z : State) (a0 : Array Value) (hw : ∀ d ∈ tables_1, d.before a0 Z = true) (ws : List Jvm.Cond) (a : Addr) (ca : ClassId) (c0_ : Int32) (c1_ : Int32) (h0 : Heap) (n0 : Nat) (Z0 : n0 ≤ h0.size) (V_a : Arv Z h0 a ca .char (2 : Int32) [(.int c0_), (.int c1_)] (.int (0 : Int32))) (O_0 : Old Z n0 h0) (S_ad : Sta Z Z.heap "java/lang/StringUTF16" "$assertionsDisabled" "Z" (.int (1 : Int32))) (S_hb : Sta Z Z.heap "java/lang/StringUTF16" "HI_BYTE_SHIFT" "I" (.int (0 : Int32))) (S_lb : Sta Z Z.heap "java/lang/StringUTF16" "LO_BYTE_SHIFT" "I" (.int (8 : Int32))) :
    OCon l Z (⟨"java/lang/StringUTF16", "toBytes", "([CII)[B"⟩ : MethodName) jdk_52_method_14_code 5 (some (.array .byte)) ws ({ frames := 2, cells := 1, slots := 4, locals := 24 } : Room) #[(.ref a), (.int (0 : Int32)), (.int (2 : Int32))] h0 (Q_rsb2_0tb Z a ca c0_ c1_ h0 n0) := by
  refine OCon.of (plainFor_of_name pn1) ?_
  intro p e s m below meth c s₁ Φ X0 hx hby hml hown hnm hret hlk hZ e0 hΦ
  have N0 := Fr.nil n0
  refine os (fun _ z => castTop (ef_rsb2_0tb m a (0 : Int32) (2 : Int32)) z) ?_
  have K0 := Keep.refl h0 []
  show OG p e below Φ s₁ m 0 #[rv a, iv 0, iv 2, .unset, .unset] []
  refine os (fun _ z => XS.iloadN X0.here hx rfl (hb hby d10_0) rfl z) ?_
  obtain ⟨_, T1, L1, X1, hQ1, st1⟩ := own_callSt X0 hx hZ hown (ow55 hw) (ow56 hw) (ow20 hw) (ow57 hw) (by decide) (rsb2_0nf l Z a0 hw []  h0 n0 Z0 ) e0 (W := 0) (by decide) (by decide) (by decide) (by decide) (pc := 1) (ls := #[rv a, iv 0, iv 2, .unset, .unset]) (stk := [(.int 2)]) (by rw [hml]; rfl) (argsL := [(.int 2)]) (rest := []) (lenOf pd5 rfl) rfl rfl (Nat.le_of_eq rfl) (hb hby d10_1)
  obtain ⟨b1, cb1, rfl, Nq1, Kq1, Vq1, hz1⟩ := hQ1
  have nq1_a : a ≠ b1 := Nat.ne_of_lt (Nat.lt_of_lt_of_le V_a.lt hz1)
  have gq1 : n0 ≤ b1 := Nat.le_trans Z0 hz1
  have sq1 : h0.size ≤ b1 := Nat.le_trans K0.1 hz1
  have N1 := Fr.app N0 Nq1
  have Zs1 : n0 ≤ T1.heap.size := Nat.le_trans Z0 Kq1.1
  have F2 := V_a.keep Kq1 nin0
  have F3 := O_0.keep Kq1 all0
  have K1 := K0.trans Kq1 all0
  refine os st1 ?_
  show OG p e below Φ T1 m 4 #[rv a, iv 0, iv 2, .unset, .unset] [(.ref b1)]
  refine os (fun _ z => XS.astoreN X1.here hx rfl (hb hby d10_4) rfl rfl (l' := #[rv a, iv 0, iv 2, rv b1, .unset]) rfl z) ?_
  show OG p e below Φ T1 m 5 #[rv a, iv 0, iv 2, rv b1, .unset] []
  refine os (fun _ z => XS.iconst X1.here hx rfl (hb hby d10_5) z) ?_
  refine os (fun _ z => XS.istore X1.here hx rfl (hb hby d10_6) rfl (l' := #[rv a, iv 0, iv 2, rv b1, iv 0]) rfl z) ?_
  show OG p e below Φ T1 m 8 #[rv a, iv 0, iv 2, rv b1, iv 0] []
  refine os (fun _ z => XS.iload X1.here hx rfl (hb hby d10_8) rfl z) ?_
  refine os (fun _ z => XS.iloadN X1.here hx rfl (hb hby d10_10) rfl z) ?_
  show OG p e below Φ T1 m 11 #[rv a, iv 0, iv 2, rv b1, iv 0] [(.int 2), (.int 0)]
  refine os (fun _ z => XS.icmpNo X1.here hx rfl (hb hby d10_11) rfl (XT.ii_ge_f (by decide)) z) ?_
  show OG p e below Φ T1 m 14 #[rv a, iv 0, iv 2, rv b1, iv 0] []
  refine os (fun _ z => XS.aloadN X1.here hx rfl (hb hby d10_14) rfl rfl z) ?_
  refine os (fun _ z => XS.iload X1.here hx rfl (hb hby d10_15) rfl z) ?_
  show OG p e below Φ T1 m 17 #[rv a, iv 0, iv 2, rv b1, iv 0] [(.int 0), (.ref b1)]
  refine os (fun _ z => XS.aloadN X1.here hx rfl (hb hby d10_17) rfl rfl z) ?_
  refine os (fun _ z => XS.iloadN X1.here hx rfl (hb hby d10_18) rfl z) ?_
  show OG p e below Φ T1 m 19 #[rv a, iv 0, iv 2, rv b1, iv 0] [(.int 0), (.ref a), (.int 0), (.ref b1)]
  obtain ⟨cl4, Aq4, -, S4, M4, H4, -⟩ := id F2
  have in4 : ¬ ((0 : Int32) < 0 ∨ cl4.slots.size ≤ (0 : Int32).toNatClampNeg) := inb_of S4 ⟨by decide, by decide⟩
  have at4 : cl4.slots[(0 : Int32).toNatClampNeg]? = some (.int c0_) := H4.at in4 rfl
  refine os (fun _ z => X1.caload hx Aq4.1 (oia hZ Aq4.2.1) Aq4.2.2 in4 at4 (g := (mkF m 19 #[rv a, iv 0, iv 2, rv b1, iv 0] [(.int 0), (.ref a), (.int 0), (.ref b1)])) rfl rfl (hb hby d10_19) _ z) ?_
  show OG p e below Φ T1 m 20 #[rv a, iv 0, iv 2, rv b1, iv 0] [(.int c0_), (.int 0), (.ref b1)]
  obtain ⟨_, T5, L5, X5, hQ5, st5⟩ := own_callSt X1 hx hZ hown (ow62 hw) (ow63 hw) (ow20 hw) (ow64 hw) (by decide) (rsb2_0pc0 l Z a0 hw [] b1 cb1 c0_ c1_ T1.heap n0 Zs1 Vq1 gq1 (S_ad.ext F3.2) (S_hb.ext F3.2) (S_lb.ext F3.2)) rfl (W := 0) (by decide) (by decide) (by decide) (by decide) (pc := 20) (ls := #[rv a, iv 0, iv 2, rv b1, iv 0]) (stk := [(.int c0_), (.int 0), (.ref b1)]) (by rw [hml]; rfl) (argsL := [(.ref b1), (.int 0), (.int c0_)]) (rest := []) (lenOf pd6 rfl) rfl rfl (Nat.le_of_eq rfl) (hb hby d10_20)
  obtain ⟨rfl, Nq5, Kq5, Vq5⟩ := hQ5
  have N5 := Fr.app N1 Nq5
  have Zs5 : n0 ≤ T5.heap.size := Nat.le_trans Zs1 Kq5.1
  have F6 := F2.keep Kq5 (ninS nq1_a nin0)
  have F7 := F3.keep Kq5 (allS gq1 all0)
  have K5 := K1.trans Kq5 (allS (Or.inr sq1) all0)
  refine os st5 ?_
  show OG p e below Φ T5 m 23 #[rv a, iv 0, iv 2, rv b1, iv 0] []
  refine os (fun _ z => XS.iinc X5.here hx rfl (hb hby d10_23) rfl (l' := #[rv a, iv ((0 : Int32) + (1 : Int32)), iv 2, rv b1, iv 0]) rfl z) ?_
  show OG p e below Φ T5 m 26 #[rv a, iv 1, iv 2, rv b1, iv 0] []
  refine os (fun _ z => XS.iinc X5.here hx rfl (hb hby d10_26) rfl (l' := #[rv a, iv 1, iv 2, rv b1, iv ((0 : Int32) + (1 : Int32))]) rfl z) ?_
  show OG p e below Φ T5 m 29 #[rv a, iv 1, iv 2, rv b1, iv 1] []
  refine os (fun _ z => XS.goto X5.here hx rfl (pc0 := 29) (pc' := 8) rfl (hb hby d10_29) (by decide) (by decide) z) ?_
  show OG p e below Φ T5 m 8 #[rv a, iv 1, iv 2, rv b1, iv 1] []
  refine os (fun _ z => XS.iload X5.here hx rfl (hb hby d10_8) rfl z) ?_
  refine os (fun _ z => XS.iloadN X5.here hx rfl (hb hby d10_10) rfl z) ?_
  show OG p e below Φ T5 m 11 #[rv a, iv 1, iv 2, rv b1, iv 1] [(.int 2), (.int 1)]
  refine os (fun _ z => XS.icmpNo X5.here hx rfl (hb hby d10_11) rfl (XT.ii_ge_f (by decide)) z) ?_
  show OG p e below Φ T5 m 14 #[rv a, iv 1, iv 2, rv b1, iv 1] []
  refine os (fun _ z => XS.aloadN X5.here hx rfl (hb hby d10_14) rfl rfl z) ?_
  refine os (fun _ z => XS.iload X5.here hx rfl (hb hby d10_15) rfl z) ?_
  show OG p e below Φ T5 m 17 #[rv a, iv 1, iv 2, rv b1, iv 1] [(.int 1), (.ref b1)]
  refine os (fun _ z => XS.aloadN X5.here hx rfl (hb hby d10_17) rfl rfl z) ?_
  refine os (fun _ z => XS.iloadN X5.here hx rfl (hb hby d10_18) rfl z) ?_
  show OG p e below Φ T5 m 19 #[rv a, iv 1, iv 2, rv b1, iv 1] [(.int 1), (.ref a), (.int 1), (.ref b1)]
  obtain ⟨cl8, Aq8, -, S8, M8, H8, -⟩ := id F6
  have in8 : ¬ ((1 : Int32) < 0 ∨ cl8.slots.size ≤ (1 : Int32).toNatClampNeg) := inb_of S8 ⟨by decide, by decide⟩
  have at8 : cl8.slots[(1 : Int32).toNatClampNeg]? = some (.int c1_) := H8.at in8 rfl
  refine os (fun _ z => X5.caload hx Aq8.1 (oia hZ Aq8.2.1) Aq8.2.2 in8 at8 (g := (mkF m 19 #[rv a, iv 1, iv 2, rv b1, iv 1] [(.int 1), (.ref a), (.int 1), (.ref b1)])) rfl rfl (hb hby d10_19) _ z) ?_
  show OG p e below Φ T5 m 20 #[rv a, iv 1, iv 2, rv b1, iv 1] [(.int c1_), (.int 1), (.ref b1)]
  obtain ⟨_, T9, L9, X9, hQ9, st9⟩ := own_callSt X5 hx hZ hown (ow62 hw) (ow63 hw) (ow20 hw) (ow64 hw) (by decide) (rsb2_0pc1 l Z a0 hw [] b1 cb1 c0_ c1_ T5.heap n0 Zs5 Vq5 gq1 (S_ad.ext F7.2) (S_hb.ext F7.2) (S_lb.ext F7.2)) rfl (W := 0) (by decide) (by decide) (by decide) (by decide) (pc := 20) (ls := #[rv a, iv 1, iv 2, rv b1, iv 1]) (stk := [(.int c1_), (.int 1), (.ref b1)]) (by rw [hml]; rfl) (argsL := [(.ref b1), (.int 1), (.int c1_)]) (rest := []) (lenOf pd6 rfl) rfl rfl (Nat.le_of_eq rfl) (hb hby d10_20)
  obtain ⟨rfl, Nq9, Kq9, Vq9⟩ := hQ9
  have N9 := Fr.app N5 Nq9
  have Zs9 : n0 ≤ T9.heap.size := Nat.le_trans Zs5 Kq9.1
  have F10 := F6.keep Kq9 (ninS nq1_a nin0)
  have F11 := F7.keep Kq9 (allS gq1 all0)
  have K9 := K5.trans Kq9 (allS (Or.inr sq1) all0)
  refine os st9 ?_
  show OG p e below Φ T9 m 23 #[rv a, iv 1, iv 2, rv b1, iv 1] []
  refine os (fun _ z => XS.iinc X9.here hx rfl (hb hby d10_23) rfl (l' := #[rv a, iv ((1 : Int32) + (1 : Int32)), iv 2, rv b1, iv 1]) rfl z) ?_
  show OG p e below Φ T9 m 26 #[rv a, iv 2, iv 2, rv b1, iv 1] []
  refine os (fun _ z => XS.iinc X9.here hx rfl (hb hby d10_26) rfl (l' := #[rv a, iv 2, iv 2, rv b1, iv ((1 : Int32) + (1 : Int32))]) rfl z) ?_
  show OG p e below Φ T9 m 29 #[rv a, iv 2, iv 2, rv b1, iv 2] []
  refine os (fun _ z => XS.goto X9.here hx rfl (pc0 := 29) (pc' := 8) rfl (hb hby d10_29) (by decide) (by decide) z) ?_
  show OG p e below Φ T9 m 8 #[rv a, iv 2, iv 2, rv b1, iv 2] []
  refine os (fun _ z => XS.iload X9.here hx rfl (hb hby d10_8) rfl z) ?_
  refine os (fun _ z => XS.iloadN X9.here hx rfl (hb hby d10_10) rfl z) ?_
  show OG p e below Φ T9 m 11 #[rv a, iv 2, iv 2, rv b1, iv 2] [(.int 2), (.int 2)]
  refine os (fun _ z => XS.icmpYes X9.here hx rfl (pc0 := 11) (pc' := 32) rfl (hb hby d10_11) rfl (XT.ii_ge_t (by decide)) (by decide) (by decide) z) ?_
  show OG p e below Φ T9 m 32 #[rv a, iv 2, iv 2, rv b1, iv 2] []
  refine os (fun _ z => XS.aloadN X9.here hx rfl (hb hby d10_32) rfl rfl z) ?_
  refine OGo.fin X9 hlk (v := (some (.ref b1))) (fun h => by rw [hret] at h; cases h) (by decide) (by decide) (fun fs hr => X9.areturnOut hx rfl hret rfl (hb hby d10_33) hr) fun U eU hF => hΦ _ _ _ ?_ hF
  rw [eU]
  show Q_rsb2_0tb Z a ca c0_ c1_ h0 n0 _ _ _
  exact ⟨_, _, rfl, N9, K9, Vq9, sq1⟩

theorem ef_rsb2_0gc (m : MethodId) (x0 : Addr) (x1 : Int32) : entryFrame m #[(.ref x0), (.int x1)] 2 = mkF m 0 #[.val (.ref x0), .val (.int x1)] [] := by first | (simp [entryFrame, mkF, argsToLocals, Value.category]; done) | rfl
def Q_rsb2_0gc (Z : State) (b : Addr) (cb : ClassId) (c0_ : Int32) (c1_ : Int32) (h0 : Heap) (n0 : Nat) (v : Option Value) (h : Heap) (L : List Loc) : Prop := v = some (.int c0_) ∧ Fr n0 L ∧ h = h0
set_option maxRecDepth 65536 in
set_option maxHeartbeats 40000000 in
theorem rsb2_0gc (l : Launch) (Z : State) (a0 : Array Value) (hw : ∀ d ∈ tables_1, d.before a0 Z = true) (ws : List Jvm.Cond) (b : Addr) (cb : ClassId) (c0_ : Int32) (c1_ : Int32) (h0 : Heap) (n0 : Nat) (Z0 : n0 ≤ h0.size) (V_b : Arv Z h0 b cb .byte (4 : Int32) [(.int (ohb c0_)), (.int (olb c0_)), (.int (ohb c1_)), (.int (olb c1_))] (.int (0 : Int32))) (S_ad : Sta Z h0 "java/lang/StringUTF16" "$assertionsDisabled" "Z" (.int (1 : Int32))) (S_hb : Sta Z h0 "java/lang/StringUTF16" "HI_BYTE_SHIFT" "I" (.int (0 : Int32))) (S_lb : Sta Z h0 "java/lang/StringUTF16" "LO_BYTE_SHIFT" "I" (.int (8 : Int32))) (hr0 : nar .char c0_ = c0_) :
    OCon l Z (⟨"java/lang/StringUTF16", "getChar", "([BI)C"⟩ : MethodName) jdk_52_method_5_code 2 (some .char) ws ({ frames := 0, cells := 0, slots := 0, locals := 0 } : Room) #[(.ref b), (.int (0 : Int32))] h0 (Q_rsb2_0gc Z b cb c0_ c1_ h0 n0) := by
  refine OCon.of (plainFor_of_name pn1) ?_
  intro p e s m below meth c s₁ Φ X0 hx hby hml hown hnm hret hlk hZ e0 hΦ
  have N0 := Fr.nil n0
  refine os (fun _ z => castTop (ef_rsb2_0gc m b (0 : Int32)) z) ?_
  show OG p e below Φ s₁ m 0 #[rv b, iv 0] []
  obtain ⟨T1, X1, e1, st1⟩ := getS2 X0 hx hZ hown (host := "") (Or.inl (ow65 hw)) Via.refl e0 S_ad (g := (mkF m 0 #[rv b, iv 0] [])) rfl (hb hby d14_0)
  refine os st1 ?_
  show OG p e below Φ T1 m 3 #[rv b, iv 0] [(.int 1)]
  refine os (fun _ z => XS.ifYes X1.here hx rfl (pc0 := 3) (pc' := 28) rfl (hb hby d14_3) rfl (XT.i0_ne_t (by decide)) (by decide) (by decide) z) ?_
  show OG p e below Φ T1 m 28 #[rv b, iv 0] []
  refine os (fun _ z => XS.iloadN X1.here hx rfl (hb hby d14_28) rfl z) ?_
  refine os (fun _ z => XS.iconst X1.here hx rfl (hb hby d14_29) z) ?_
  show OG p e below Φ T1 m 30 #[rv b, iv 0] [(.int 1), (.int 0)]
  refine os (fun _ z => XT.ishl X1.here hx rfl (hb hby d14_30) rfl z) ?_
  show OG p e below Φ T1 m 31 #[rv b, iv 0] [(.int 0)]
  refine os (fun _ z => XS.istoreN X1.here hx rfl (hb hby d14_31) rfl (l' := #[rv b, iv 0]) rfl z) ?_
  show OG p e below Φ T1 m 32 #[rv b, iv 0] []
  refine os (fun _ z => XS.aloadN X1.here hx rfl (hb hby d14_32) rfl rfl z) ?_
  refine os (fun _ z => XS.iloadN X1.here hx rfl (hb hby d14_33) rfl z) ?_
  show OG p e below Φ T1 m 34 #[rv b, iv 0] [(.int 0), (.ref b)]
  refine os (fun _ z => XS.iinc X1.here hx rfl (hb hby d14_34) rfl (l' := #[rv b, iv ((0 : Int32) + (1 : Int32))]) rfl z) ?_
  show OG p e below Φ T1 m 37 #[rv b, iv 1] [(.int 0), (.ref b)]
  obtain ⟨cl2, Aq2, -, S2, M2, H2, -⟩ := id V_b
  have in2 : ¬ ((0 : Int32) < 0 ∨ cl2.slots.size ≤ (0 : Int32).toNatClampNeg) := inb_of S2 ⟨by decide, by decide⟩
  have at2 : cl2.slots[(0 : Int32).toNatClampNeg]? = some (.int (ohb c0_)) := H2.at in2 rfl
  refine os (fun _ z => X1.baloadBytes hx (by rw [e1]; exact Aq2.1) (oia hZ Aq2.2.1) Aq2.2.2 in2 at2 (g := (mkF m 37 #[rv b, iv 1] [(.int 0), (.ref b)])) rfl rfl (hb hby d14_37) _ z) ?_
  show OG p e below Φ T1 m 38 #[rv b, iv 1] [(.int (ohb c0_))]
  refine os (fun _ z => XS.sipush X1.here hx rfl (hb hby d14_38) z) ?_
  refine os (fun _ z => XS.iand X1.here hx rfl (hb hby d14_41) rfl z) ?_
  show OG p e below Φ T1 m 42 #[rv b, iv 1] [(.int ((ohb c0_) &&& (255 : Int32)))]
  obtain ⟨T3, X3, e3, st3⟩ := getS2 X1 hx hZ hown (host := "") (Or.inl (ow66 hw)) Via.refl e1 S_hb (g := (mkF m 42 #[rv b, iv 1] [(.int ((ohb c0_) &&& (255 : Int32)))])) rfl (hb hby d14_42)
  refine os st3 ?_
  show OG p e below Φ T3 m 45 #[rv b, iv 1] [(.int 0), (.int ((ohb c0_) &&& (255 : Int32)))]
  refine os (fun _ z => XT.ishl X3.here hx rfl (hb hby d14_45) rfl z) ?_
  show OG p e below Φ T3 m 46 #[rv b, iv 1] [(.int (((ohb c0_) &&& (255 : Int32)) <<< ((0 : Int32) &&& 31)))]
  refine os (fun _ z => XS.aloadN X3.here hx rfl (hb hby d14_46) rfl rfl z) ?_
  refine os (fun _ z => XS.iloadN X3.here hx rfl (hb hby d14_47) rfl z) ?_
  show OG p e below Φ T3 m 48 #[rv b, iv 1] [(.int 1), (.ref b), (.int (((ohb c0_) &&& (255 : Int32)) <<< ((0 : Int32) &&& 31)))]
  obtain ⟨cl4, Aq4, -, S4, M4, H4, -⟩ := id V_b
  have in4 : ¬ ((1 : Int32) < 0 ∨ cl4.slots.size ≤ (1 : Int32).toNatClampNeg) := inb_of S4 ⟨by decide, by decide⟩
  have at4 : cl4.slots[(1 : Int32).toNatClampNeg]? = some (.int (olb c0_)) := H4.at in4 rfl
  refine os (fun _ z => X3.baloadBytes hx (by rw [e3]; exact Aq4.1) (oia hZ Aq4.2.1) Aq4.2.2 in4 at4 (g := (mkF m 48 #[rv b, iv 1] [(.int 1), (.ref b), (.int (((ohb c0_) &&& (255 : Int32)) <<< ((0 : Int32) &&& 31)))])) rfl rfl (hb hby d14_48) _ z) ?_
  show OG p e below Φ T3 m 49 #[rv b, iv 1] [(.int (olb c0_)), (.int (((ohb c0_) &&& (255 : Int32)) <<< ((0 : Int32) &&& 31)))]
  refine os (fun _ z => XS.sipush X3.here hx rfl (hb hby d14_49) z) ?_
  refine os (fun _ z => XS.iand X3.here hx rfl (hb hby d14_52) rfl z) ?_
  show OG p e below Φ T3 m 53 #[rv b, iv 1] [(.int ((olb c0_) &&& (255 : Int32))), (.int (((ohb c0_) &&& (255 : Int32)) <<< ((0 : Int32) &&& 31)))]
  obtain ⟨T5, X5, e5, st5⟩ := getS2 X3 hx hZ hown (host := "") (Or.inl (ow67 hw)) Via.refl e3 S_lb (g := (mkF m 53 #[rv b, iv 1] [(.int ((olb c0_) &&& (255 : Int32))), (.int (((ohb c0_) &&& (255 : Int32)) <<< ((0 : Int32) &&& 31)))])) rfl (hb hby d14_53)
  refine os st5 ?_
  show OG p e below Φ T5 m 56 #[rv b, iv 1] [(.int 8), (.int ((olb c0_) &&& (255 : Int32))), (.int (((ohb c0_) &&& (255 : Int32)) <<< ((0 : Int32) &&& 31)))]
  refine os (fun _ z => XT.ishl X5.here hx rfl (hb hby d14_56) rfl z) ?_
  show OG p e below Φ T5 m 57 #[rv b, iv 1] [(.int (((olb c0_) &&& (255 : Int32)) <<< ((8 : Int32) &&& 31))), (.int (((ohb c0_) &&& (255 : Int32)) <<< ((0 : Int32) &&& 31)))]
  refine os (fun _ z => XT.ior X5.here hx rfl (hb hby d14_57) rfl z) ?_
  show OG p e below Φ T5 m 58 #[rv b, iv 1] [(.int ((((ohb c0_) &&& (255 : Int32)) <<< ((0 : Int32) &&& 31)) ||| (((olb c0_) &&& (255 : Int32)) <<< ((8 : Int32) &&& 31))))]
  refine os (fun _ z => XT.i2c X5.here hx rfl (hb hby d14_58) rfl z) ?_
  show OG p e below Φ T5 m 59 #[rv b, iv 1] [(.int (((((ohb c0_) &&& (255 : Int32)) <<< ((0 : Int32) &&& 31)) ||| (((olb c0_) &&& (255 : Int32)) <<< ((8 : Int32) &&& 31))).toUInt32.toUInt16.toUInt32.toInt32))]
  refine OGo.fin X5 hlk (v := (some (.int (((((ohb c0_) &&& (255 : Int32)) <<< ((0 : Int32) &&& 31)) ||| (((olb c0_) &&& (255 : Int32)) <<< ((8 : Int32) &&& 31))).toUInt32.toUInt16.toUInt32.toInt32)))) (fun h => by rw [hret] at h; cases h) (by decide) (by decide) (fun fs hr => X5.ireturnOut hx hret (XT.narrow_c _) (by simp) (hb hby d14_59) hr) fun U eU hF => hΦ _ _ _ ?_ hF
  rw [eU, e5]
  show Q_rsb2_0gc Z b cb c0_ c1_ h0 n0 _ _ _
  exact ⟨congrArg (fun z => some (Value.int z)) (own_gc' _ hr0), N0, rfl⟩

theorem ef_rsb2_0c3 (m : MethodId) (x0 : Addr) (x1 : Int32) (x2 : Int32) : entryFrame m #[(.ref x0), (.int x1), (.int x2)] 6 = mkF m 0 #[.val (.ref x0), .val (.int x1), .val (.int x2), .unset, .unset, .unset] [] := by first | (simp [entryFrame, mkF, argsToLocals, Value.category]; done) | rfl
def Q_rsb2_0c3 (Z : State) (a : Addr) (ca : ClassId) (c0_ : Int32) (c1_ : Int32) (h0 : Heap) (n0 : Nat) (v : Option Value) (h : Heap) (L : List Loc) : Prop := ∃ b cb, v = some (.ref b) ∧ Fr n0 L ∧ Keep h0 h [] ∧ Arv Z h b cb .byte (4 : Int32) [(.int (ohb c0_)), (.int (olb c0_)), (.int (ohb c1_)), (.int (olb c1_))] (.int (0 : Int32)) ∧ h0.size ≤ b
set_option maxRecDepth 65536 in
set_option maxHeartbeats 40000000 in
theorem rsb2_0c3 (l : Launch) (Z : State) (a0 : Array Value) (hw : ∀ d ∈ tables_1, d.before a0 Z = true) (ws : List Jvm.Cond) (a : Addr) (ca : ClassId) (c0_ : Int32) (c1_ : Int32) (h0 : Heap) (n0 : Nat) (Z0 : n0 ≤ h0.size) (V_a : Arv Z h0 a ca .char (2 : Int32) [(.int c0_), (.int c1_)] (.int (0 : Int32))) (O_0 : Old Z n0 h0) (S_ad : Sta Z Z.heap "java/lang/StringUTF16" "$assertionsDisabled" "Z" (.int (1 : Int32))) (S_hb : Sta Z Z.heap "java/lang/StringUTF16" "HI_BYTE_SHIFT" "I" (.int (0 : Int32))) (S_lb : Sta Z Z.heap "java/lang/StringUTF16" "LO_BYTE_SHIFT" "I" (.int (8 : Int32))) (hb0 : (255 : Int32) < c0_) (hr0 : nar .char c0_ = c0_) :
    OCon l Z (⟨"java/lang/StringUTF16", "compress", "([CII)[B"⟩ : MethodName) jdk_52_method_16_code 6 (some (.array .byte)) ws ({ frames := 3, cells := 2, slots := 6, locals := 40 } : Room) #[(.ref a), (.int (0 : Int32)), (.int (2 : Int32))] h0 (Q_rsb2_0c3 Z a ca c0_ c1_ h0 n0) := by
  refine OCon.of (plainFor_of_name pn1) ?_
  intro p e s m below meth c s₁ Φ X0 hx hby hml hown hnm hret hlk hZ e0 hΦ
  have N0 := Fr.nil n0
  refine os (fun _ z => castTop (ef_rsb2_0c3 m a (0 : Int32) (2 : Int32)) z) ?_
  have K0 := Keep.refl h0 []
  show OG p e below Φ s₁ m 0 #[rv a, iv 0, iv 2, .unset, .unset, .unset] []
  refine os (fun _ z => XS.iloadN X0.here hx rfl (hb hby d4_0) rfl z) ?_
  obtain ⟨T1, h1, c1, X1, e1, E1, Ar1, st1⟩ := newP (aty := .byte) X0 hx hZ (ow1 hw) e0 (g := (mkF m 1 #[rv a, iv 0, iv 2, .unset, .unset, .unset] [(.int 2)])) rfl (hb hby d4_1) rfl (by decide) (cap := 2) (by decide) (by decide) (by decide) (by decide)
  obtain ⟨b1, g1⟩ : ∃ z, z = h0.size := ⟨_, rfl⟩
  rw [← g1] at Ar1 st1
  have ne1_a : a ≠ b1 := by rw [g1]; exact Nat.ne_of_lt V_a.lt
  have F2 := V_a.ext E1
  have F3 := O_0.ext E1
  have gb1 : n0 ≤ b1 := Nat.le_trans Z0 (Nat.le_of_eq g1.symm)
  have sz1 : h0.size ≤ b1 := Nat.le_trans K0.1 (Nat.le_of_eq g1.symm)
  have K1 := K0.ext E1
  have Zs1 : n0 ≤ h1.size := Nat.le_trans Z0 E1.1
  have V1 : Arv Z h1 b1 c1 .byte (2 : Int32) [(.int (0 : Int32)), (.int (0 : Int32))] (.int (0 : Int32)) := (Arv.new Ar1 (by decide)).pad (pad_rep [] _ 2)
  refine os st1 ?_
  show OG p e below Φ T1 m 3 #[rv a, iv 0, iv 2, .unset, .unset, .unset] [(.ref b1)]
  refine os (fun _ z => XS.astoreN X1.here hx rfl (hb hby d4_3) rfl rfl (l' := #[rv a, iv 0, iv 2, rv b1, .unset, .unset]) rfl z) ?_
  show OG p e below Φ T1 m 4 #[rv a, iv 0, iv 2, rv b1, .unset, .unset] []
  refine os (fun _ z => XS.aloadN X1.here hx rfl (hb hby d4_4) rfl rfl z) ?_
  refine os (fun _ z => XS.iloadN X1.here hx rfl (hb hby d4_5) rfl z) ?_
  show OG p e below Φ T1 m 6 #[rv a, iv 0, iv 2, rv b1, .unset, .unset] [(.int 0), (.ref a)]
  refine os (fun _ z => XS.aloadN X1.here hx rfl (hb hby d4_6) rfl rfl z) ?_
  refine os (fun _ z => XS.iconst X1.here hx rfl (hb hby d4_7) z) ?_
  show OG p e below Φ T1 m 8 #[rv a, iv 0, iv 2, rv b1, .unset, .unset] [(.int 0), (.ref b1), (.int 0), (.ref a)]
  refine os (fun _ z => XS.iloadN X1.here hx rfl (hb hby d4_8) rfl z) ?_
  obtain ⟨_, T4, L4, X4, hQ4, st4⟩ := own_callSt X1 hx hZ hown (ow22 hw) (ow23 hw) (ow20 hw) (ow24 hw) (by decide) (rsb2_0c2 l Z a0 hw [] a ca b1 c1 c0_ c1_ h1 n0 Zs1 F2 V1 ne1_a gb1 hb0) e1 (W := 0) (by decide) (by decide) (by decide) (by decide) (pc := 9) (ls := #[rv a, iv 0, iv 2, rv b1, .unset, .unset]) (stk := [(.int 2), (.int 0), (.ref b1), (.int 0), (.ref a)]) (by rw [hml]; rfl) (argsL := [(.ref a), (.int 0), (.ref b1), (.int 0), (.int 2)]) (rest := []) (lenOf pd1 rfl) rfl rfl (Nat.le_of_eq rfl) (hb hby d4_9)
  obtain ⟨rfl, Nq4, Kq4⟩ := hQ4
  have N4 := Fr.app N0 Nq4
  have Zs4 : n0 ≤ T4.heap.size := Nat.le_trans Zs1 Kq4.1
  have F5 := F2.keep Kq4 (ninS ne1_a nin0)
  have F6 := F3.keep Kq4 (allS gb1 all0)
  have K4 := K1.trans Kq4 (allS (Or.inr sz1) all0)
  refine os st4 ?_
  show OG p e below Φ T4 m 12 #[rv a, iv 0, iv 2, rv b1, .unset, .unset] [(.int 0)]
  refine os (fun _ z => XS.istore X4.here hx rfl (hb hby d4_12) rfl (l' := #[rv a, iv 0, iv 2, rv b1, iv 0, .unset]) rfl z) ?_
  show OG p e below Φ T4 m 14 #[rv a, iv 0, iv 2, rv b1, iv 0, .unset] []
  refine os (fun _ z => XS.iload X4.here hx rfl (hb hby d4_14) rfl z) ?_
  refine os (fun _ z => XS.iloadN X4.here hx rfl (hb hby d4_16) rfl z) ?_
  show OG p e below Φ T4 m 17 #[rv a, iv 0, iv 2, rv b1, iv 0, .unset] [(.int 2), (.int 0)]
  refine os (fun _ z => XS.icmpNo X4.here hx rfl (hb hby d4_17) rfl (XT.ii_eq_f (by decide)) z) ?_
  show OG p e below Φ T4 m 20 #[rv a, iv 0, iv 2, rv b1, iv 0, .unset] []
  refine os (fun _ z => XS.aloadN X4.here hx rfl (hb hby d4_20) rfl rfl z) ?_
  refine os (fun _ z => XS.iloadN X4.here hx rfl (hb hby d4_21) rfl z) ?_
  show OG p e below Φ T4 m 22 #[rv a, iv 0, iv 2, rv b1, iv 0, .unset] [(.int 0), (.ref a)]
  refine os (fun _ z => XS.iloadN X4.here hx rfl (hb hby d4_22) rfl z) ?_
  obtain ⟨_, T7, L7, X7, hQ7, st7⟩ := own_callSt X4 hx hZ hown (ow52 hw) (ow53 hw) (ow20 hw) (ow54 hw) (by decide) (rsb2_0tb l Z a0 hw [] a ca c0_ c1_ T4.heap n0 Zs4 F5 F6 S_ad S_hb S_lb) rfl (W := 0) (by decide) (by decide) (by decide) (by decide) (pc := 23) (ls := #[rv a, iv 0, iv 2, rv b1, iv 0, .unset]) (stk := [(.int 2), (.int 0), (.ref a)]) (by rw [hml]; rfl) (argsL := [(.ref a), (.int 0), (.int 2)]) (rest := []) (lenOf pd2 rfl) rfl rfl (Nat.le_of_eq rfl) (hb hby d4_23)
  obtain ⟨b7, cb7, rfl, Nq7, Kq7, Vq7, hz7⟩ := hQ7
  have nq7_a : a ≠ b7 := Nat.ne_of_lt (Nat.lt_of_lt_of_le F5.lt hz7)
  have gq7 : n0 ≤ b7 := Nat.le_trans Zs4 hz7
  have sq7 : h0.size ≤ b7 := Nat.le_trans K4.1 hz7
  have N7 := Fr.app N4 Nq7
  have Zs7 : n0 ≤ T7.heap.size := Nat.le_trans Zs4 Kq7.1
  have F8 := F5.keep Kq7 nin0
  have F9 := F6.keep Kq7 all0
  have K7 := K4.trans Kq7 all0
  refine os st7 ?_
  show OG p e below Φ T7 m 26 #[rv a, iv 0, iv 2, rv b1, iv 0, .unset] [(.ref b7)]
  refine os (fun _ z => XS.astore X7.here hx rfl (hb hby d4_26) rfl rfl (l' := #[rv a, iv 0, iv 2, rv b1, iv 0, rv b7]) rfl z) ?_
  show OG p e below Φ T7 m 28 #[rv a, iv 0, iv 2, rv b1, iv 0, rv b7] []
  refine os (fun _ z => XS.aload X7.here hx rfl (hb hby d4_28) rfl rfl z) ?_
  refine os (fun _ z => XS.iload X7.here hx rfl (hb hby d4_30) rfl z) ?_
  show OG p e below Φ T7 m 32 #[rv a, iv 0, iv 2, rv b1, iv 0, rv b7] [(.int 0), (.ref b7)]
  obtain ⟨_, T10, L10, X10, hQ10, st10⟩ := own_callSt X7 hx hZ hown (ow68 hw) (ow69 hw) (ow20 hw) (ow70 hw) (by decide) (rsb2_0gc l Z a0 hw [] b7 cb7 c0_ c1_ T7.heap n0 Zs7 Vq7 (S_ad.ext F9.2) (S_hb.ext F9.2) (S_lb.ext F9.2) hr0) rfl (W := 0) (by decide) (by decide) (by decide) (by decide) (pc := 32) (ls := #[rv a, iv 0, iv 2, rv b1, iv 0, rv b7]) (stk := [(.int 0), (.ref b7)]) (by rw [hml]; rfl) (argsL := [(.ref b7), (.int 0)]) (rest := []) (lenOf pd7 rfl) rfl rfl (Nat.le_of_eq rfl) (hb hby d4_32)
  obtain ⟨rfl, Nq10, e10⟩ := hQ10
  have N10 := Fr.app N7 Nq10
  refine os st10 ?_
  show OG p e below Φ T10 m 35 #[rv a, iv 0, iv 2, rv b1, iv 0, rv b7] [(.int c0_)]
  refine os (fun _ z => XS.sipush X10.here hx rfl (hb hby d4_35) z) ?_
  refine os (fun _ z => XS.icmpYes X10.here hx rfl (pc0 := 38) (pc' := 54) rfl (hb hby d4_38) rfl (XT.ii_gt_t hb0) (by decide) (by decide) z) ?_
  show OG p e below Φ T10 m 54 #[rv a, iv 0, iv 2, rv b1, iv 0, rv b7] []
  refine os (fun _ z => XS.aload X10.here hx rfl (hb hby d4_54) rfl rfl z) ?_
  refine OGo.fin X10 hlk (v := (some (.ref b7))) (fun h => by rw [hret] at h; cases h) (by decide) (by decide) (fun fs hr => X10.areturnOut hx rfl hret rfl (hb hby d4_56) hr) fun U eU hF => hΦ _ _ _ ?_ hF
  rw [eU, e10]
  show Q_rsb2_0c3 Z a ca c0_ c1_ h0 n0 _ _ _
  exact ⟨_, _, rfl, N10, K7, Vq7, sq7⟩

theorem ef_rsb2_0cf (m : MethodId) (x0 : Addr) (x1 : Int32) : entryFrame m #[(.ref x0), (.int x1)] 2 = mkF m 0 #[.val (.ref x0), .val (.int x1)] [] := by first | (simp [entryFrame, mkF, argsToLocals, Value.category]; done) | rfl
def Q_rsb2_0cf (Z : State) (b : Addr) (cb : ClassId) (c0_ : Int32) (c1_ : Int32) (h0 : Heap) (n0 : Nat) (v : Option Value) (h : Heap) (L : List Loc) : Prop := v = some (.int (1 : Int32)) ∧ Fr n0 L ∧ h = h0
set_option maxRecDepth 65536 in
set_option maxHeartbeats 40000000 in
theorem rsb2_0cf (l : Launch) (Z : State) (a0 : Array Value) (hw : ∀ d ∈ tables_1, d.before a0 Z = true) (ws : List Jvm.Cond) (b : Addr) (cb : ClassId) (c0_ : Int32) (c1_ : Int32) (h0 : Heap) (n0 : Nat) (Z0 : n0 ≤ h0.size) (V_b : Arv Z h0 b cb .byte (4 : Int32) [(.int (ohb c0_)), (.int (olb c0_)), (.int (ohb c1_)), (.int (olb c1_))] (.int (0 : Int32))) :
    OCon l Z (⟨"java/lang/StringUTF16", "coderFromArrayLen", "([BI)B"⟩ : MethodName) jdk_52_method_15_code 2 (some .byte) ws ({ frames := 0, cells := 0, slots := 0, locals := 0 } : Room) #[(.ref b), (.int (2 : Int32))] h0 (Q_rsb2_0cf Z b cb c0_ c1_ h0 n0) := by
  refine OCon.of (plainFor_of_name pn1) ?_
  intro p e s m below meth c s₁ Φ X0 hx hby hml hown hnm hret hlk hZ e0 hΦ
  have N0 := Fr.nil n0
  refine os (fun _ z => castTop (ef_rsb2_0cf m b (2 : Int32)) z) ?_
  show OG p e below Φ s₁ m 0 #[rv b, iv 2] []
  refine os (fun _ z => XS.iloadN X0.here hx rfl (hb hby d6_0) rfl z) ?_
  refine os (fun _ z => XS.aloadN X0.here hx rfl (hb hby d6_1) rfl rfl z) ?_
  show OG p e below Φ s₁ m 2 #[rv b, iv 2] [(.ref b), (.int 2)]
  obtain ⟨cl1, Aq1, -, S1, M1, -, -⟩ := id V_b
  refine os (fun _ z => X0.arraylength hx (by rw [e0]; exact Aq1.1) (oia hZ Aq1.2.1) (g := (mkF m 2 #[rv b, iv 2] [(.ref b), (.int 2)])) rfl rfl (hb hby d6_2) _ z) ?_
  rw [len_of S1 M1]
  show OG p e below Φ s₁ m 3 #[rv b, iv 2] [(.int 4), (.int 2)]
  refine os (fun _ z => XS.isub X0.here hx rfl (hb hby d6_3) rfl z) ?_
  show OG p e below Φ s₁ m 4 #[rv b, iv 2] [(.int (-2))]
  refine os (fun _ z => XS.bipush X0.here hx rfl (hb hby d6_4) z) ?_
  refine os (fun _ z => XT.iushr X0.here hx rfl (hb hby d6_6) rfl z) ?_
  show OG p e below Φ s₁ m 7 #[rv b, iv 2] [(.int 1)]
  refine os (fun _ z => XT.i2b X0.here hx rfl (hb hby d6_7) rfl z) ?_
  show OG p e below Φ s₁ m 8 #[rv b, iv 2] [(.int 1)]
  refine OGo.fin X0 hlk (v := (some (.int 1))) (fun h => by rw [hret] at h; cases h) (by decide) (by decide) (fun fs hr => X0.ireturnOut hx hret rfl (by simp) (hb hby d6_8) hr) fun U eU hF => hΦ _ _ _ ?_ hF
  rw [eU, e0]
  show Q_rsb2_0cf Z b cb c0_ c1_ h0 n0 _ _ _
  exact ⟨rfl, N0, rfl⟩

theorem ef_rsb2_0i4 (m : MethodId) (x0 : Addr) (x1 : Addr) (x2 : Int32) (x3 : Int32) : entryFrame m #[(.ref x0), (.ref x1), (.int x2), (.int x3), .null] 6 = mkF m 0 #[.val (.ref x0), .val (.ref x1), .val (.int x2), .val (.int x3), .val .null, .unset] [] := by first | (simp [entryFrame, mkF, argsToLocals, Value.category]; done) | rfl
def Q_rsb2_0i4 (Z : State) (s_ : Addr) (a : Addr) (ca : ClassId) (qc : Int32) (c0_ : Int32) (c1_ : Int32) (h0 : Heap) (n0 : Nat) (v : Option Value) (h : Heap) (L : List Loc) : Prop := v = none ∧ Fr n0 L ∧ Keep h0 h [s_] ∧ Exa Z h s_ "java/lang/String" ∧ ∃ b cb, Fld Z h s_ "java/lang/String" "value" "[B" (.ref b) ∧ Fld Z h s_ "java/lang/String" "coder" "B" (.int (1 : Int32)) ∧ Arv Z h b cb .byte (4 : Int32) [(.int (ohb c0_)), (.int (olb c0_)), (.int (ohb c1_)), (.int (olb c1_))] (.int (0 : Int32)) ∧ h0.size ≤ b
set_option maxRecDepth 65536 in
set_option maxHeartbeats 40000000 in
theorem rsb2_0i4 (l : Launch) (Z : State) (a0 : Array Value) (hw : ∀ d ∈ tables_1, d.before a0 Z = true) (ws : List Jvm.Cond) (s_ : Addr) (a : Addr) (ca : ClassId) (qc : Int32) (c0_ : Int32) (c1_ : Int32) (h0 : Heap) (n0 : Nat) (Z0 : n0 ≤ h0.size) (E_s : Exa Z h0 s_ "java/lang/String") (g_s : n0 ≤ s_) (F_v : Fld Z h0 s_ "java/lang/String" "value" "[B" .null) (F_c : Fld Z h0 s_ "java/lang/String" "coder" "B" (.int (0 : Int32))) (V_a : Arv Z h0 a ca .char (2 : Int32) [(.int c0_), (.int c1_)] (.int (0 : Int32))) (nsa : s_ ≠ a) (S_cs : Sta Z Z.heap "java/lang/String" "COMPACT_STRINGS" "Z" (.int qc)) (hq : ¬ qc = 0) (O_0 : Old Z n0 h0) (S_ad : Sta Z Z.heap "java/lang/StringUTF16" "$assertionsDisabled" "Z" (.int (1 : Int32))) (S_hb : Sta Z Z.heap "java/lang/StringUTF16" "HI_BYTE_SHIFT" "I" (.int (0 : Int32))) (S_lb : Sta Z Z.heap "java/lang/StringUTF16" "LO_BYTE_SHIFT" "I" (.int (8 : Int32))) (hb0 : (255 : Int32) < c0_) (hr0 : nar .char c0_ = c0_) :
    OCon l Z (⟨"java/lang/String", "<init>", "([CIILjava/lang/Void;)V"⟩ : MethodName) jdk_42_method_149_code 6 none ws ({ frames := 4, cells := 2, slots := 6, locals := 57 } : Room) #[(.ref s_), (.ref a), (.int (0 : Int32)), (.int (2 : Int32)), .null] h0 (Q_rsb2_0i4 Z s_ a ca qc c0_ c1_ h0 n0) := by
  refine OCon.of (plainFor_of_name pn0) ?_
  intro p e s m below meth c s₁ Φ X0 hx hby hml hown hnm hret hlk hZ e0 hΦ
  have N0 := Fr.nil n0
  refine os (fun _ z => castTop (ef_rsb2_0i4 m s_ a (0 : Int32) (2 : Int32)) z) ?_
  have K0 := Keep.refl h0 [s_]
  show OG p e below Φ s₁ m 0 #[rv s_, rv a, iv 0, iv 2, .val .null, .unset] []
  refine os (fun _ z => XS.aloadN X0.here hx rfl (hb hby d2_0) rfl rfl z) ?_
  obtain ⟨T1, X1, e1, st1⟩ := initO X0 hx hZ hown (ow14 hw) (ow15 hw) (ow16 hw) e0 (g := (mkF m 1 #[rv s_, rv a, iv 0, iv 2, .val .null, .unset] [(.ref s_)])) rfl (by rw [hml]; rfl) rfl (hb hby d2_1) (by decide) (W := 0) (Nat.le_of_eq rfl) (by decide)
  refine os st1 ?_
  show OG p e below Φ T1 m 4 #[rv s_, rv a, iv 0, iv 2, .val .null, .unset] []
  refine os (fun _ z => XS.iloadN X1.here hx rfl (hb hby d2_4) rfl z) ?_
  refine os (fun _ z => XS.ifYes X1.here hx rfl (pc0 := 5) (pc' := 27) rfl (hb hby d2_5) rfl (XT.i0_ne_t (by decide)) (by decide) (by decide) z) ?_
  show OG p e below Φ T1 m 27 #[rv s_, rv a, iv 0, iv 2, .val .null, .unset] []
  have Sq := S_cs.ext O_0.2
  obtain ⟨T2, X2, e2, st2⟩ := getS2 X1 hx hZ hown (host := "") (Or.inl (ow17 hw)) Via.refl e1 Sq (g := (mkF m 27 #[rv s_, rv a, iv 0, iv 2, .val .null, .unset] [])) rfl (hb hby d2_27)
  refine os st2 ?_
  show OG p e below Φ T2 m 30 #[rv s_, rv a, iv 0, iv 2, .val .null, .unset] [(.int qc)]
  refine os (fun _ z => XS.ifNo X2.here hx rfl (hb hby d2_30) rfl (XT.i0_eq_f hq) z) ?_
  show OG p e below Φ T2 m 33 #[rv s_, rv a, iv 0, iv 2, .val .null, .unset] []
  refine os (fun _ z => XS.aloadN X2.here hx rfl (hb hby d2_33) rfl rfl z) ?_
  refine os (fun _ z => XS.iloadN X2.here hx rfl (hb hby d2_34) rfl z) ?_
  show OG p e below Φ T2 m 35 #[rv s_, rv a, iv 0, iv 2, .val .null, .unset] [(.int 0), (.ref a)]
  refine os (fun _ z => XS.iloadN X2.here hx rfl (hb hby d2_35) rfl z) ?_
  obtain ⟨_, T3, L3, X3, hQ3, st3⟩ := own_callSt X2 hx hZ hown (ow18 hw) (ow19 hw) (ow20 hw) (ow21 hw) (by decide) (rsb2_0c3 l Z a0 hw [] a ca c0_ c1_ h0 n0 Z0 V_a O_0 S_ad S_hb S_lb hb0 hr0) e2 (W := 0) (by decide) (by decide) (by decide) (by decide) (pc := 36) (ls := #[rv s_, rv a, iv 0, iv 2, .val .null, .unset]) (stk := [(.int 2), (.int 0), (.ref a)]) (by rw [hml]; rfl) (argsL := [(.ref a), (.int 0), (.int 2)]) (rest := []) (lenOf pd2 rfl) rfl rfl (Nat.le_of_eq rfl) (hb hby d2_36)
  obtain ⟨b3, cb3, rfl, Nq3, Kq3, Vq3, hz3⟩ := hQ3
  have nq3_a : a ≠ b3 := Nat.ne_of_lt (Nat.lt_of_lt_of_le V_a.lt hz3)
  have nq3_s_ : s_ ≠ b3 := Nat.ne_of_lt (Nat.lt_of_lt_of_le E_s.lt hz3)
  have gq3 : n0 ≤ b3 := Nat.le_trans Z0 hz3
  have sq3 : h0.size ≤ b3 := Nat.le_trans K0.1 hz3
  have N3 := Fr.app N0 Nq3
  have Zs3 : n0 ≤ T3.heap.size := Nat.le_trans Z0 Kq3.1
  have F4 := E_s.keep Kq3
  have F5 := F_v.keep Kq3 nin0
  have F6 := F_c.keep Kq3 nin0
  have F7 := V_a.keep Kq3 nin0
  have F8 := O_0.keep Kq3 all0
  have K3 := K0.trans Kq3 all0
  refine os st3 ?_
  show OG p e below Φ T3 m 39 #[rv s_, rv a, iv 0, iv 2, .val .null, .unset] [(.ref b3)]
  refine os (fun _ z => XS.astore X3.here hx rfl (hb hby d2_39) rfl rfl (l' := #[rv s_, rv a, iv 0, iv 2, .val .null, rv b3]) rfl z) ?_
  show OG p e below Φ T3 m 41 #[rv s_, rv a, iv 0, iv 2, .val .null, rv b3] []
  refine os (fun _ z => XS.aloadN X3.here hx rfl (hb hby d2_41) rfl rfl z) ?_
  refine os (fun _ z => XS.aload X3.here hx rfl (hb hby d2_42) rfl rfl z) ?_
  show OG p e below Φ T3 m 44 #[rv s_, rv a, iv 0, iv 2, .val .null, rv b3] [(.ref b3), (.ref s_)]
  refine os (fun _ z => XS.iloadN X3.here hx rfl (hb hby d2_44) rfl z) ?_
  obtain ⟨_, T9, L9, X9, hQ9, st9⟩ := own_callSt X3 hx hZ hown (ow25 hw) (ow26 hw) (ow20 hw) (ow27 hw) (by decide) (rsb2_0cf l Z a0 hw [] b3 cb3 c0_ c1_ T3.heap n0 Zs3 Vq3) rfl (W := 1) (by decide) (by decide) (by decide) (by decide) (pc := 45) (ls := #[rv s_, rv a, iv 0, iv 2, .val .null, rv b3]) (stk := [(.int 2), (.ref b3), (.ref s_)]) (by rw [hml]; rfl) (argsL := [(.ref b3), (.int 2)]) (rest := [(.ref s_)]) (lenOf pd3 rfl) rfl rfl (Nat.le_of_eq rfl) (hb hby d2_45)
  obtain ⟨rfl, Nq9, e9⟩ := hQ9
  have N9 := Fr.app N3 Nq9
  refine os st9 ?_
  show OG p e below Φ T9 m 48 #[rv s_, rv a, iv 0, iv 2, .val .null, rv b3] [(.int 1), (.ref s_)]
  obtain ⟨T10, h10, X10, e10, W10, st10⟩ := putF X9 hx hZ hown (host := "") (Or.inl (ow28 hw)) Via.refl e9 F6 F4 (Or.inr ⟨(ow29 hw), rfl, hnm⟩) (ow5 hw) (ty := .byte) (by decide) (by decide) (by decide) (g := (mkF m 48 #[rv s_, rv a, iv 0, iv 2, .val .null, rv b3] [(.int 1), (.ref s_)])) rfl rfl (hb hby d2_48)
  have F11 := F4.wr W10
  have F12 := F5.other W10 (Or.inr (slot_ne (Or.inr (ow31 hw)) (Or.inr (ow29 hw)) (by decide) (t := (.array .byte)) (t' := .byte) (by decide) (by decide)))
  have F13 := F6.same W10
  have F14 := F7.other W10 (Ne.symm nsa)
  have F15 := F8.wr W10 g_s
  have F16 := Vq3.other W10 (Ne.symm nq3_s_)
  have K10 := K3.wr W10 (Or.inl (List.mem_of_getElem? (i := 0) rfl))
  have N10 := Fr.snoc X10 N9 g_s
  have Zs10 : n0 ≤ h10.size := by rw [W10.size]; exact Zs3
  refine os st10 ?_
  show OG p e below Φ T10 m 51 #[rv s_, rv a, iv 0, iv 2, .val .null, rv b3] []
  refine os (fun _ z => XS.aloadN X10.here hx rfl (hb hby d2_51) rfl rfl z) ?_
  refine os (fun _ z => XS.aload X10.here hx rfl (hb hby d2_52) rfl rfl z) ?_
  show OG p e below Φ T10 m 54 #[rv s_, rv a, iv 0, iv 2, .val .null, rv b3] [(.ref b3), (.ref s_)]
  obtain ⟨T17, h17, X17, e17, W17, st17⟩ := putF X10 hx hZ hown (host := "") (Or.inl (ow30 hw)) Via.refl e10 F12 F11 (Or.inr ⟨(ow31 hw), rfl, hnm⟩) (ow5 hw) (ty := (.array .byte)) (by decide) rfl rfl (g := (mkF m 54 #[rv s_, rv a, iv 0, iv 2, .val .null, rv b3] [(.ref b3), (.ref s_)])) rfl rfl (hb hby d2_54)
  have F18 := F11.wr W17
  have F19 := F12.same W17
  have F20 := F13.other W17 (Or.inr (slot_ne (Or.inr (ow29 hw)) (Or.inr (ow31 hw)) (by decide) (t := .byte) (t' := (.array .byte)) (by decide) (by decide)))
  have F21 := F14.other W17 (Ne.symm nsa)
  have F22 := F15.wr W17 g_s
  have F23 := F16.other W17 (Ne.symm nq3_s_)
  have K17 := K10.wr W17 (Or.inl (List.mem_of_getElem? (i := 0) rfl))
  have N17 := Fr.snoc X17 N10 g_s
  have Zs17 : n0 ≤ h17.size := by rw [W17.size]; exact Zs10
  refine os st17 ?_
  show OG p e below Φ T17 m 57 #[rv s_, rv a, iv 0, iv 2, .val .null, rv b3] []
  refine OGo.fin X17 hlk (v := none) (fun _ => rfl) (by decide) (by decide) (fun fs hr => X17.returnOut hx hret (hb hby d2_57) hr) fun U eU hF => hΦ _ _ _ ?_ hF
  rw [eU, e17]
  show Q_rsb2_0i4 Z s_ a ca qc c0_ c1_ h0 n0 _ _ _
  exact ⟨rfl, N17, K17, F18, _, _, F19, F20, F23, sq3⟩

theorem ef_rsb2_0i1 (m : MethodId) (x0 : Addr) (x1 : Addr) : entryFrame m #[(.ref x0), (.ref x1)] 2 = mkF m 0 #[.val (.ref x0), .val (.ref x1)] [] := by first | (simp [entryFrame, mkF, argsToLocals, Value.category]; done) | rfl
def Q_rsb2_0i1 (Z : State) (s_ : Addr) (a : Addr) (ca : ClassId) (qc : Int32) (c0_ : Int32) (c1_ : Int32) (h0 : Heap) (n0 : Nat) (v : Option Value) (h : Heap) (L : List Loc) : Prop := v = none ∧ Fr n0 L ∧ Keep h0 h [s_] ∧ Exa Z h s_ "java/lang/String" ∧ ∃ b cb, Fld Z h s_ "java/lang/String" "value" "[B" (.ref b) ∧ Fld Z h s_ "java/lang/String" "coder" "B" (.int (1 : Int32)) ∧ Arv Z h b cb .byte (4 : Int32) [(.int (ohb c0_)), (.int (olb c0_)), (.int (ohb c1_)), (.int (olb c1_))] (.int (0 : Int32)) ∧ h0.size ≤ b
set_option maxRecDepth 65536 in
set_option maxHeartbeats 40000000 in
theorem rsb2_0i1 (l : Launch) (Z : State) (a0 : Array Value) (hw : ∀ d ∈ tables_1, d.before a0 Z = true) (ws : List Jvm.Cond) (s_ : Addr) (a : Addr) (ca : ClassId) (qc : Int32) (c0_ : Int32) (c1_ : Int32) (h0 : Heap) (n0 : Nat) (Z0 : n0 ≤ h0.size) (E_s : Exa Z h0 s_ "java/lang/String") (g_s : n0 ≤ s_) (F_v : Fld Z h0 s_ "java/lang/String" "value" "[B" .null) (F_c : Fld Z h0 s_ "java/lang/String" "coder" "B" (.int (0 : Int32))) (V_a : Arv Z h0 a ca .char (2 : Int32) [(.int c0_), (.int c1_)] (.int (0 : Int32))) (nsa : s_ ≠ a) (S_cs : Sta Z Z.heap "java/lang/String" "COMPACT_STRINGS" "Z" (.int qc)) (hq : ¬ qc = 0) (O_0 : Old Z n0 h0) (S_ad : Sta Z Z.heap "java/lang/StringUTF16" "$assertionsDisabled" "Z" (.int (1 : Int32))) (S_hb : Sta Z Z.heap "java/lang/StringUTF16" "HI_BYTE_SHIFT" "I" (.int (0 : Int32))) (S_lb : Sta Z Z.heap "java/lang/StringUTF16" "LO_BYTE_SHIFT" "I" (.int (8 : Int32))) (hb0 : (255 : Int32) < c0_) (hr0 : nar .char c0_ = c0_) :
    OCon l Z (⟨"java/lang/String", "<init>", "([C)V"⟩ : MethodName) jdk_42_method_3_code 2 none ws ({ frames := 5, cells := 2, slots := 6, locals := 74 } : Room) #[(.ref s_), (.ref a)] h0 (Q_rsb2_0i1 Z s_ a ca qc c0_ c1_ h0 n0) := by
  refine OCon.of (plainFor_of_name pn0) ?_
  intro p e s m below meth c s₁ Φ X0 hx hby hml hown hnm hret hlk hZ e0 hΦ
  have N0 := Fr.nil n0
  refine os (fun _ z => castTop (ef_rsb2_0i1 m s_ a) z) ?_
  have K0 := Keep.refl h0 [s_]
  show OG p e below Φ s₁ m 0 #[rv s_, rv a] []
  refine os (fun _ z => XS.aloadN X0.here hx rfl (hb hby d1_0) rfl rfl z) ?_
  refine os (fun _ z => XS.aloadN X0.here hx rfl (hb hby d1_1) rfl rfl z) ?_
  show OG p e below Φ s₁ m 2 #[rv s_, rv a] [(.ref a), (.ref s_)]
  refine os (fun _ z => XS.iconst X0.here hx rfl (hb hby d1_2) z) ?_
  refine os (fun _ z => XS.aloadN X0.here hx rfl (hb hby d1_3) rfl rfl z) ?_
  show OG p e below Φ s₁ m 4 #[rv s_, rv a] [(.ref a), (.int 0), (.ref a), (.ref s_)]
  obtain ⟨cl1, Aq1, -, S1, M1, -, -⟩ := id V_a
  refine os (fun _ z => X0.arraylength hx (by rw [e0]; exact Aq1.1) (oia hZ Aq1.2.1) (g := (mkF m 4 #[rv s_, rv a] [(.ref a), (.int 0), (.ref a), (.ref s_)])) rfl rfl (hb hby d1_4) _ z) ?_
  rw [len_of S1 M1]
  show OG p e below Φ s₁ m 5 #[rv s_, rv a] [(.int 2), (.int 0), (.ref a), (.ref s_)]
  refine os (fun _ z => XS.aconstNull X0.here hx rfl (hb hby d1_5) z) ?_
  obtain ⟨_, T2, L2, X2, hQ2, st2⟩ := own_callSp X0 hx hZ rfl hown (ow10 hw) (ow11 hw) (ow6 hw) (ow13 hw) (by decide) (rsb2_0i4 l Z a0 hw [] s_ a ca qc c0_ c1_ h0 n0 Z0 E_s g_s F_v F_c V_a nsa S_cs hq O_0 S_ad S_hb S_lb hb0 hr0) e0 (W := 0) (by decide) (by decide) (by decide) (by decide) (pc := 6) (ls := #[rv s_, rv a]) (stk := [.null, (.int 2), (.int 0), (.ref a), (.ref s_)]) (by rw [hml]; rfl) (a := s_) (argsL := [(.ref a), (.int 0), (.int 2), .null]) (rest := []) (lenOf pd0 rfl) rfl rfl (Nat.le_of_eq rfl) (hb hby d1_6)
  obtain ⟨rfl, Nq2, Kq2, Eq2, b2, cb2, Fv2, Fc2, Vq2, hz2⟩ := hQ2
  have nq2_a : a ≠ b2 := Nat.ne_of_lt (Nat.lt_of_lt_of_le V_a.lt hz2)
  have nq2_s_ : s_ ≠ b2 := Nat.ne_of_lt (Nat.lt_of_lt_of_le E_s.lt hz2)
  have gq2 : n0 ≤ b2 := Nat.le_trans Z0 hz2
  have sq2 : h0.size ≤ b2 := Nat.le_trans K0.1 hz2
  have N2 := Fr.app N0 Nq2
  have Zs2 : n0 ≤ T2.heap.size := Nat.le_trans Z0 Kq2.1
  have F3 := V_a.keep Kq2 (ninS (Ne.symm nsa) nin0)
  have F4 := O_0.keep Kq2 (allS g_s all0)
  have K2 := K0.trans Kq2 (allS (Or.inl (List.mem_of_getElem? (i := 0) rfl)) all0)
  refine os st2 ?_
  show OG p e below Φ T2 m 9 #[rv s_, rv a] []
  refine OGo.fin X2 hlk (v := none) (fun _ => rfl) (by decide) (by decide) (fun fs hr => X2.returnOut hx hret (hb hby d1_9) hr) fun U eU hF => hΦ _ _ _ ?_ hF
  rw [eU]
  show Q_rsb2_0i1 Z s_ a ca qc c0_ c1_ h0 n0 _ _ _
  exact ⟨rfl, N2, K2, Eq2, _, _, Fv2, Fc2, Vq2, sq2⟩

theorem ef_rsb2_1c2 (m : MethodId) (x0 : Addr) (x1 : Int32) (x2 : Addr) (x3 : Int32) (x4 : Int32) : entryFrame m #[(.ref x0), (.int x1), (.ref x2), (.int x3), (.int x4)] 7 = mkF m 0 #[.val (.ref x0), .val (.int x1), .val (.ref x2), .val (.int x3), .val (.int x4), .unset, .unset] [] := by first | (simp [entryFrame, mkF, argsToLocals, Value.category]; done) | rfl
def Q_rsb2_1c2 (Z : State) (a : Addr) (ca : ClassId) (b : Addr) (cb : ClassId) (c0_ : Int32) (c1_ : Int32) (h0 : Heap) (n0 : Nat) (v : Option Value) (h : Heap) (L : List Loc) : Prop := v = some (.int (1 : Int32)) ∧ Fr n0 L ∧ Keep h0 h [b]
set_option maxRecDepth 65536 in
set_option maxHeartbeats 40000000 in
theorem rsb2_1c2 (l : Launch) (Z : State) (a0 : Array Value) (hw : ∀ d ∈ tables_1, d.before a0 Z = true) (ws : List Jvm.Cond) (a : Addr) (ca : ClassId) (b : Addr) (cb : ClassId) (c0_ : Int32) (c1_ : Int32) (h0 : Heap) (n0 : Nat) (Z0 : n0 ≤ h0.size) (V_a : Arv Z h0 a ca .char (2 : Int32) [(.int c0_), (.int c1_)] (.int (0 : Int32))) (V_b : Arv Z h0 b cb .byte (2 : Int32) [(.int (0 : Int32)), (.int (0 : Int32))] (.int (0 : Int32))) (nab : a ≠ b) (g_b : n0 ≤ b) (hl0 : ¬ (255 : Int32) < c0_) (hb1 : (255 : Int32) < c1_) :
    OCon l Z (⟨"java/lang/StringUTF16", "compress", "([CI[BII)I"⟩ : MethodName) jdk_52_method_21_code 7 (some .int) ws ({ frames := 0, cells := 0, slots := 0, locals := 0 } : Room) #[(.ref a), (.int (0 : Int32)), (.ref b), (.int (0 : Int32)), (.int (2 : Int32))] h0 (Q_rsb2_1c2 Z a ca b cb c0_ c1_ h0 n0) := by
  refine OCon.of (plainFor_of_name pn1) ?_
  intro p e s m below meth c s₁ Φ X0 hx hby hml hown hnm hret hlk hZ e0 hΦ
  have N0 := Fr.nil n0
  refine os (fun _ z => castTop (ef_rsb2_1c2 m a (0 : Int32) b (0 : Int32) (2 : Int32)) z) ?_
  have K0 := Keep.refl h0 [b]
  show OG p e below Φ s₁ m 0 #[rv a, iv 0, rv b, iv 0, iv 2, .unset, .unset] []
  refine os (fun _ z => XS.iconst X0.here hx rfl (hb hby d5_0) z) ?_
  refine os (fun _ z => XS.istore X0.here hx rfl (hb hby d5_1) rfl (l' := #[rv a, iv 0, rv b, iv 0, iv 2, iv 0, .unset]) rfl z) ?_
  show OG p e below Φ s₁ m 3 #[rv a, iv 0, rv b, iv 0, iv 2, iv 0, .unset] []
  refine os (fun _ z => XS.iload X0.here hx rfl (hb hby d5_3) rfl z) ?_
  refine os (fun _ z => XS.iload X0.here hx rfl (hb hby d5_5) rfl z) ?_
  show OG p e below Φ s₁ m 7 #[rv a, iv 0, rv b, iv 0, iv 2, iv 0, .unset] [(.int 2), (.int 0)]
  refine os (fun _ z => XS.icmpNo X0.here hx rfl (hb hby d5_7) rfl (XT.ii_ge_f (by decide)) z) ?_
  show OG p e below Φ s₁ m 10 #[rv a, iv 0, rv b, iv 0, iv 2, iv 0, .unset] []
  refine os (fun _ z => XS.aloadN X0.here hx rfl (hb hby d5_10) rfl rfl z) ?_
  refine os (fun _ z => XS.iloadN X0.here hx rfl (hb hby d5_11) rfl z) ?_
  show OG p e below Φ s₁ m 12 #[rv a, iv 0, rv b, iv 0, iv 2, iv 0, .unset] [(.int 0), (.ref a)]
  obtain ⟨cl1, Aq1, -, S1, M1, H1, -⟩ := id V_a
  have in1 : ¬ ((0 : Int32) < 0 ∨ cl1.slots.size ≤ (0 : Int32).toNatClampNeg) := inb_of S1 ⟨by decide, by decide⟩
  have at1 : cl1.slots[(0 : Int32).toNatClampNeg]? = some (.int c0_) := H1.at in1 rfl
  refine os (fun _ z => X0.caload hx (by rw [e0]; exact Aq1.1) (oia hZ Aq1.2.1) Aq1.2.2 in1 at1 (g := (mkF m 12 #[rv a, iv 0, rv b, iv 0, iv 2, iv 0, .unset] [(.int 0), (.ref a)])) rfl rfl (hb hby d5_12) _ z) ?_
  show OG p e below Φ s₁ m 13 #[rv a, iv 0, rv b, iv 0, iv 2, iv 0, .unset] [(.int c0_)]
  refine os (fun _ z => XS.istore X0.here hx rfl (hb hby d5_13) rfl (l' := #[rv a, iv 0, rv b, iv 0, iv 2, iv 0, iv c0_]) rfl z) ?_
  show OG p e below Φ s₁ m 15 #[rv a, iv 0, rv b, iv 0, iv 2, iv 0, iv c0_] []
  refine os (fun _ z => XS.iload X0.here hx rfl (hb hby d5_15) rfl z) ?_
  refine os (fun _ z => XS.sipush X0.here hx rfl (hb hby d5_17) z) ?_
  show OG p e below Φ s₁ m 20 #[rv a, iv 0, rv b, iv 0, iv 2, iv 0, iv c0_] [(.int 255), (.int c0_)]
  refine os (fun _ z => XS.icmpYes X0.here hx rfl (pc0 := 20) (pc' := 26) rfl (hb hby d5_20) rfl (XT.ii_le_t hl0) (by decide) (by decide) z) ?_
  show OG p e below Φ s₁ m 26 #[rv a, iv 0, rv b, iv 0, iv 2, iv 0, iv c0_] []
  refine os (fun _ z => XS.aloadN X0.here hx rfl (hb hby d5_26) rfl rfl z) ?_
  refine os (fun _ z => XS.iloadN X0.here hx rfl (hb hby d5_27) rfl z) ?_
  show OG p e below Φ s₁ m 28 #[rv a, iv 0, rv b, iv 0, iv 2, iv 0, iv c0_] [(.int 0), (.ref b)]
  refine os (fun _ z => XS.iload X0.here hx rfl (hb hby d5_28) rfl z) ?_
  refine os (fun _ z => XT.i2b X0.here hx rfl (hb hby d5_30) rfl z) ?_
  show OG p e below Φ s₁ m 31 #[rv a, iv 0, rv b, iv 0, iv 2, iv 0, iv c0_] [(.int (c0_.toInt8.toInt32)), (.int 0), (.ref b)]
  obtain ⟨cl2, Aq2, Cq2, S2, M2, H2, G2⟩ := id V_b
  have in2 : ¬ ((0 : Int32) < 0 ∨ cl2.slots.size ≤ (0 : Int32).toNatClampNeg) := inb_of S2 ⟨by decide, by decide⟩
  obtain ⟨T2, h2, X2, e2, W2, st2⟩ := stB X0 hx hZ e0 Aq2 in2 (g := (mkF m 31 #[rv a, iv 0, rv b, iv 0, iv 2, iv 0, iv c0_] [(.int (c0_.toInt8.toInt32)), (.int 0), (.ref b)])) rfl rfl (hb hby d5_31)
  have W2 : Wr h0 h2 b (0 : Int32).toNatClampNeg (.int (nar .byte (c0_.toInt8.toInt32))) := W2
  have F3 := V_a.other W2 nab
  have V2 : Arv Z h2 b cb .byte (2 : Int32) [(.int (nar .byte (c0_.toInt8.toInt32))), (.int (0 : Int32))] (.int (0 : Int32)) := Arv.set Aq2 Cq2 S2 M2 H2 G2 (fits_nar_byte _) W2 0 (by decide) (by show 0 < 2; decide)
  have K2 := K0.wr W2 (Or.inl (List.mem_of_getElem? (i := 0) rfl))
  have N2 := Fr.snoc X2 N0 g_b
  have Zs2 : n0 ≤ h2.size := by rw [W2.size]; exact Z0
  refine os st2 ?_
  show OG p e below Φ T2 m 32 #[rv a, iv 0, rv b, iv 0, iv 2, iv 0, iv c0_] []
  refine os (fun _ z => XS.iinc X2.here hx rfl (hb hby d5_32) rfl (l' := #[rv a, iv ((0 : Int32) + (1 : Int32)), rv b, iv 0, iv 2, iv 0, iv c0_]) rfl z) ?_
  show OG p e below Φ T2 m 35 #[rv a, iv 1, rv b, iv 0, iv 2, iv 0, iv c0_] []
  refine os (fun _ z => XS.iinc X2.here hx rfl (hb hby d5_35) rfl (l' := #[rv a, iv 1, rv b, iv ((0 : Int32) + (1 : Int32)), iv 2, iv 0, iv c0_]) rfl z) ?_
  show OG p e below Φ T2 m 38 #[rv a, iv 1, rv b, iv 1, iv 2, iv 0, iv c0_] []
  refine os (fun _ z => XS.iinc X2.here hx rfl (hb hby d5_38) rfl (l' := #[rv a, iv 1, rv b, iv 1, iv 2, iv ((0 : Int32) + (1 : Int32)), iv c0_]) rfl z) ?_
  show OG p e below Φ T2 m 41 #[rv a, iv 1, rv b, iv 1, iv 2, iv 1, iv c0_] []
  refine os (fun _ z => XS.goto X2.here hx rfl (pc0 := 41) (pc' := 3) rfl (hb hby d5_41) (by decide) (by decide) z) ?_
  show OG p e below Φ T2 m 3 #[rv a, iv 1, rv b, iv 1, iv 2, iv 1, iv c0_] []
  refine os (fun _ z => XS.iload X2.here hx rfl (hb hby d5_3) rfl z) ?_
  refine os (fun _ z => XS.iload X2.here hx rfl (hb hby d5_5) rfl z) ?_
  show OG p e below Φ T2 m 7 #[rv a, iv 1, rv b, iv 1, iv 2, iv 1, iv c0_] [(.int 2), (.int 1)]
  refine os (fun _ z => XS.icmpNo X2.here hx rfl (hb hby d5_7) rfl (XT.ii_ge_f (by decide)) z) ?_
  show OG p e below Φ T2 m 10 #[rv a, iv 1, rv b, iv 1, iv 2, iv 1, iv c0_] []
  refine os (fun _ z => XS.aloadN X2.here hx rfl (hb hby d5_10) rfl rfl z) ?_
  refine os (fun _ z => XS.iloadN X2.here hx rfl (hb hby d5_11) rfl z) ?_
  show OG p e below Φ T2 m 12 #[rv a, iv 1, rv b, iv 1, iv 2, iv 1, iv c0_] [(.int 1), (.ref a)]
  obtain ⟨cl4, Aq4, -, S4, M4, H4, -⟩ := id F3
  have in4 : ¬ ((1 : Int32) < 0 ∨ cl4.slots.size ≤ (1 : Int32).toNatClampNeg) := inb_of S4 ⟨by decide, by decide⟩
  have at4 : cl4.slots[(1 : Int32).toNatClampNeg]? = some (.int c1_) := H4.at in4 rfl
  refine os (fun _ z => X2.caload hx (by rw [e2]; exact Aq4.1) (oia hZ Aq4.2.1) Aq4.2.2 in4 at4 (g := (mkF m 12 #[rv a, iv 1, rv b, iv 1, iv 2, iv 1, iv c0_] [(.int 1), (.ref a)])) rfl rfl (hb hby d5_12) _ z) ?_
  show OG p e below Φ T2 m 13 #[rv a, iv 1, rv b, iv 1, iv 2, iv 1, iv c0_] [(.int c1_)]
  refine os (fun _ z => XS.istore X2.here hx rfl (hb hby d5_13) rfl (l' := #[rv a, iv 1, rv b, iv 1, iv 2, iv 1, iv c1_]) rfl z) ?_
  show OG p e below Φ T2 m 15 #[rv a, iv 1, rv b, iv 1, iv 2, iv 1, iv c1_] []
  refine os (fun _ z => XS.iload X2.here hx rfl (hb hby d5_15) rfl z) ?_
  refine os (fun _ z => XS.sipush X2.here hx rfl (hb hby d5_17) z) ?_
  show OG p e below Φ T2 m 20 #[rv a, iv 1, rv b, iv 1, iv 2, iv 1, iv c1_] [(.int 255), (.int c1_)]
  refine os (fun _ z => XS.icmpNo X2.here hx rfl (hb hby d5_20) rfl (XT.ii_le_f hb1) z) ?_
  show OG p e below Φ T2 m 23 #[rv a, iv 1, rv b, iv 1, iv 2, iv 1, iv c1_] []
  refine os (fun _ z => XS.iload X2.here hx rfl (hb hby d5_23) rfl z) ?_
  refine OGo.fin X2 hlk (v := (some (.int 1))) (fun h => by rw [hret] at h; cases h) (by decide) (by decide) (fun fs hr => X2.ireturnOut hx hret rfl (by simp) (hb hby d5_25) hr) fun U eU hF => hΦ _ _ _ ?_ hF
  rw [eU, e2]
  show Q_rsb2_1c2 Z a ca b cb c0_ c1_ h0 n0 _ _ _
  exact ⟨rfl, N2, K2⟩

theorem ef_rsb2_1gc (m : MethodId) (x0 : Addr) (x1 : Int32) : entryFrame m #[(.ref x0), (.int x1)] 2 = mkF m 0 #[.val (.ref x0), .val (.int x1)] [] := by first | (simp [entryFrame, mkF, argsToLocals, Value.category]; done) | rfl
def Q_rsb2_1gc (Z : State) (b : Addr) (cb : ClassId) (c0_ : Int32) (c1_ : Int32) (h0 : Heap) (n0 : Nat) (v : Option Value) (h : Heap) (L : List Loc) : Prop := v = some (.int c1_) ∧ Fr n0 L ∧ h = h0
set_option maxRecDepth 65536 in
set_option maxHeartbeats 40000000 in
theorem rsb2_1gc (l : Launch) (Z : State) (a0 : Array Value) (hw : ∀ d ∈ tables_1, d.before a0 Z = true) (ws : List Jvm.Cond) (b : Addr) (cb : ClassId) (c0_ : Int32) (c1_ : Int32) (h0 : Heap) (n0 : Nat) (Z0 : n0 ≤ h0.size) (V_b : Arv Z h0 b cb .byte (4 : Int32) [(.int (ohb c0_)), (.int (olb c0_)), (.int (ohb c1_)), (.int (olb c1_))] (.int (0 : Int32))) (S_ad : Sta Z h0 "java/lang/StringUTF16" "$assertionsDisabled" "Z" (.int (1 : Int32))) (S_hb : Sta Z h0 "java/lang/StringUTF16" "HI_BYTE_SHIFT" "I" (.int (0 : Int32))) (S_lb : Sta Z h0 "java/lang/StringUTF16" "LO_BYTE_SHIFT" "I" (.int (8 : Int32))) (hr1 : nar .char c1_ = c1_) :
    OCon l Z (⟨"java/lang/StringUTF16", "getChar", "([BI)C"⟩ : MethodName) jdk_52_method_5_code 2 (some .char) ws ({ frames := 0, cells := 0, slots := 0, locals := 0 } : Room) #[(.ref b), (.int (1 : Int32))] h0 (Q_rsb2_1gc Z b cb c0_ c1_ h0 n0) := by
  refine OCon.of (plainFor_of_name pn1) ?_
  intro p e s m below meth c s₁ Φ X0 hx hby hml hown hnm hret hlk hZ e0 hΦ
  have N0 := Fr.nil n0
  refine os (fun _ z => castTop (ef_rsb2_1gc m b (1 : Int32)) z) ?_
  show OG p e below Φ s₁ m 0 #[rv b, iv 1] []
  obtain ⟨T1, X1, e1, st1⟩ := getS2 X0 hx hZ hown (host := "") (Or.inl (ow65 hw)) Via.refl e0 S_ad (g := (mkF m 0 #[rv b, iv 1] [])) rfl (hb hby d14_0)
  refine os st1 ?_
  show OG p e below Φ T1 m 3 #[rv b, iv 1] [(.int 1)]
  refine os (fun _ z => XS.ifYes X1.here hx rfl (pc0 := 3) (pc' := 28) rfl (hb hby d14_3) rfl (XT.i0_ne_t (by decide)) (by decide) (by decide) z) ?_
  show OG p e below Φ T1 m 28 #[rv b, iv 1] []
  refine os (fun _ z => XS.iloadN X1.here hx rfl (hb hby d14_28) rfl z) ?_
  refine os (fun _ z => XS.iconst X1.here hx rfl (hb hby d14_29) z) ?_
  show OG p e below Φ T1 m 30 #[rv b, iv 1] [(.int 1), (.int 1)]
  refine os (fun _ z => XT.ishl X1.here hx rfl (hb hby d14_30) rfl z) ?_
  show OG p e below Φ T1 m 31 #[rv b, iv 1] [(.int 2)]
  refine os (fun _ z => XS.istoreN X1.here hx rfl (hb hby d14_31) rfl (l' := #[rv b, iv 2]) rfl z) ?_
  show OG p e below Φ T1 m 32 #[rv b, iv 2] []
  refine os (fun _ z => XS.aloadN X1.here hx rfl (hb hby d14_32) rfl rfl z) ?_
  refine os (fun _ z => XS.iloadN X1.here hx rfl (hb hby d14_33) rfl z) ?_
  show OG p e below Φ T1 m 34 #[rv b, iv 2] [(.int 2), (.ref b)]
  refine os (fun _ z => XS.iinc X1.here hx rfl (hb hby d14_34) rfl (l' := #[rv b, iv ((2 : Int32) + (1 : Int32))]) rfl z) ?_
  show OG p e below Φ T1 m 37 #[rv b, iv 3] [(.int 2), (.ref b)]
  obtain ⟨cl2, Aq2, -, S2, M2, H2, -⟩ := id V_b
  have in2 : ¬ ((2 : Int32) < 0 ∨ cl2.slots.size ≤ (2 : Int32).toNatClampNeg) := inb_of S2 ⟨by decide, by decide⟩
  have at2 : cl2.slots[(2 : Int32).toNatClampNeg]? = some (.int (ohb c1_)) := H2.at in2 rfl
  refine os (fun _ z => X1.baloadBytes hx (by rw [e1]; exact Aq2.1) (oia hZ Aq2.2.1) Aq2.2.2 in2 at2 (g := (mkF m 37 #[rv b, iv 3] [(.int 2), (.ref b)])) rfl rfl (hb hby d14_37) _ z) ?_
  show OG p e below Φ T1 m 38 #[rv b, iv 3] [(.int (ohb c1_))]
  refine os (fun _ z => XS.sipush X1.here hx rfl (hb hby d14_38) z) ?_
  refine os (fun _ z => XS.iand X1.here hx rfl (hb hby d14_41) rfl z) ?_
  show OG p e below Φ T1 m 42 #[rv b, iv 3] [(.int ((ohb c1_) &&& (255 : Int32)))]
  obtain ⟨T3, X3, e3, st3⟩ := getS2 X1 hx hZ hown (host := "") (Or.inl (ow66 hw)) Via.refl e1 S_hb (g := (mkF m 42 #[rv b, iv 3] [(.int ((ohb c1_) &&& (255 : Int32)))])) rfl (hb hby d14_42)
  refine os st3 ?_
  show OG p e below Φ T3 m 45 #[rv b, iv 3] [(.int 0), (.int ((ohb c1_) &&& (255 : Int32)))]
  refine os (fun _ z => XT.ishl X3.here hx rfl (hb hby d14_45) rfl z) ?_
  show OG p e below Φ T3 m 46 #[rv b, iv 3] [(.int (((ohb c1_) &&& (255 : Int32)) <<< ((0 : Int32) &&& 31)))]
  refine os (fun _ z => XS.aloadN X3.here hx rfl (hb hby d14_46) rfl rfl z) ?_
  refine os (fun _ z => XS.iloadN X3.here hx rfl (hb hby d14_47) rfl z) ?_
  show OG p e below Φ T3 m 48 #[rv b, iv 3] [(.int 3), (.ref b), (.int (((ohb c1_) &&& (255 : Int32)) <<< ((0 : Int32) &&& 31)))]
  obtain ⟨cl4, Aq4, -, S4, M4, H4, -⟩ := id V_b
  have in4 : ¬ ((3 : Int32) < 0 ∨ cl4.slots.size ≤ (3 : Int32).toNatClampNeg) := inb_of S4 ⟨by decide, by decide⟩
  have at4 : cl4.slots[(3 : Int32).toNatClampNeg]? = some (.int (olb c1_)) := H4.at in4 rfl
  refine os (fun _ z => X3.baloadBytes hx (by rw [e3]; exact Aq4.1) (oia hZ Aq4.2.1) Aq4.2.2 in4 at4 (g := (mkF m 48 #[rv b, iv 3] [(.int 3), (.ref b), (.int (((ohb c1_) &&& (255 : Int32)) <<< ((0 : Int32) &&& 31)))])) rfl rfl (hb hby d14_48) _ z) ?_
  show OG p e below Φ T3 m 49 #[rv b, iv 3] [(.int (olb c1_)), (.int (((ohb c1_) &&& (255 : Int32)) <<< ((0 : Int32) &&& 31)))]
  refine os (fun _ z => XS.sipush X3.here hx rfl (hb hby d14_49) z) ?_
  refine os (fun _ z => XS.iand X3.here hx rfl (hb hby d14_52) rfl z) ?_
  show OG p e below Φ T3 m 53 #[rv b, iv 3] [(.int ((olb c1_) &&& (255 : Int32))), (.int (((ohb c1_) &&& (255 : Int32)) <<< ((0 : Int32) &&& 31)))]
  obtain ⟨T5, X5, e5, st5⟩ := getS2 X3 hx hZ hown (host := "") (Or.inl (ow67 hw)) Via.refl e3 S_lb (g := (mkF m 53 #[rv b, iv 3] [(.int ((olb c1_) &&& (255 : Int32))), (.int (((ohb c1_) &&& (255 : Int32)) <<< ((0 : Int32) &&& 31)))])) rfl (hb hby d14_53)
  refine os st5 ?_
  show OG p e below Φ T5 m 56 #[rv b, iv 3] [(.int 8), (.int ((olb c1_) &&& (255 : Int32))), (.int (((ohb c1_) &&& (255 : Int32)) <<< ((0 : Int32) &&& 31)))]
  refine os (fun _ z => XT.ishl X5.here hx rfl (hb hby d14_56) rfl z) ?_
  show OG p e below Φ T5 m 57 #[rv b, iv 3] [(.int (((olb c1_) &&& (255 : Int32)) <<< ((8 : Int32) &&& 31))), (.int (((ohb c1_) &&& (255 : Int32)) <<< ((0 : Int32) &&& 31)))]
  refine os (fun _ z => XT.ior X5.here hx rfl (hb hby d14_57) rfl z) ?_
  show OG p e below Φ T5 m 58 #[rv b, iv 3] [(.int ((((ohb c1_) &&& (255 : Int32)) <<< ((0 : Int32) &&& 31)) ||| (((olb c1_) &&& (255 : Int32)) <<< ((8 : Int32) &&& 31))))]
  refine os (fun _ z => XT.i2c X5.here hx rfl (hb hby d14_58) rfl z) ?_
  show OG p e below Φ T5 m 59 #[rv b, iv 3] [(.int (((((ohb c1_) &&& (255 : Int32)) <<< ((0 : Int32) &&& 31)) ||| (((olb c1_) &&& (255 : Int32)) <<< ((8 : Int32) &&& 31))).toUInt32.toUInt16.toUInt32.toInt32))]
  refine OGo.fin X5 hlk (v := (some (.int (((((ohb c1_) &&& (255 : Int32)) <<< ((0 : Int32) &&& 31)) ||| (((olb c1_) &&& (255 : Int32)) <<< ((8 : Int32) &&& 31))).toUInt32.toUInt16.toUInt32.toInt32)))) (fun h => by rw [hret] at h; cases h) (by decide) (by decide) (fun fs hr => X5.ireturnOut hx hret (XT.narrow_c _) (by simp) (hb hby d14_59) hr) fun U eU hF => hΦ _ _ _ ?_ hF
  rw [eU, e5]
  show Q_rsb2_1gc Z b cb c0_ c1_ h0 n0 _ _ _
  exact ⟨congrArg (fun z => some (Value.int z)) (own_gc' _ hr1), N0, rfl⟩

theorem ef_rsb2_1c3 (m : MethodId) (x0 : Addr) (x1 : Int32) (x2 : Int32) : entryFrame m #[(.ref x0), (.int x1), (.int x2)] 6 = mkF m 0 #[.val (.ref x0), .val (.int x1), .val (.int x2), .unset, .unset, .unset] [] := by first | (simp [entryFrame, mkF, argsToLocals, Value.category]; done) | rfl
def Q_rsb2_1c3 (Z : State) (a : Addr) (ca : ClassId) (c0_ : Int32) (c1_ : Int32) (h0 : Heap) (n0 : Nat) (v : Option Value) (h : Heap) (L : List Loc) : Prop := ∃ b cb, v = some (.ref b) ∧ Fr n0 L ∧ Keep h0 h [] ∧ Arv Z h b cb .byte (4 : Int32) [(.int (ohb c0_)), (.int (olb c0_)), (.int (ohb c1_)), (.int (olb c1_))] (.int (0 : Int32)) ∧ h0.size ≤ b
set_option maxRecDepth 65536 in
set_option maxHeartbeats 40000000 in
theorem rsb2_1c3 (l : Launch) (Z : State) (a0 : Array Value) (hw : ∀ d ∈ tables_1, d.before a0 Z = true) (ws : List Jvm.Cond) (a : Addr) (ca : ClassId) (c0_ : Int32) (c1_ : Int32) (h0 : Heap) (n0 : Nat) (Z0 : n0 ≤ h0.size) (V_a : Arv Z h0 a ca .char (2 : Int32) [(.int c0_), (.int c1_)] (.int (0 : Int32))) (O_0 : Old Z n0 h0) (S_ad : Sta Z Z.heap "java/lang/StringUTF16" "$assertionsDisabled" "Z" (.int (1 : Int32))) (S_hb : Sta Z Z.heap "java/lang/StringUTF16" "HI_BYTE_SHIFT" "I" (.int (0 : Int32))) (S_lb : Sta Z Z.heap "java/lang/StringUTF16" "LO_BYTE_SHIFT" "I" (.int (8 : Int32))) (hl0 : ¬ (255 : Int32) < c0_) (hb1 : (255 : Int32) < c1_) (hr1 : nar .char c1_ = c1_) :
    OCon l Z (⟨"java/lang/StringUTF16", "compress", "([CII)[B"⟩ : MethodName) jdk_52_method_16_code 6 (some (.array .byte)) ws ({ frames := 3, cells := 2, slots := 6, locals := 40 } : Room) #[(.ref a), (.int (0 : Int32)), (.int (2 : Int32))] h0 (Q_rsb2_1c3 Z a ca c0_ c1_ h0 n0) := by
  refine OCon.of (plainFor_of_name pn1) ?_
  intro p e s m below meth c s₁ Φ X0 hx hby hml hown hnm hret hlk hZ e0 hΦ
  have N0 := Fr.nil n0
  refine os (fun _ z => castTop (ef_rsb2_1c3 m a (0 : Int32) (2 : Int32)) z) ?_
  have K0 := Keep.refl h0 []
  show OG p e below Φ s₁ m 0 #[rv a, iv 0, iv 2, .unset, .unset, .unset] []
  refine os (fun _ z => XS.iloadN X0.here hx rfl (hb hby d4_0) rfl z) ?_
  obtain ⟨T1, h1, c1, X1, e1, E1, Ar1, st1⟩ := newP (aty := .byte) X0 hx hZ (ow1 hw) e0 (g := (mkF m 1 #[rv a, iv 0, iv 2, .unset, .unset, .unset] [(.int 2)])) rfl (hb hby d4_1) rfl (by decide) (cap := 2) (by decide) (by decide) (by decide) (by decide)
  obtain ⟨b1, g1⟩ : ∃ z, z = h0.size := ⟨_, rfl⟩
  rw [← g1] at Ar1 st1
  have ne1_a : a ≠ b1 := by rw [g1]; exact Nat.ne_of_lt V_a.lt
  have F2 := V_a.ext E1
  have F3 := O_0.ext E1
  have gb1 : n0 ≤ b1 := Nat.le_trans Z0 (Nat.le_of_eq g1.symm)
  have sz1 : h0.size ≤ b1 := Nat.le_trans K0.1 (Nat.le_of_eq g1.symm)
  have K1 := K0.ext E1
  have Zs1 : n0 ≤ h1.size := Nat.le_trans Z0 E1.1
  have V1 : Arv Z h1 b1 c1 .byte (2 : Int32) [(.int (0 : Int32)), (.int (0 : Int32))] (.int (0 : Int32)) := (Arv.new Ar1 (by decide)).pad (pad_rep [] _ 2)
  refine os st1 ?_
  show OG p e below Φ T1 m 3 #[rv a, iv 0, iv 2, .unset, .unset, .unset] [(.ref b1)]
  refine os (fun _ z => XS.astoreN X1.here hx rfl (hb hby d4_3) rfl rfl (l' := #[rv a, iv 0, iv 2, rv b1, .unset, .unset]) rfl z) ?_
  show OG p e below Φ T1 m 4 #[rv a, iv 0, iv 2, rv b1, .unset, .unset] []
  refine os (fun _ z => XS.aloadN X1.here hx rfl (hb hby d4_4) rfl rfl z) ?_
  refine os (fun _ z => XS.iloadN X1.here hx rfl (hb hby d4_5) rfl z) ?_
  show OG p e below Φ T1 m 6 #[rv a, iv 0, iv 2, rv b1, .unset, .unset] [(.int 0), (.ref a)]
  refine os (fun _ z => XS.aloadN X1.here hx rfl (hb hby d4_6) rfl rfl z) ?_
  refine os (fun _ z => XS.iconst X1.here hx rfl (hb hby d4_7) z) ?_
  show OG p e below Φ T1 m 8 #[rv a, iv 0, iv 2, rv b1, .unset, .unset] [(.int 0), (.ref b1), (.int 0), (.ref a)]
  refine os (fun _ z => XS.iloadN X1.here hx rfl (hb hby d4_8) rfl z) ?_
  obtain ⟨_, T4, L4, X4, hQ4, st4⟩ := own_callSt X1 hx hZ hown (ow22 hw) (ow23 hw) (ow20 hw) (ow24 hw) (by decide) (rsb2_1c2 l Z a0 hw [] a ca b1 c1 c0_ c1_ h1 n0 Zs1 F2 V1 ne1_a gb1 hl0 hb1) e1 (W := 0) (by decide) (by decide) (by decide) (by decide) (pc := 9) (ls := #[rv a, iv 0, iv 2, rv b1, .unset, .unset]) (stk := [(.int 2), (.int 0), (.ref b1), (.int 0), (.ref a)]) (by rw [hml]; rfl) (argsL := [(.ref a), (.int 0), (.ref b1), (.int 0), (.int 2)]) (rest := []) (lenOf pd1 rfl) rfl rfl (Nat.le_of_eq rfl) (hb hby d4_9)
  obtain ⟨rfl, Nq4, Kq4⟩ := hQ4
  have N4 := Fr.app N0 Nq4
  have Zs4 : n0 ≤ T4.heap.size := Nat.le_trans Zs1 Kq4.1
  have F5 := F2.keep Kq4 (ninS ne1_a nin0)
  have F6 := F3.keep Kq4 (allS gb1 all0)
  have K4 := K1.trans Kq4 (allS (Or.inr sz1) all0)
  refine os st4 ?_
  show OG p e below Φ T4 m 12 #[rv a, iv 0, iv 2, rv b1, .unset, .unset] [(.int 1)]
  refine os (fun _ z => XS.istore X4.here hx rfl (hb hby d4_12) rfl (l' := #[rv a, iv 0, iv 2, rv b1, iv 1, .unset]) rfl z) ?_
  show OG p e below Φ T4 m 14 #[rv a, iv 0, iv 2, rv b1, iv 1, .unset] []
  refine os (fun _ z => XS.iload X4.here hx rfl (hb hby d4_14) rfl z) ?_
  refine os (fun _ z => XS.iloadN X4.here hx rfl (hb hby d4_16) rfl z) ?_
  show OG p e below Φ T4 m 17 #[rv a, iv 0, iv 2, rv b1, iv 1, .unset] [(.int 2), (.int 1)]
  refine os (fun _ z => XS.icmpNo X4.here hx rfl (hb hby d4_17) rfl (XT.ii_eq_f (by decide)) z) ?_
  show OG p e below Φ T4 m 20 #[rv a, iv 0, iv 2, rv b1, iv 1, .unset] []
  refine os (fun _ z => XS.aloadN X4.here hx rfl (hb hby d4_20) rfl rfl z) ?_
  refine os (fun _ z => XS.iloadN X4.here hx rfl (hb hby d4_21) rfl z) ?_
  show OG p e below Φ T4 m 22 #[rv a, iv 0, iv 2, rv b1, iv 1, .unset] [(.int 0), (.ref a)]
  refine os (fun _ z => XS.iloadN X4.here hx rfl (hb hby d4_22) rfl z) ?_
  obtain ⟨_, T7, L7, X7, hQ7, st7⟩ := own_callSt X4 hx hZ hown (ow52 hw) (ow53 hw) (ow20 hw) (ow54 hw) (by decide) (rsb2_0tb l Z a0 hw [] a ca c0_ c1_ T4.heap n0 Zs4 F5 F6 S_ad S_hb S_lb) rfl (W := 0) (by decide) (by decide) (by decide) (by decide) (pc := 23) (ls := #[rv a, iv 0, iv 2, rv b1, iv 1, .unset]) (stk := [(.int 2), (.int 0), (.ref a)]) (by rw [hml]; rfl) (argsL := [(.ref a), (.int 0), (.int 2)]) (rest := []) (lenOf pd2 rfl) rfl rfl (Nat.le_of_eq rfl) (hb hby d4_23)
  obtain ⟨b7, cb7, rfl, Nq7, Kq7, Vq7, hz7⟩ := hQ7
  have nq7_a : a ≠ b7 := Nat.ne_of_lt (Nat.lt_of_lt_of_le F5.lt hz7)
  have gq7 : n0 ≤ b7 := Nat.le_trans Zs4 hz7
  have sq7 : h0.size ≤ b7 := Nat.le_trans K4.1 hz7
  have N7 := Fr.app N4 Nq7
  have Zs7 : n0 ≤ T7.heap.size := Nat.le_trans Zs4 Kq7.1
  have F8 := F5.keep Kq7 nin0
  have F9 := F6.keep Kq7 all0
  have K7 := K4.trans Kq7 all0
  refine os st7 ?_
  show OG p e below Φ T7 m 26 #[rv a, iv 0, iv 2, rv b1, iv 1, .unset] [(.ref b7)]
  refine os (fun _ z => XS.astore X7.here hx rfl (hb hby d4_26) rfl rfl (l' := #[rv a, iv 0, iv 2, rv b1, iv 1, rv b7]) rfl z) ?_
  show OG p e below Φ T7 m 28 #[rv a, iv 0, iv 2, rv b1, iv 1, rv b7] []
  refine os (fun _ z => XS.aload X7.here hx rfl (hb hby d4_28) rfl rfl z) ?_
  refine os (fun _ z => XS.iload X7.here hx rfl (hb hby d4_30) rfl z) ?_
  show OG p e below Φ T7 m 32 #[rv a, iv 0, iv 2, rv b1, iv 1, rv b7] [(.int 1), (.ref b7)]
  obtain ⟨_, T10, L10, X10, hQ10, st10⟩ := own_callSt X7 hx hZ hown (ow68 hw) (ow69 hw) (ow20 hw) (ow70 hw) (by decide) (rsb2_1gc l Z a0 hw [] b7 cb7 c0_ c1_ T7.heap n0 Zs7 Vq7 (S_ad.ext F9.2) (S_hb.ext F9.2) (S_lb.ext F9.2) hr1) rfl (W := 0) (by decide) (by decide) (by decide) (by decide) (pc := 32) (ls := #[rv a, iv 0, iv 2, rv b1, iv 1, rv b7]) (stk := [(.int 1), (.ref b7)]) (by rw [hml]; rfl) (argsL := [(.ref b7), (.int 1)]) (rest := []) (lenOf pd7 rfl) rfl rfl (Nat.le_of_eq rfl) (hb hby d4_32)
  obtain ⟨rfl, Nq10, e10⟩ := hQ10
  have N10 := Fr.app N7 Nq10
  refine os st10 ?_
  show OG p e below Φ T10 m 35 #[rv a, iv 0, iv 2, rv b1, iv 1, rv b7] [(.int c1_)]
  refine os (fun _ z => XS.sipush X10.here hx rfl (hb hby d4_35) z) ?_
  refine os (fun _ z => XS.icmpYes X10.here hx rfl (pc0 := 38) (pc' := 54) rfl (hb hby d4_38) rfl (XT.ii_gt_t hb1) (by decide) (by decide) z) ?_
  show OG p e below Φ T10 m 54 #[rv a, iv 0, iv 2, rv b1, iv 1, rv b7] []
  refine os (fun _ z => XS.aload X10.here hx rfl (hb hby d4_54) rfl rfl z) ?_
  refine OGo.fin X10 hlk (v := (some (.ref b7))) (fun h => by rw [hret] at h; cases h) (by decide) (by decide) (fun fs hr => X10.areturnOut hx rfl hret rfl (hb hby d4_56) hr) fun U eU hF => hΦ _ _ _ ?_ hF
  rw [eU, e10]
  show Q_rsb2_1c3 Z a ca c0_ c1_ h0 n0 _ _ _
  exact ⟨_, _, rfl, N10, K7, Vq7, sq7⟩

theorem ef_rsb2_1i4 (m : MethodId) (x0 : Addr) (x1 : Addr) (x2 : Int32) (x3 : Int32) : entryFrame m #[(.ref x0), (.ref x1), (.int x2), (.int x3), .null] 6 = mkF m 0 #[.val (.ref x0), .val (.ref x1), .val (.int x2), .val (.int x3), .val .null, .unset] [] := by first | (simp [entryFrame, mkF, argsToLocals, Value.category]; done) | rfl
def Q_rsb2_1i4 (Z : State) (s_ : Addr) (a : Addr) (ca : ClassId) (qc : Int32) (c0_ : Int32) (c1_ : Int32) (h0 : Heap) (n0 : Nat) (v : Option Value) (h : Heap) (L : List Loc) : Prop := v = none ∧ Fr n0 L ∧ Keep h0 h [s_] ∧ Exa Z h s_ "java/lang/String" ∧ ∃ b cb, Fld Z h s_ "java/lang/String" "value" "[B" (.ref b) ∧ Fld Z h s_ "java/lang/String" "coder" "B" (.int (1 : Int32)) ∧ Arv Z h b cb .byte (4 : Int32) [(.int (ohb c0_)), (.int (olb c0_)), (.int (ohb c1_)), (.int (olb c1_))] (.int (0 : Int32)) ∧ h0.size ≤ b
set_option maxRecDepth 65536 in
set_option maxHeartbeats 40000000 in
theorem rsb2_1i4 (l : Launch) (Z : State) (a0 : Array Value) (hw : ∀ d ∈ tables_1, d.before a0 Z = true) (ws : List Jvm.Cond) (s_ : Addr) (a : Addr) (ca : ClassId) (qc : Int32) (c0_ : Int32) (c1_ : Int32) (h0 : Heap) (n0 : Nat) (Z0 : n0 ≤ h0.size) (E_s : Exa Z h0 s_ "java/lang/String") (g_s : n0 ≤ s_) (F_v : Fld Z h0 s_ "java/lang/String" "value" "[B" .null) (F_c : Fld Z h0 s_ "java/lang/String" "coder" "B" (.int (0 : Int32))) (V_a : Arv Z h0 a ca .char (2 : Int32) [(.int c0_), (.int c1_)] (.int (0 : Int32))) (nsa : s_ ≠ a) (S_cs : Sta Z Z.heap "java/lang/String" "COMPACT_STRINGS" "Z" (.int qc)) (hq : ¬ qc = 0) (O_0 : Old Z n0 h0) (S_ad : Sta Z Z.heap "java/lang/StringUTF16" "$assertionsDisabled" "Z" (.int (1 : Int32))) (S_hb : Sta Z Z.heap "java/lang/StringUTF16" "HI_BYTE_SHIFT" "I" (.int (0 : Int32))) (S_lb : Sta Z Z.heap "java/lang/StringUTF16" "LO_BYTE_SHIFT" "I" (.int (8 : Int32))) (hl0 : ¬ (255 : Int32) < c0_) (hb1 : (255 : Int32) < c1_) (hr1 : nar .char c1_ = c1_) :
    OCon l Z (⟨"java/lang/String", "<init>", "([CIILjava/lang/Void;)V"⟩ : MethodName) jdk_42_method_149_code 6 none ws ({ frames := 4, cells := 2, slots := 6, locals := 57 } : Room) #[(.ref s_), (.ref a), (.int (0 : Int32)), (.int (2 : Int32)), .null] h0 (Q_rsb2_1i4 Z s_ a ca qc c0_ c1_ h0 n0) := by
  refine OCon.of (plainFor_of_name pn0) ?_
  intro p e s m below meth c s₁ Φ X0 hx hby hml hown hnm hret hlk hZ e0 hΦ
  have N0 := Fr.nil n0
  refine os (fun _ z => castTop (ef_rsb2_1i4 m s_ a (0 : Int32) (2 : Int32)) z) ?_
  have K0 := Keep.refl h0 [s_]
  show OG p e below Φ s₁ m 0 #[rv s_, rv a, iv 0, iv 2, .val .null, .unset] []
  refine os (fun _ z => XS.aloadN X0.here hx rfl (hb hby d2_0) rfl rfl z) ?_
  obtain ⟨T1, X1, e1, st1⟩ := initO X0 hx hZ hown (ow14 hw) (ow15 hw) (ow16 hw) e0 (g := (mkF m 1 #[rv s_, rv a, iv 0, iv 2, .val .null, .unset] [(.ref s_)])) rfl (by rw [hml]; rfl) rfl (hb hby d2_1) (by decide) (W := 0) (Nat.le_of_eq rfl) (by decide)
  refine os st1 ?_
  show OG p e below Φ T1 m 4 #[rv s_, rv a, iv 0, iv 2, .val .null, .unset] []
  refine os (fun _ z => XS.iloadN X1.here hx rfl (hb hby d2_4) rfl z) ?_
  refine os (fun _ z => XS.ifYes X1.here hx rfl (pc0 := 5) (pc' := 27) rfl (hb hby d2_5) rfl (XT.i0_ne_t (by decide)) (by decide) (by decide) z) ?_
  show OG p e below Φ T1 m 27 #[rv s_, rv a, iv 0, iv 2, .val .null, .unset] []
  have Sq := S_cs.ext O_0.2
  obtain ⟨T2, X2, e2, st2⟩ := getS2 X1 hx hZ hown (host := "") (Or.inl (ow17 hw)) Via.refl e1 Sq (g := (mkF m 27 #[rv s_, rv a, iv 0, iv 2, .val .null, .unset] [])) rfl (hb hby d2_27)
  refine os st2 ?_
  show OG p e below Φ T2 m 30 #[rv s_, rv a, iv 0, iv 2, .val .null, .unset] [(.int qc)]
  refine os (fun _ z => XS.ifNo X2.here hx rfl (hb hby d2_30) rfl (XT.i0_eq_f hq) z) ?_
  show OG p e below Φ T2 m 33 #[rv s_, rv a, iv 0, iv 2, .val .null, .unset] []
  refine os (fun _ z => XS.aloadN X2.here hx rfl (hb hby d2_33) rfl rfl z) ?_
  refine os (fun _ z => XS.iloadN X2.here hx rfl (hb hby d2_34) rfl z) ?_
  show OG p e below Φ T2 m 35 #[rv s_, rv a, iv 0, iv 2, .val .null, .unset] [(.int 0), (.ref a)]
  refine os (fun _ z => XS.iloadN X2.here hx rfl (hb hby d2_35) rfl z) ?_
  obtain ⟨_, T3, L3, X3, hQ3, st3⟩ := own_callSt X2 hx hZ hown (ow18 hw) (ow19 hw) (ow20 hw) (ow21 hw) (by decide) (rsb2_1c3 l Z a0 hw [] a ca c0_ c1_ h0 n0 Z0 V_a O_0 S_ad S_hb S_lb hl0 hb1 hr1) e2 (W := 0) (by decide) (by decide) (by decide) (by decide) (pc := 36) (ls := #[rv s_, rv a, iv 0, iv 2, .val .null, .unset]) (stk := [(.int 2), (.int 0), (.ref a)]) (by rw [hml]; rfl) (argsL := [(.ref a), (.int 0), (.int 2)]) (rest := []) (lenOf pd2 rfl) rfl rfl (Nat.le_of_eq rfl) (hb hby d2_36)
  obtain ⟨b3, cb3, rfl, Nq3, Kq3, Vq3, hz3⟩ := hQ3
  have nq3_a : a ≠ b3 := Nat.ne_of_lt (Nat.lt_of_lt_of_le V_a.lt hz3)
  have nq3_s_ : s_ ≠ b3 := Nat.ne_of_lt (Nat.lt_of_lt_of_le E_s.lt hz3)
  have gq3 : n0 ≤ b3 := Nat.le_trans Z0 hz3
  have sq3 : h0.size ≤ b3 := Nat.le_trans K0.1 hz3
  have N3 := Fr.app N0 Nq3
  have Zs3 : n0 ≤ T3.heap.size := Nat.le_trans Z0 Kq3.1
  have F4 := E_s.keep Kq3
  have F5 := F_v.keep Kq3 nin0
  have F6 := F_c.keep Kq3 nin0
  have F7 := V_a.keep Kq3 nin0
  have F8 := O_0.keep Kq3 all0
  have K3 := K0.trans Kq3 all0
  refine os st3 ?_
  show OG p e below Φ T3 m 39 #[rv s_, rv a, iv 0, iv 2, .val .null, .unset] [(.ref b3)]
  refine os (fun _ z => XS.astore X3.here hx rfl (hb hby d2_39) rfl rfl (l' := #[rv s_, rv a, iv 0, iv 2, .val .null, rv b3]) rfl z) ?_
  show OG p e below Φ T3 m 41 #[rv s_, rv a, iv 0, iv 2, .val .null, rv b3] []
  refine os (fun _ z => XS.aloadN X3.here hx rfl (hb hby d2_41) rfl rfl z) ?_
  refine os (fun _ z => XS.aload X3.here hx rfl (hb hby d2_42) rfl rfl z) ?_
  show OG p e below Φ T3 m 44 #[rv s_, rv a, iv 0, iv 2, .val .null, rv b3] [(.ref b3), (.ref s_)]
  refine os (fun _ z => XS.iloadN X3.here hx rfl (hb hby d2_44) rfl z) ?_
  obtain ⟨_, T9, L9, X9, hQ9, st9⟩ := own_callSt X3 hx hZ hown (ow25 hw) (ow26 hw) (ow20 hw) (ow27 hw) (by decide) (rsb2_0cf l Z a0 hw [] b3 cb3 c0_ c1_ T3.heap n0 Zs3 Vq3) rfl (W := 1) (by decide) (by decide) (by decide) (by decide) (pc := 45) (ls := #[rv s_, rv a, iv 0, iv 2, .val .null, rv b3]) (stk := [(.int 2), (.ref b3), (.ref s_)]) (by rw [hml]; rfl) (argsL := [(.ref b3), (.int 2)]) (rest := [(.ref s_)]) (lenOf pd3 rfl) rfl rfl (Nat.le_of_eq rfl) (hb hby d2_45)
  obtain ⟨rfl, Nq9, e9⟩ := hQ9
  have N9 := Fr.app N3 Nq9
  refine os st9 ?_
  show OG p e below Φ T9 m 48 #[rv s_, rv a, iv 0, iv 2, .val .null, rv b3] [(.int 1), (.ref s_)]
  obtain ⟨T10, h10, X10, e10, W10, st10⟩ := putF X9 hx hZ hown (host := "") (Or.inl (ow28 hw)) Via.refl e9 F6 F4 (Or.inr ⟨(ow29 hw), rfl, hnm⟩) (ow5 hw) (ty := .byte) (by decide) (by decide) (by decide) (g := (mkF m 48 #[rv s_, rv a, iv 0, iv 2, .val .null, rv b3] [(.int 1), (.ref s_)])) rfl rfl (hb hby d2_48)
  have F11 := F4.wr W10
  have F12 := F5.other W10 (Or.inr (slot_ne (Or.inr (ow31 hw)) (Or.inr (ow29 hw)) (by decide) (t := (.array .byte)) (t' := .byte) (by decide) (by decide)))
  have F13 := F6.same W10
  have F14 := F7.other W10 (Ne.symm nsa)
  have F15 := F8.wr W10 g_s
  have F16 := Vq3.other W10 (Ne.symm nq3_s_)
  have K10 := K3.wr W10 (Or.inl (List.mem_of_getElem? (i := 0) rfl))
  have N10 := Fr.snoc X10 N9 g_s
  have Zs10 : n0 ≤ h10.size := by rw [W10.size]; exact Zs3
  refine os st10 ?_
  show OG p e below Φ T10 m 51 #[rv s_, rv a, iv 0, iv 2, .val .null, rv b3] []
  refine os (fun _ z => XS.aloadN X10.here hx rfl (hb hby d2_51) rfl rfl z) ?_
  refine os (fun _ z => XS.aload X10.here hx rfl (hb hby d2_52) rfl rfl z) ?_
  show OG p e below Φ T10 m 54 #[rv s_, rv a, iv 0, iv 2, .val .null, rv b3] [(.ref b3), (.ref s_)]
  obtain ⟨T17, h17, X17, e17, W17, st17⟩ := putF X10 hx hZ hown (host := "") (Or.inl (ow30 hw)) Via.refl e10 F12 F11 (Or.inr ⟨(ow31 hw), rfl, hnm⟩) (ow5 hw) (ty := (.array .byte)) (by decide) rfl rfl (g := (mkF m 54 #[rv s_, rv a, iv 0, iv 2, .val .null, rv b3] [(.ref b3), (.ref s_)])) rfl rfl (hb hby d2_54)
  have F18 := F11.wr W17
  have F19 := F12.same W17
  have F20 := F13.other W17 (Or.inr (slot_ne (Or.inr (ow29 hw)) (Or.inr (ow31 hw)) (by decide) (t := .byte) (t' := (.array .byte)) (by decide) (by decide)))
  have F21 := F14.other W17 (Ne.symm nsa)
  have F22 := F15.wr W17 g_s
  have F23 := F16.other W17 (Ne.symm nq3_s_)
  have K17 := K10.wr W17 (Or.inl (List.mem_of_getElem? (i := 0) rfl))
  have N17 := Fr.snoc X17 N10 g_s
  have Zs17 : n0 ≤ h17.size := by rw [W17.size]; exact Zs10
  refine os st17 ?_
  show OG p e below Φ T17 m 57 #[rv s_, rv a, iv 0, iv 2, .val .null, rv b3] []
  refine OGo.fin X17 hlk (v := none) (fun _ => rfl) (by decide) (by decide) (fun fs hr => X17.returnOut hx hret (hb hby d2_57) hr) fun U eU hF => hΦ _ _ _ ?_ hF
  rw [eU, e17]
  show Q_rsb2_1i4 Z s_ a ca qc c0_ c1_ h0 n0 _ _ _
  exact ⟨rfl, N17, K17, F18, _, _, F19, F20, F23, sq3⟩

theorem ef_rsb2_1i1 (m : MethodId) (x0 : Addr) (x1 : Addr) : entryFrame m #[(.ref x0), (.ref x1)] 2 = mkF m 0 #[.val (.ref x0), .val (.ref x1)] [] := by first | (simp [entryFrame, mkF, argsToLocals, Value.category]; done) | rfl
def Q_rsb2_1i1 (Z : State) (s_ : Addr) (a : Addr) (ca : ClassId) (qc : Int32) (c0_ : Int32) (c1_ : Int32) (h0 : Heap) (n0 : Nat) (v : Option Value) (h : Heap) (L : List Loc) : Prop := v = none ∧ Fr n0 L ∧ Keep h0 h [s_] ∧ Exa Z h s_ "java/lang/String" ∧ ∃ b cb, Fld Z h s_ "java/lang/String" "value" "[B" (.ref b) ∧ Fld Z h s_ "java/lang/String" "coder" "B" (.int (1 : Int32)) ∧ Arv Z h b cb .byte (4 : Int32) [(.int (ohb c0_)), (.int (olb c0_)), (.int (ohb c1_)), (.int (olb c1_))] (.int (0 : Int32)) ∧ h0.size ≤ b
set_option maxRecDepth 65536 in
set_option maxHeartbeats 40000000 in
theorem rsb2_1i1 (l : Launch) (Z : State) (a0 : Array Value) (hw : ∀ d ∈ tables_1, d.before a0 Z = true) (ws : List Jvm.Cond) (s_ : Addr) (a : Addr) (ca : ClassId) (qc : Int32) (c0_ : Int32) (c1_ : Int32) (h0 : Heap) (n0 : Nat) (Z0 : n0 ≤ h0.size) (E_s : Exa Z h0 s_ "java/lang/String") (g_s : n0 ≤ s_) (F_v : Fld Z h0 s_ "java/lang/String" "value" "[B" .null) (F_c : Fld Z h0 s_ "java/lang/String" "coder" "B" (.int (0 : Int32))) (V_a : Arv Z h0 a ca .char (2 : Int32) [(.int c0_), (.int c1_)] (.int (0 : Int32))) (nsa : s_ ≠ a) (S_cs : Sta Z Z.heap "java/lang/String" "COMPACT_STRINGS" "Z" (.int qc)) (hq : ¬ qc = 0) (O_0 : Old Z n0 h0) (S_ad : Sta Z Z.heap "java/lang/StringUTF16" "$assertionsDisabled" "Z" (.int (1 : Int32))) (S_hb : Sta Z Z.heap "java/lang/StringUTF16" "HI_BYTE_SHIFT" "I" (.int (0 : Int32))) (S_lb : Sta Z Z.heap "java/lang/StringUTF16" "LO_BYTE_SHIFT" "I" (.int (8 : Int32))) (hl0 : ¬ (255 : Int32) < c0_) (hb1 : (255 : Int32) < c1_) (hr1 : nar .char c1_ = c1_) :
    OCon l Z (⟨"java/lang/String", "<init>", "([C)V"⟩ : MethodName) jdk_42_method_3_code 2 none ws ({ frames := 5, cells := 2, slots := 6, locals := 74 } : Room) #[(.ref s_), (.ref a)] h0 (Q_rsb2_1i1 Z s_ a ca qc c0_ c1_ h0 n0) := by
  refine OCon.of (plainFor_of_name pn0) ?_
  intro p e s m below meth c s₁ Φ X0 hx hby hml hown hnm hret hlk hZ e0 hΦ
  have N0 := Fr.nil n0
  refine os (fun _ z => castTop (ef_rsb2_1i1 m s_ a) z) ?_
  have K0 := Keep.refl h0 [s_]
  show OG p e below Φ s₁ m 0 #[rv s_, rv a] []
  refine os (fun _ z => XS.aloadN X0.here hx rfl (hb hby d1_0) rfl rfl z) ?_
  refine os (fun _ z => XS.aloadN X0.here hx rfl (hb hby d1_1) rfl rfl z) ?_
  show OG p e below Φ s₁ m 2 #[rv s_, rv a] [(.ref a), (.ref s_)]
  refine os (fun _ z => XS.iconst X0.here hx rfl (hb hby d1_2) z) ?_
  refine os (fun _ z => XS.aloadN X0.here hx rfl (hb hby d1_3) rfl rfl z) ?_
  show OG p e below Φ s₁ m 4 #[rv s_, rv a] [(.ref a), (.int 0), (.ref a), (.ref s_)]
  obtain ⟨cl1, Aq1, -, S1, M1, -, -⟩ := id V_a
  refine os (fun _ z => X0.arraylength hx (by rw [e0]; exact Aq1.1) (oia hZ Aq1.2.1) (g := (mkF m 4 #[rv s_, rv a] [(.ref a), (.int 0), (.ref a), (.ref s_)])) rfl rfl (hb hby d1_4) _ z) ?_
  rw [len_of S1 M1]
  show OG p e below Φ s₁ m 5 #[rv s_, rv a] [(.int 2), (.int 0), (.ref a), (.ref s_)]
  refine os (fun _ z => XS.aconstNull X0.here hx rfl (hb hby d1_5) z) ?_
  obtain ⟨_, T2, L2, X2, hQ2, st2⟩ := own_callSp X0 hx hZ rfl hown (ow10 hw) (ow11 hw) (ow6 hw) (ow13 hw) (by decide) (rsb2_1i4 l Z a0 hw [] s_ a ca qc c0_ c1_ h0 n0 Z0 E_s g_s F_v F_c V_a nsa S_cs hq O_0 S_ad S_hb S_lb hl0 hb1 hr1) e0 (W := 0) (by decide) (by decide) (by decide) (by decide) (pc := 6) (ls := #[rv s_, rv a]) (stk := [.null, (.int 2), (.int 0), (.ref a), (.ref s_)]) (by rw [hml]; rfl) (a := s_) (argsL := [(.ref a), (.int 0), (.int 2), .null]) (rest := []) (lenOf pd0 rfl) rfl rfl (Nat.le_of_eq rfl) (hb hby d1_6)
  obtain ⟨rfl, Nq2, Kq2, Eq2, b2, cb2, Fv2, Fc2, Vq2, hz2⟩ := hQ2
  have nq2_a : a ≠ b2 := Nat.ne_of_lt (Nat.lt_of_lt_of_le V_a.lt hz2)
  have nq2_s_ : s_ ≠ b2 := Nat.ne_of_lt (Nat.lt_of_lt_of_le E_s.lt hz2)
  have gq2 : n0 ≤ b2 := Nat.le_trans Z0 hz2
  have sq2 : h0.size ≤ b2 := Nat.le_trans K0.1 hz2
  have N2 := Fr.app N0 Nq2
  have Zs2 : n0 ≤ T2.heap.size := Nat.le_trans Z0 Kq2.1
  have F3 := V_a.keep Kq2 (ninS (Ne.symm nsa) nin0)
  have F4 := O_0.keep Kq2 (allS g_s all0)
  have K2 := K0.trans Kq2 (allS (Or.inl (List.mem_of_getElem? (i := 0) rfl)) all0)
  refine os st2 ?_
  show OG p e below Φ T2 m 9 #[rv s_, rv a] []
  refine OGo.fin X2 hlk (v := none) (fun _ => rfl) (by decide) (by decide) (fun fs hr => X2.returnOut hx hret (hb hby d1_9) hr) fun U eU hF => hΦ _ _ _ ?_ hF
  rw [eU]
  show Q_rsb2_1i1 Z s_ a ca qc c0_ c1_ h0 n0 _ _ _
  exact ⟨rfl, N2, K2, Eq2, _, _, Fv2, Fc2, Vq2, sq2⟩

theorem ef_rsl3c2 (m : MethodId) (x0 : Addr) (x1 : Int32) (x2 : Addr) (x3 : Int32) (x4 : Int32) : entryFrame m #[(.ref x0), (.int x1), (.ref x2), (.int x3), (.int x4)] 7 = mkF m 0 #[.val (.ref x0), .val (.int x1), .val (.ref x2), .val (.int x3), .val (.int x4), .unset, .unset] [] := by first | (simp [entryFrame, mkF, argsToLocals, Value.category]; done) | rfl
def Q_rsl3c2 (Z : State) (a : Addr) (ca : ClassId) (b : Addr) (cb : ClassId) (c0_ : Int32) (c1_ : Int32) (c2_ : Int32) (h0 : Heap) (n0 : Nat) (v : Option Value) (h : Heap) (L : List Loc) : Prop := v = some (.int (3 : Int32)) ∧ Fr n0 L ∧ Keep h0 h [b] ∧ Arv Z h b cb .byte (3 : Int32) [(.int (nar .byte (c0_.toInt8.toInt32))), (.int (nar .byte (c1_.toInt8.toInt32))), (.int (nar .byte (c2_.toInt8.toInt32)))] (.int (0 : Int32))
set_option maxRecDepth 65536 in
set_option maxHeartbeats 40000000 in
theorem rsl3c2 (l : Launch) (Z : State) (a0 : Array Value) (hw : ∀ d ∈ tables_1, d.before a0 Z = true) (ws : List Jvm.Cond) (a : Addr) (ca : ClassId) (b : Addr) (cb : ClassId) (c0_ : Int32) (c1_ : Int32) (c2_ : Int32) (h0 : Heap) (n0 : Nat) (Z0 : n0 ≤ h0.size) (V_a : Arv Z h0 a ca .char (3 : Int32) [(.int c0_), (.int c1_), (.int c2_)] (.int (0 : Int32))) (V_b : Arv Z h0 b cb .byte (3 : Int32) [(.int (0 : Int32)), (.int (0 : Int32)), (.int (0 : Int32))] (.int (0 : Int32))) (nab : a ≠ b) (g_b : n0 ≤ b) (hl0 : ¬ (255 : Int32) < c0_) (hl1 : ¬ (255 : Int32) < c1_) (hl2 : ¬ (255 : Int32) < c2_) :
    OCon l Z (⟨"java/lang/StringUTF16", "compress", "([CI[BII)I"⟩ : MethodName) jdk_52_method_21_code 7 (some .int) ws ({ frames := 0, cells := 0, slots := 0, locals := 0 } : Room) #[(.ref a), (.int (0 : Int32)), (.ref b), (.int (0 : Int32)), (.int (3 : Int32))] h0 (Q_rsl3c2 Z a ca b cb c0_ c1_ c2_ h0 n0) := by
  refine OCon.of (plainFor_of_name pn1) ?_
  intro p e s m below meth c s₁ Φ X0 hx hby hml hown hnm hret hlk hZ e0 hΦ
  have N0 := Fr.nil n0
  refine os (fun _ z => castTop (ef_rsl3c2 m a (0 : Int32) b (0 : Int32) (3 : Int32)) z) ?_
  have K0 := Keep.refl h0 [b]
  show OG p e below Φ s₁ m 0 #[rv a, iv 0, rv b, iv 0, iv 3, .unset, .unset] []
  refine os (fun _ z => XS.iconst X0.here hx rfl (hb hby d5_0) z) ?_
  refine os (fun _ z => XS.istore X0.here hx rfl (hb hby d5_1) rfl (l' := #[rv a, iv 0, rv b, iv 0, iv 3, iv 0, .unset]) rfl z) ?_
  show OG p e below Φ s₁ m 3 #[rv a, iv 0, rv b, iv 0, iv 3, iv 0, .unset] []
  refine os (fun _ z => XS.iload X0.here hx rfl (hb hby d5_3) rfl z) ?_
  refine os (fun _ z => XS.iload X0.here hx rfl (hb hby d5_5) rfl z) ?_
  show OG p e below Φ s₁ m 7 #[rv a, iv 0, rv b, iv 0, iv 3, iv 0, .unset] [(.int 3), (.int 0)]
  refine os (fun _ z => XS.icmpNo X0.here hx rfl (hb hby d5_7) rfl (XT.ii_ge_f (by decide)) z) ?_
  show OG p e below Φ s₁ m 10 #[rv a, iv 0, rv b, iv 0, iv 3, iv 0, .unset] []
  refine os (fun _ z => XS.aloadN X0.here hx rfl (hb hby d5_10) rfl rfl z) ?_
  refine os (fun _ z => XS.iloadN X0.here hx rfl (hb hby d5_11) rfl z) ?_
  show OG p e below Φ s₁ m 12 #[rv a, iv 0, rv b, iv 0, iv 3, iv 0, .unset] [(.int 0), (.ref a)]
  obtain ⟨cl1, Aq1, -, S1, M1, H1, -⟩ := id V_a
  have in1 : ¬ ((0 : Int32) < 0 ∨ cl1.slots.size ≤ (0 : Int32).toNatClampNeg) := inb_of S1 ⟨by decide, by decide⟩
  have at1 : cl1.slots[(0 : Int32).toNatClampNeg]? = some (.int c0_) := H1.at in1 rfl
  refine os (fun _ z => X0.caload hx (by rw [e0]; exact Aq1.1) (oia hZ Aq1.2.1) Aq1.2.2 in1 at1 (g := (mkF m 12 #[rv a, iv 0, rv b, iv 0, iv 3, iv 0, .unset] [(.int 0), (.ref a)])) rfl rfl (hb hby d5_12) _ z) ?_
  show OG p e below Φ s₁ m 13 #[rv a, iv 0, rv b, iv 0, iv 3, iv 0, .unset] [(.int c0_)]
  refine os (fun _ z => XS.istore X0.here hx rfl (hb hby d5_13) rfl (l' := #[rv a, iv 0, rv b, iv 0, iv 3, iv 0, iv c0_]) rfl z) ?_
  show OG p e below Φ s₁ m 15 #[rv a, iv 0, rv b, iv 0, iv 3, iv 0, iv c0_] []
  refine os (fun _ z => XS.iload X0.here hx rfl (hb hby d5_15) rfl z) ?_
  refine os (fun _ z => XS.sipush X0.here hx rfl (hb hby d5_17) z) ?_
  show OG p e below Φ s₁ m 20 #[rv a, iv 0, rv b, iv 0, iv 3, iv 0, iv c0_] [(.int 255), (.int c0_)]
  refine os (fun _ z => XS.icmpYes X0.here hx rfl (pc0 := 20) (pc' := 26) rfl (hb hby d5_20) rfl (XT.ii_le_t hl0) (by decide) (by decide) z) ?_
  show OG p e below Φ s₁ m 26 #[rv a, iv 0, rv b, iv 0, iv 3, iv 0, iv c0_] []
  refine os (fun _ z => XS.aloadN X0.here hx rfl (hb hby d5_26) rfl rfl z) ?_
  refine os (fun _ z => XS.iloadN X0.here hx rfl (hb hby d5_27) rfl z) ?_
  show OG p e below Φ s₁ m 28 #[rv a, iv 0, rv b, iv 0, iv 3, iv 0, iv c0_] [(.int 0), (.ref b)]
  refine os (fun _ z => XS.iload X0.here hx rfl (hb hby d5_28) rfl z) ?_
  refine os (fun _ z => XT.i2b X0.here hx rfl (hb hby d5_30) rfl z) ?_
  show OG p e below Φ s₁ m 31 #[rv a, iv 0, rv b, iv 0, iv 3, iv 0, iv c0_] [(.int (c0_.toInt8.toInt32)), (.int 0), (.ref b)]
  obtain ⟨cl2, Aq2, Cq2, S2, M2, H2, G2⟩ := id V_b
  have in2 : ¬ ((0 : Int32) < 0 ∨ cl2.slots.size ≤ (0 : Int32).toNatClampNeg) := inb_of S2 ⟨by decide, by decide⟩
  obtain ⟨T2, h2, X2, e2, W2, st2⟩ := stB X0 hx hZ e0 Aq2 in2 (g := (mkF m 31 #[rv a, iv 0, rv b, iv 0, iv 3, iv 0, iv c0_] [(.int (c0_.toInt8.toInt32)), (.int 0), (.ref b)])) rfl rfl (hb hby d5_31)
  have W2 : Wr h0 h2 b (0 : Int32).toNatClampNeg (.int (nar .byte (c0_.toInt8.toInt32))) := W2
  have F3 := V_a.other W2 nab
  have V2 : Arv Z h2 b cb .byte (3 : Int32) [(.int (nar .byte (c0_.toInt8.toInt32))), (.int (0 : Int32)), (.int (0 : Int32))] (.int (0 : Int32)) := Arv.set Aq2 Cq2 S2 M2 H2 G2 (fits_nar_byte _) W2 0 (by decide) (by show 0 < 3; decide)
  have K2 := K0.wr W2 (Or.inl (List.mem_of_getElem? (i := 0) rfl))
  have N2 := Fr.snoc X2 N0 g_b
  have Zs2 : n0 ≤ h2.size := by rw [W2.size]; exact Z0
  refine os st2 ?_
  show OG p e below Φ T2 m 32 #[rv a, iv 0, rv b, iv 0, iv 3, iv 0, iv c0_] []
  refine os (fun _ z => XS.iinc X2.here hx rfl (hb hby d5_32) rfl (l' := #[rv a, iv ((0 : Int32) + (1 : Int32)), rv b, iv 0, iv 3, iv 0, iv c0_]) rfl z) ?_
  show OG p e below Φ T2 m 35 #[rv a, iv 1, rv b, iv 0, iv 3, iv 0, iv c0_] []
  refine os (fun _ z => XS.iinc X2.here hx rfl (hb hby d5_35) rfl (l' := #[rv a, iv 1, rv b, iv ((0 : Int32) + (1 : Int32)), iv 3, iv 0, iv c0_]) rfl z) ?_
  show OG p e below Φ T2 m 38 #[rv a, iv 1, rv b, iv 1, iv 3, iv 0, iv c0_] []
  refine os (fun _ z => XS.iinc X2.here hx rfl (hb hby d5_38) rfl (l' := #[rv a, iv 1, rv b, iv 1, iv 3, iv ((0 : Int32) + (1 : Int32)), iv c0_]) rfl z) ?_
  show OG p e below Φ T2 m 41 #[rv a, iv 1, rv b, iv 1, iv 3, iv 1, iv c0_] []
  refine os (fun _ z => XS.goto X2.here hx rfl (pc0 := 41) (pc' := 3) rfl (hb hby d5_41) (by decide) (by decide) z) ?_
  show OG p e below Φ T2 m 3 #[rv a, iv 1, rv b, iv 1, iv 3, iv 1, iv c0_] []
  refine os (fun _ z => XS.iload X2.here hx rfl (hb hby d5_3) rfl z) ?_
  refine os (fun _ z => XS.iload X2.here hx rfl (hb hby d5_5) rfl z) ?_
  show OG p e below Φ T2 m 7 #[rv a, iv 1, rv b, iv 1, iv 3, iv 1, iv c0_] [(.int 3), (.int 1)]
  refine os (fun _ z => XS.icmpNo X2.here hx rfl (hb hby d5_7) rfl (XT.ii_ge_f (by decide)) z) ?_
  show OG p e below Φ T2 m 10 #[rv a, iv 1, rv b, iv 1, iv 3, iv 1, iv c0_] []
  refine os (fun _ z => XS.aloadN X2.here hx rfl (hb hby d5_10) rfl rfl z) ?_
  refine os (fun _ z => XS.iloadN X2.here hx rfl (hb hby d5_11) rfl z) ?_
  show OG p e below Φ T2 m 12 #[rv a, iv 1, rv b, iv 1, iv 3, iv 1, iv c0_] [(.int 1), (.ref a)]
  obtain ⟨cl4, Aq4, -, S4, M4, H4, -⟩ := id F3
  have in4 : ¬ ((1 : Int32) < 0 ∨ cl4.slots.size ≤ (1 : Int32).toNatClampNeg) := inb_of S4 ⟨by decide, by decide⟩
  have at4 : cl4.slots[(1 : Int32).toNatClampNeg]? = some (.int c1_) := H4.at in4 rfl
  refine os (fun _ z => X2.caload hx (by rw [e2]; exact Aq4.1) (oia hZ Aq4.2.1) Aq4.2.2 in4 at4 (g := (mkF m 12 #[rv a, iv 1, rv b, iv 1, iv 3, iv 1, iv c0_] [(.int 1), (.ref a)])) rfl rfl (hb hby d5_12) _ z) ?_
  show OG p e below Φ T2 m 13 #[rv a, iv 1, rv b, iv 1, iv 3, iv 1, iv c0_] [(.int c1_)]
  refine os (fun _ z => XS.istore X2.here hx rfl (hb hby d5_13) rfl (l' := #[rv a, iv 1, rv b, iv 1, iv 3, iv 1, iv c1_]) rfl z) ?_
  show OG p e below Φ T2 m 15 #[rv a, iv 1, rv b, iv 1, iv 3, iv 1, iv c1_] []
  refine os (fun _ z => XS.iload X2.here hx rfl (hb hby d5_15) rfl z) ?_
  refine os (fun _ z => XS.sipush X2.here hx rfl (hb hby d5_17) z) ?_
  show OG p e below Φ T2 m 20 #[rv a, iv 1, rv b, iv 1, iv 3, iv 1, iv c1_] [(.int 255), (.int c1_)]
  refine os (fun _ z => XS.icmpYes X2.here hx rfl (pc0 := 20) (pc' := 26) rfl (hb hby d5_20) rfl (XT.ii_le_t hl1) (by decide) (by decide) z) ?_
  show OG p e below Φ T2 m 26 #[rv a, iv 1, rv b, iv 1, iv 3, iv 1, iv c1_] []
  refine os (fun _ z => XS.aloadN X2.here hx rfl (hb hby d5_26) rfl rfl z) ?_
  refine os (fun _ z => XS.iloadN X2.here hx rfl (hb hby d5_27) rfl z) ?_
  show OG p e below Φ T2 m 28 #[rv a, iv 1, rv b, iv 1, iv 3, iv 1, iv c1_] [(.int 1), (.ref b)]
  refine os (fun _ z => XS.iload X2.here hx rfl (hb hby d5_28) rfl z) ?_
  refine os (fun _ z => XT.i2b X2.here hx rfl (hb hby d5_30) rfl z) ?_
  show OG p e below Φ T2 m 31 #[rv a, iv 1, rv b, iv 1, iv 3, iv 1, iv c1_] [(.int (c1_.toInt8.toInt32)), (.int 1), (.ref b)]
  obtain ⟨cl5, Aq5, Cq5, S5, M5, H5, G5⟩ := id V2
  have in5 : ¬ ((1 : Int32) < 0 ∨ cl5.slots.size ≤ (1 : Int32).toNatClampNeg) := inb_of S5 ⟨by decide, by decide⟩
  obtain ⟨T5, h5, X5, e5, W5, st5⟩ := stB X2 hx hZ e2 Aq5 in5 (g := (mkF m 31 #[rv a, iv 1, rv b, iv 1, iv 3, iv 1, iv c1_] [(.int (c1_.toInt8.toInt32)), (.int 1), (.ref b)])) rfl rfl (hb hby d5_31)
  have W5 : Wr h2 h5 b (1 : Int32).toNatClampNeg (.int (nar .byte (c1_.toInt8.toInt32))) := W5
  have F6 := F3.other W5 nab
  have V5 : Arv Z h5 b cb .byte (3 : Int32) [(.int (nar .byte (c0_.toInt8.toInt32))), (.int (nar .byte (c1_.toInt8.toInt32))), (.int (0 : Int32))] (.int (0 : Int32)) := Arv.set Aq5 Cq5 S5 M5 H5 G5 (fits_nar_byte _) W5 1 (by decide) (by show 1 < 3; decide)
  have K5 := K2.wr W5 (Or.inl (List.mem_of_getElem? (i := 0) rfl))
  have N5 := Fr.snoc X5 N2 g_b
  have Zs5 : n0 ≤ h5.size := by rw [W5.size]; exact Zs2
  refine os st5 ?_
  show OG p e below Φ T5 m 32 #[rv a, iv 1, rv b, iv 1, iv 3, iv 1, iv c1_] []
  refine os (fun _ z => XS.iinc X5.here hx rfl (hb hby d5_32) rfl (l' := #[rv a, iv ((1 : Int32) + (1 : Int32)), rv b, iv 1, iv 3, iv 1, iv c1_]) rfl z) ?_
  show OG p e below Φ T5 m 35 #[rv a, iv 2, rv b, iv 1, iv 3, iv 1, iv c1_] []
  refine os (fun _ z => XS.iinc X5.here hx rfl (hb hby d5_35) rfl (l' := #[rv a, iv 2, rv b, iv ((1 : Int32) + (1 : Int32)), iv 3, iv 1, iv c1_]) rfl z) ?_
  show OG p e below Φ T5 m 38 #[rv a, iv 2, rv b, iv 2, iv 3, iv 1, iv c1_] []
  refine os (fun _ z => XS.iinc X5.here hx rfl (hb hby d5_38) rfl (l' := #[rv a, iv 2, rv b, iv 2, iv 3, iv ((1 : Int32) + (1 : Int32)), iv c1_]) rfl z) ?_
  show OG p e below Φ T5 m 41 #[rv a, iv 2, rv b, iv 2, iv 3, iv 2, iv c1_] []
  refine os (fun _ z => XS.goto X5.here hx rfl (pc0 := 41) (pc' := 3) rfl (hb hby d5_41) (by decide) (by decide) z) ?_
  show OG p e below Φ T5 m 3 #[rv a, iv 2, rv b, iv 2, iv 3, iv 2, iv c1_] []
  refine os (fun _ z => XS.iload X5.here hx rfl (hb hby d5_3) rfl z) ?_
  refine os (fun _ z => XS.iload X5.here hx rfl (hb hby d5_5) rfl z) ?_
  show OG p e below Φ T5 m 7 #[rv a, iv 2, rv b, iv 2, iv 3, iv 2, iv c1_] [(.int 3), (.int 2)]
  refine os (fun _ z => XS.icmpNo X5.here hx rfl (hb hby d5_7) rfl (XT.ii_ge_f (by decide)) z) ?_
  show OG p e below Φ T5 m 10 #[rv a, iv 2, rv b, iv 2, iv 3, iv 2, iv c1_] []
  refine os (fun _ z => XS.aloadN X5.here hx rfl (hb hby d5_10) rfl rfl z) ?_
  refine os (fun _ z => XS.iloadN X5.here hx rfl (hb hby d5_11) rfl z) ?_
  show OG p e below Φ T5 m 12 #[rv a, iv 2, rv b, iv 2, iv 3, iv 2, iv c1_] [(.int 2), (.ref a)]
  obtain ⟨cl7, Aq7, -, S7, M7, H7, -⟩ := id F6
  have in7 : ¬ ((2 : Int32) < 0 ∨ cl7.slots.size ≤ (2 : Int32).toNatClampNeg) := inb_of S7 ⟨by decide, by decide⟩
  have at7 : cl7.slots[(2 : Int32).toNatClampNeg]? = some (.int c2_) := H7.at in7 rfl
  refine os (fun _ z => X5.caload hx (by rw [e5]; exact Aq7.1) (oia hZ Aq7.2.1) Aq7.2.2 in7 at7 (g := (mkF m 12 #[rv a, iv 2, rv b, iv 2, iv 3, iv 2, iv c1_] [(.int 2), (.ref a)])) rfl rfl (hb hby d5_12) _ z) ?_
  show OG p e below Φ T5 m 13 #[rv a, iv 2, rv b, iv 2, iv 3, iv 2, iv c1_] [(.int c2_)]
  refine os (fun _ z => XS.istore X5.here hx rfl (hb hby d5_13) rfl (l' := #[rv a, iv 2, rv b, iv 2, iv 3, iv 2, iv c2_]) rfl z) ?_
  show OG p e below Φ T5 m 15 #[rv a, iv 2, rv b, iv 2, iv 3, iv 2, iv c2_] []
  refine os (fun _ z => XS.iload X5.here hx rfl (hb hby d5_15) rfl z) ?_
  refine os (fun _ z => XS.sipush X5.here hx rfl (hb hby d5_17) z) ?_
  show OG p e below Φ T5 m 20 #[rv a, iv 2, rv b, iv 2, iv 3, iv 2, iv c2_] [(.int 255), (.int c2_)]
  refine os (fun _ z => XS.icmpYes X5.here hx rfl (pc0 := 20) (pc' := 26) rfl (hb hby d5_20) rfl (XT.ii_le_t hl2) (by decide) (by decide) z) ?_
  show OG p e below Φ T5 m 26 #[rv a, iv 2, rv b, iv 2, iv 3, iv 2, iv c2_] []
  refine os (fun _ z => XS.aloadN X5.here hx rfl (hb hby d5_26) rfl rfl z) ?_
  refine os (fun _ z => XS.iloadN X5.here hx rfl (hb hby d5_27) rfl z) ?_
  show OG p e below Φ T5 m 28 #[rv a, iv 2, rv b, iv 2, iv 3, iv 2, iv c2_] [(.int 2), (.ref b)]
  refine os (fun _ z => XS.iload X5.here hx rfl (hb hby d5_28) rfl z) ?_
  refine os (fun _ z => XT.i2b X5.here hx rfl (hb hby d5_30) rfl z) ?_
  show OG p e below Φ T5 m 31 #[rv a, iv 2, rv b, iv 2, iv 3, iv 2, iv c2_] [(.int (c2_.toInt8.toInt32)), (.int 2), (.ref b)]
  obtain ⟨cl8, Aq8, Cq8, S8, M8, H8, G8⟩ := id V5
  have in8 : ¬ ((2 : Int32) < 0 ∨ cl8.slots.size ≤ (2 : Int32).toNatClampNeg) := inb_of S8 ⟨by decide, by decide⟩
  obtain ⟨T8, h8, X8, e8, W8, st8⟩ := stB X5 hx hZ e5 Aq8 in8 (g := (mkF m 31 #[rv a, iv 2, rv b, iv 2, iv 3, iv 2, iv c2_] [(.int (c2_.toInt8.toInt32)), (.int 2), (.ref b)])) rfl rfl (hb hby d5_31)
  have W8 : Wr h5 h8 b (2 : Int32).toNatClampNeg (.int (nar .byte (c2_.toInt8.toInt32))) := W8
  have F9 := F6.other W8 nab
  have V8 : Arv Z h8 b cb .byte (3 : Int32) [(.int (nar .byte (c0_.toInt8.toInt32))), (.int (nar .byte (c1_.toInt8.toInt32))), (.int (nar .byte (c2_.toInt8.toInt32)))] (.int (0 : Int32)) := Arv.set Aq8 Cq8 S8 M8 H8 G8 (fits_nar_byte _) W8 2 (by decide) (by show 2 < 3; decide)
  have K8 := K5.wr W8 (Or.inl (List.mem_of_getElem? (i := 0) rfl))
  have N8 := Fr.snoc X8 N5 g_b
  have Zs8 : n0 ≤ h8.size := by rw [W8.size]; exact Zs5
  refine os st8 ?_
  show OG p e below Φ T8 m 32 #[rv a, iv 2, rv b, iv 2, iv 3, iv 2, iv c2_] []
  refine os (fun _ z => XS.iinc X8.here hx rfl (hb hby d5_32) rfl (l' := #[rv a, iv ((2 : Int32) + (1 : Int32)), rv b, iv 2, iv 3, iv 2, iv c2_]) rfl z) ?_
  show OG p e below Φ T8 m 35 #[rv a, iv 3, rv b, iv 2, iv 3, iv 2, iv c2_] []
  refine os (fun _ z => XS.iinc X8.here hx rfl (hb hby d5_35) rfl (l' := #[rv a, iv 3, rv b, iv ((2 : Int32) + (1 : Int32)), iv 3, iv 2, iv c2_]) rfl z) ?_
  show OG p e below Φ T8 m 38 #[rv a, iv 3, rv b, iv 3, iv 3, iv 2, iv c2_] []
  refine os (fun _ z => XS.iinc X8.here hx rfl (hb hby d5_38) rfl (l' := #[rv a, iv 3, rv b, iv 3, iv 3, iv ((2 : Int32) + (1 : Int32)), iv c2_]) rfl z) ?_
  show OG p e below Φ T8 m 41 #[rv a, iv 3, rv b, iv 3, iv 3, iv 3, iv c2_] []
  refine os (fun _ z => XS.goto X8.here hx rfl (pc0 := 41) (pc' := 3) rfl (hb hby d5_41) (by decide) (by decide) z) ?_
  show OG p e below Φ T8 m 3 #[rv a, iv 3, rv b, iv 3, iv 3, iv 3, iv c2_] []
  refine os (fun _ z => XS.iload X8.here hx rfl (hb hby d5_3) rfl z) ?_
  refine os (fun _ z => XS.iload X8.here hx rfl (hb hby d5_5) rfl z) ?_
  show OG p e below Φ T8 m 7 #[rv a, iv 3, rv b, iv 3, iv 3, iv 3, iv c2_] [(.int 3), (.int 3)]
  refine os (fun _ z => XS.icmpYes X8.here hx rfl (pc0 := 7) (pc' := 44) rfl (hb hby d5_7) rfl (XT.ii_ge_t (by decide)) (by decide) (by decide) z) ?_
  show OG p e below Φ T8 m 44 #[rv a, iv 3, rv b, iv 3, iv 3, iv 3, iv c2_] []
  refine os (fun _ z => XS.iload X8.here hx rfl (hb hby d5_44) rfl z) ?_
  refine OGo.fin X8 hlk (v := (some (.int 3))) (fun h => by rw [hret] at h; cases h) (by decide) (by decide) (fun fs hr => X8.ireturnOut hx hret rfl (by simp) (hb hby d5_46) hr) fun U eU hF => hΦ _ _ _ ?_ hF
  rw [eU, e8]
  show Q_rsl3c2 Z a ca b cb c0_ c1_ c2_ h0 n0 _ _ _
  exact ⟨rfl, N8, K8, V8⟩

theorem ef_rsl3c3 (m : MethodId) (x0 : Addr) (x1 : Int32) (x2 : Int32) : entryFrame m #[(.ref x0), (.int x1), (.int x2)] 6 = mkF m 0 #[.val (.ref x0), .val (.int x1), .val (.int x2), .unset, .unset, .unset] [] := by first | (simp [entryFrame, mkF, argsToLocals, Value.category]; done) | rfl
def Q_rsl3c3 (Z : State) (a : Addr) (ca : ClassId) (c0_ : Int32) (c1_ : Int32) (c2_ : Int32) (h0 : Heap) (n0 : Nat) (v : Option Value) (h : Heap) (L : List Loc) : Prop := ∃ b cb, v = some (.ref b) ∧ Fr n0 L ∧ Keep h0 h [] ∧ Arv Z h b cb .byte (3 : Int32) [(.int (nar .byte (c0_.toInt8.toInt32))), (.int (nar .byte (c1_.toInt8.toInt32))), (.int (nar .byte (c2_.toInt8.toInt32)))] (.int (0 : Int32)) ∧ h0.size ≤ b
set_option maxRecDepth 65536 in
set_option maxHeartbeats 40000000 in
theorem rsl3c3 (l : Launch) (Z : State) (a0 : Array Value) (hw : ∀ d ∈ tables_1, d.before a0 Z = true) (ws : List Jvm.Cond) (a : Addr) (ca : ClassId) (c0_ : Int32) (c1_ : Int32) (c2_ : Int32) (h0 : Heap) (n0 : Nat) (Z0 : n0 ≤ h0.size) (V_a : Arv Z h0 a ca .char (3 : Int32) [(.int c0_), (.int c1_), (.int c2_)] (.int (0 : Int32))) (hl0 : ¬ (255 : Int32) < c0_) (hl1 : ¬ (255 : Int32) < c1_) (hl2 : ¬ (255 : Int32) < c2_) :
    OCon l Z (⟨"java/lang/StringUTF16", "compress", "([CII)[B"⟩ : MethodName) jdk_52_method_16_code 6 (some (.array .byte)) ws ({ frames := 1, cells := 1, slots := 3, locals := 18 } : Room) #[(.ref a), (.int (0 : Int32)), (.int (3 : Int32))] h0 (Q_rsl3c3 Z a ca c0_ c1_ c2_ h0 n0) := by
  refine OCon.of (plainFor_of_name pn1) ?_
  intro p e s m below meth c s₁ Φ X0 hx hby hml hown hnm hret hlk hZ e0 hΦ
  have N0 := Fr.nil n0
  refine os (fun _ z => castTop (ef_rsl3c3 m a (0 : Int32) (3 : Int32)) z) ?_
  have K0 := Keep.refl h0 []
  show OG p e below Φ s₁ m 0 #[rv a, iv 0, iv 3, .unset, .unset, .unset] []
  refine os (fun _ z => XS.iloadN X0.here hx rfl (hb hby d4_0) rfl z) ?_
  obtain ⟨T1, h1, c1, X1, e1, E1, Ar1, st1⟩ := newP (aty := .byte) X0 hx hZ (ow1 hw) e0 (g := (mkF m 1 #[rv a, iv 0, iv 3, .unset, .unset, .unset] [(.int 3)])) rfl (hb hby d4_1) rfl (by decide) (cap := 3) (by decide) (by decide) (by decide) (by decide)
  obtain ⟨b1, g1⟩ : ∃ z, z = h0.size := ⟨_, rfl⟩
  rw [← g1] at Ar1 st1
  have ne1_a : a ≠ b1 := by rw [g1]; exact Nat.ne_of_lt V_a.lt
  have F2 := V_a.ext E1
  have gb1 : n0 ≤ b1 := Nat.le_trans Z0 (Nat.le_of_eq g1.symm)
  have sz1 : h0.size ≤ b1 := Nat.le_trans K0.1 (Nat.le_of_eq g1.symm)
  have K1 := K0.ext E1
  have Zs1 : n0 ≤ h1.size := Nat.le_trans Z0 E1.1
  have V1 : Arv Z h1 b1 c1 .byte (3 : Int32) [(.int (0 : Int32)), (.int (0 : Int32)), (.int (0 : Int32))] (.int (0 : Int32)) := (Arv.new Ar1 (by decide)).pad (pad_rep [] _ 3)
  refine os st1 ?_
  show OG p e below Φ T1 m 3 #[rv a, iv 0, iv 3, .unset, .unset, .unset] [(.ref b1)]
  refine os (fun _ z => XS.astoreN X1.here hx rfl (hb hby d4_3) rfl rfl (l' := #[rv a, iv 0, iv 3, rv b1, .unset, .unset]) rfl z) ?_
  show OG p e below Φ T1 m 4 #[rv a, iv 0, iv 3, rv b1, .unset, .unset] []
  refine os (fun _ z => XS.aloadN X1.here hx rfl (hb hby d4_4) rfl rfl z) ?_
  refine os (fun _ z => XS.iloadN X1.here hx rfl (hb hby d4_5) rfl z) ?_
  show OG p e below Φ T1 m 6 #[rv a, iv 0, iv 3, rv b1, .unset, .unset] [(.int 0), (.ref a)]
  refine os (fun _ z => XS.aloadN X1.here hx rfl (hb hby d4_6) rfl rfl z) ?_
  refine os (fun _ z => XS.iconst X1.here hx rfl (hb hby d4_7) z) ?_
  show OG p e below Φ T1 m 8 #[rv a, iv 0, iv 3, rv b1, .unset, .unset] [(.int 0), (.ref b1), (.int 0), (.ref a)]
  refine os (fun _ z => XS.iloadN X1.here hx rfl (hb hby d4_8) rfl z) ?_
  obtain ⟨_, T3, L3, X3, hQ3, st3⟩ := own_callSt X1 hx hZ hown (ow22 hw) (ow23 hw) (ow20 hw) (ow24 hw) (by decide) (rsl3c2 l Z a0 hw [] a ca b1 c1 c0_ c1_ c2_ h1 n0 Zs1 F2 V1 ne1_a gb1 hl0 hl1 hl2) e1 (W := 0) (by decide) (by decide) (by decide) (by decide) (pc := 9) (ls := #[rv a, iv 0, iv 3, rv b1, .unset, .unset]) (stk := [(.int 3), (.int 0), (.ref b1), (.int 0), (.ref a)]) (by rw [hml]; rfl) (argsL := [(.ref a), (.int 0), (.ref b1), (.int 0), (.int 3)]) (rest := []) (lenOf pd1 rfl) rfl rfl (Nat.le_of_eq rfl) (hb hby d4_9)
  obtain ⟨rfl, Nq3, Kq3, Vq3⟩ := hQ3
  have N3 := Fr.app N0 Nq3
  have Zs3 : n0 ≤ T3.heap.size := Nat.le_trans Zs1 Kq3.1
  have F4 := F2.keep Kq3 (ninS ne1_a nin0)
  have K3 := K1.trans Kq3 (allS (Or.inr sz1) all0)
  refine os st3 ?_
  show OG p e below Φ T3 m 12 #[rv a, iv 0, iv 3, rv b1, .unset, .unset] [(.int 3)]
  refine os (fun _ z => XS.istore X3.here hx rfl (hb hby d4_12) rfl (l' := #[rv a, iv 0, iv 3, rv b1, iv 3, .unset]) rfl z) ?_
  show OG p e below Φ T3 m 14 #[rv a, iv 0, iv 3, rv b1, iv 3, .unset] []
  refine os (fun _ z => XS.iload X3.here hx rfl (hb hby d4_14) rfl z) ?_
  refine os (fun _ z => XS.iloadN X3.here hx rfl (hb hby d4_16) rfl z) ?_
  show OG p e below Φ T3 m 17 #[rv a, iv 0, iv 3, rv b1, iv 3, .unset] [(.int 3), (.int 3)]
  refine os (fun _ z => XS.icmpYes X3.here hx rfl (pc0 := 17) (pc' := 57) rfl (hb hby d4_17) rfl (XT.ii_eq_t (by decide)) (by decide) (by decide) z) ?_
  show OG p e below Φ T3 m 57 #[rv a, iv 0, iv 3, rv b1, iv 3, .unset] []
  refine os (fun _ z => XS.aloadN X3.here hx rfl (hb hby d4_57) rfl rfl z) ?_
  refine OGo.fin X3 hlk (v := (some (.ref b1))) (fun h => by rw [hret] at h; cases h) (by decide) (by decide) (fun fs hr => X3.areturnOut hx rfl hret rfl (hb hby d4_58) hr) fun U eU hF => hΦ _ _ _ ?_ hF
  rw [eU]
  show Q_rsl3c3 Z a ca c0_ c1_ c2_ h0 n0 _ _ _
  exact ⟨_, _, rfl, N3, K3, Vq3, sz1⟩

theorem ef_rsl3cf (m : MethodId) (x0 : Addr) (x1 : Int32) : entryFrame m #[(.ref x0), (.int x1)] 2 = mkF m 0 #[.val (.ref x0), .val (.int x1)] [] := by first | (simp [entryFrame, mkF, argsToLocals, Value.category]; done) | rfl
def Q_rsl3cf (Z : State) (b : Addr) (cb : ClassId) (c0_ : Int32) (c1_ : Int32) (c2_ : Int32) (h0 : Heap) (n0 : Nat) (v : Option Value) (h : Heap) (L : List Loc) : Prop := v = some (.int (0 : Int32)) ∧ Fr n0 L ∧ h = h0
set_option maxRecDepth 65536 in
set_option maxHeartbeats 40000000 in
theorem rsl3cf (l : Launch) (Z : State) (a0 : Array Value) (hw : ∀ d ∈ tables_1, d.before a0 Z = true) (ws : List Jvm.Cond) (b : Addr) (cb : ClassId) (c0_ : Int32) (c1_ : Int32) (c2_ : Int32) (h0 : Heap) (n0 : Nat) (Z0 : n0 ≤ h0.size) (V_b : Arv Z h0 b cb .byte (3 : Int32) [(.int (nar .byte (c0_.toInt8.toInt32))), (.int (nar .byte (c1_.toInt8.toInt32))), (.int (nar .byte (c2_.toInt8.toInt32)))] (.int (0 : Int32))) :
    OCon l Z (⟨"java/lang/StringUTF16", "coderFromArrayLen", "([BI)B"⟩ : MethodName) jdk_52_method_15_code 2 (some .byte) ws ({ frames := 0, cells := 0, slots := 0, locals := 0 } : Room) #[(.ref b), (.int (3 : Int32))] h0 (Q_rsl3cf Z b cb c0_ c1_ c2_ h0 n0) := by
  refine OCon.of (plainFor_of_name pn1) ?_
  intro p e s m below meth c s₁ Φ X0 hx hby hml hown hnm hret hlk hZ e0 hΦ
  have N0 := Fr.nil n0
  refine os (fun _ z => castTop (ef_rsl3cf m b (3 : Int32)) z) ?_
  show OG p e below Φ s₁ m 0 #[rv b, iv 3] []
  refine os (fun _ z => XS.iloadN X0.here hx rfl (hb hby d6_0) rfl z) ?_
  refine os (fun _ z => XS.aloadN X0.here hx rfl (hb hby d6_1) rfl rfl z) ?_
  show OG p e below Φ s₁ m 2 #[rv b, iv 3] [(.ref b), (.int 3)]
  obtain ⟨cl1, Aq1, -, S1, M1, -, -⟩ := id V_b
  refine os (fun _ z => X0.arraylength hx (by rw [e0]; exact Aq1.1) (oia hZ Aq1.2.1) (g := (mkF m 2 #[rv b, iv 3] [(.ref b), (.int 3)])) rfl rfl (hb hby d6_2) _ z) ?_
  rw [len_of S1 M1]
  show OG p e below Φ s₁ m 3 #[rv b, iv 3] [(.int 3), (.int 3)]
  refine os (fun _ z => XS.isub X0.here hx rfl (hb hby d6_3) rfl z) ?_
  show OG p e below Φ s₁ m 4 #[rv b, iv 3] [(.int 0)]
  refine os (fun _ z => XS.bipush X0.here hx rfl (hb hby d6_4) z) ?_
  refine os (fun _ z => XT.iushr X0.here hx rfl (hb hby d6_6) rfl z) ?_
  show OG p e below Φ s₁ m 7 #[rv b, iv 3] [(.int 0)]
  refine os (fun _ z => XT.i2b X0.here hx rfl (hb hby d6_7) rfl z) ?_
  show OG p e below Φ s₁ m 8 #[rv b, iv 3] [(.int 0)]
  refine OGo.fin X0 hlk (v := (some (.int 0))) (fun h => by rw [hret] at h; cases h) (by decide) (by decide) (fun fs hr => X0.ireturnOut hx hret rfl (by simp) (hb hby d6_8) hr) fun U eU hF => hΦ _ _ _ ?_ hF
  rw [eU, e0]
  show Q_rsl3cf Z b cb c0_ c1_ c2_ h0 n0 _ _ _
  exact ⟨rfl, N0, rfl⟩

theorem ef_rsl3i4 (m : MethodId) (x0 : Addr) (x1 : Addr) (x2 : Int32) (x3 : Int32) : entryFrame m #[(.ref x0), (.ref x1), (.int x2), (.int x3), .null] 6 = mkF m 0 #[.val (.ref x0), .val (.ref x1), .val (.int x2), .val (.int x3), .val .null, .unset] [] := by first | (simp [entryFrame, mkF, argsToLocals, Value.category]; done) | rfl
def Q_rsl3i4 (Z : State) (s_ : Addr) (a : Addr) (ca : ClassId) (qc : Int32) (c0_ : Int32) (c1_ : Int32) (c2_ : Int32) (h0 : Heap) (n0 : Nat) (v : Option Value) (h : Heap) (L : List Loc) : Prop := v = none ∧ Fr n0 L ∧ Keep h0 h [s_] ∧ Exa Z h s_ "java/lang/String" ∧ ∃ b cb, Fld Z h s_ "java/lang/String" "value" "[B" (.ref b) ∧ Fld Z h s_ "java/lang/String" "coder" "B" (.int (0 : Int32)) ∧ Arv Z h b cb .byte (3 : Int32) [(.int (nar .byte (c0_.toInt8.toInt32))), (.int (nar .byte (c1_.toInt8.toInt32))), (.int (nar .byte (c2_.toInt8.toInt32)))] (.int (0 : Int32)) ∧ h0.size ≤ b
set_option maxRecDepth 65536 in
set_option maxHeartbeats 40000000 in
theorem rsl3i4 (l : Launch) (Z : State) (a0 : Array Value) (hw : ∀ d ∈ tables_1, d.before a0 Z = true) (ws : List Jvm.Cond) (s_ : Addr) (a : Addr) (ca : ClassId) (qc : Int32) (c0_ : Int32) (c1_ : Int32) (c2_ : Int32) (h0 : Heap) (n0 : Nat) (Z0 : n0 ≤ h0.size) (E_s : Exa Z h0 s_ "java/lang/String") (g_s : n0 ≤ s_) (F_v : Fld Z h0 s_ "java/lang/String" "value" "[B" .null) (F_c : Fld Z h0 s_ "java/lang/String" "coder" "B" (.int (0 : Int32))) (V_a : Arv Z h0 a ca .char (3 : Int32) [(.int c0_), (.int c1_), (.int c2_)] (.int (0 : Int32))) (nsa : s_ ≠ a) (S_q : Sta Z h0 "java/lang/String" "COMPACT_STRINGS" "Z" (.int qc)) (hq : ¬ qc = 0) (hl0 : ¬ (255 : Int32) < c0_) (hl1 : ¬ (255 : Int32) < c1_) (hl2 : ¬ (255 : Int32) < c2_) :
    OCon l Z (⟨"java/lang/String", "<init>", "([CIILjava/lang/Void;)V"⟩ : MethodName) jdk_42_method_149_code 6 none ws ({ frames := 2, cells := 1, slots := 3, locals := 35 } : Room) #[(.ref s_), (.ref a), (.int (0 : Int32)), (.int (3 : Int32)), .null] h0 (Q_rsl3i4 Z s_ a ca qc c0_ c1_ c2_ h0 n0) := by
  refine OCon.of (plainFor_of_name pn0) ?_
  intro p e s m below meth c s₁ Φ X0 hx hby hml hown hnm hret hlk hZ e0 hΦ
  have N0 := Fr.nil n0
  refine os (fun _ z => castTop (ef_rsl3i4 m s_ a (0 : Int32) (3 : Int32)) z) ?_
  have K0 := Keep.refl h0 [s_]
  show OG p e below Φ s₁ m 0 #[rv s_, rv a, iv 0, iv 3, .val .null, .unset] []
  refine os (fun _ z => XS.aloadN X0.here hx rfl (hb hby d2_0) rfl rfl z) ?_
  obtain ⟨T1, X1, e1, st1⟩ := initO X0 hx hZ hown (ow14 hw) (ow15 hw) (ow16 hw) e0 (g := (mkF m 1 #[rv s_, rv a, iv 0, iv 3, .val .null, .unset] [(.ref s_)])) rfl (by rw [hml]; rfl) rfl (hb hby d2_1) (by decide) (W := 0) (Nat.le_of_eq rfl) (by decide)
  refine os st1 ?_
  show OG p e below Φ T1 m 4 #[rv s_, rv a, iv 0, iv 3, .val .null, .unset] []
  refine os (fun _ z => XS.iloadN X1.here hx rfl (hb hby d2_4) rfl z) ?_
  refine os (fun _ z => XS.ifYes X1.here hx rfl (pc0 := 5) (pc' := 27) rfl (hb hby d2_5) rfl (XT.i0_ne_t (by decide)) (by decide) (by decide) z) ?_
  show OG p e below Φ T1 m 27 #[rv s_, rv a, iv 0, iv 3, .val .null, .unset] []
  obtain ⟨T2, X2, e2, st2⟩ := getS2 X1 hx hZ hown (host := "") (Or.inl (ow17 hw)) Via.refl e1 S_q (g := (mkF m 27 #[rv s_, rv a, iv 0, iv 3, .val .null, .unset] [])) rfl (hb hby d2_27)
  refine os st2 ?_
  show OG p e below Φ T2 m 30 #[rv s_, rv a, iv 0, iv 3, .val .null, .unset] [(.int qc)]
  refine os (fun _ z => XS.ifNo X2.here hx rfl (hb hby d2_30) rfl (XT.i0_eq_f hq) z) ?_
  show OG p e below Φ T2 m 33 #[rv s_, rv a, iv 0, iv 3, .val .null, .unset] []
  refine os (fun _ z => XS.aloadN X2.here hx rfl (hb hby d2_33) rfl rfl z) ?_
  refine os (fun _ z => XS.iloadN X2.here hx rfl (hb hby d2_34) rfl z) ?_
  show OG p e below Φ T2 m 35 #[rv s_, rv a, iv 0, iv 3, .val .null, .unset] [(.int 0), (.ref a)]
  refine os (fun _ z => XS.iloadN X2.here hx rfl (hb hby d2_35) rfl z) ?_
  obtain ⟨_, T3, L3, X3, hQ3, st3⟩ := own_callSt X2 hx hZ hown (ow18 hw) (ow19 hw) (ow20 hw) (ow21 hw) (by decide) (rsl3c3 l Z a0 hw [] a ca c0_ c1_ c2_ h0 n0 Z0 V_a hl0 hl1 hl2) e2 (W := 0) (by decide) (by decide) (by decide) (by decide) (pc := 36) (ls := #[rv s_, rv a, iv 0, iv 3, .val .null, .unset]) (stk := [(.int 3), (.int 0), (.ref a)]) (by rw [hml]; rfl) (argsL := [(.ref a), (.int 0), (.int 3)]) (rest := []) (lenOf pd2 rfl) rfl rfl (Nat.le_of_eq rfl) (hb hby d2_36)
  obtain ⟨b3, cb3, rfl, Nq3, Kq3, Vq3, hz3⟩ := hQ3
  have nq3_a : a ≠ b3 := Nat.ne_of_lt (Nat.lt_of_lt_of_le V_a.lt hz3)
  have nq3_s_ : s_ ≠ b3 := Nat.ne_of_lt (Nat.lt_of_lt_of_le E_s.lt hz3)
  have gq3 : n0 ≤ b3 := Nat.le_trans Z0 hz3
  have sq3 : h0.size ≤ b3 := Nat.le_trans K0.1 hz3
  have N3 := Fr.app N0 Nq3
  have Zs3 : n0 ≤ T3.heap.size := Nat.le_trans Z0 Kq3.1
  have F4 := E_s.keep Kq3
  have F5 := F_v.keep Kq3 nin0
  have F6 := F_c.keep Kq3 nin0
  have F7 := V_a.keep Kq3 nin0
  have K3 := K0.trans Kq3 all0
  refine os st3 ?_
  show OG p e below Φ T3 m 39 #[rv s_, rv a, iv 0, iv 3, .val .null, .unset] [(.ref b3)]
  refine os (fun _ z => XS.astore X3.here hx rfl (hb hby d2_39) rfl rfl (l' := #[rv s_, rv a, iv 0, iv 3, .val .null, rv b3]) rfl z) ?_
  show OG p e below Φ T3 m 41 #[rv s_, rv a, iv 0, iv 3, .val .null, rv b3] []
  refine os (fun _ z => XS.aloadN X3.here hx rfl (hb hby d2_41) rfl rfl z) ?_
  refine os (fun _ z => XS.aload X3.here hx rfl (hb hby d2_42) rfl rfl z) ?_
  show OG p e below Φ T3 m 44 #[rv s_, rv a, iv 0, iv 3, .val .null, rv b3] [(.ref b3), (.ref s_)]
  refine os (fun _ z => XS.iloadN X3.here hx rfl (hb hby d2_44) rfl z) ?_
  obtain ⟨_, T8, L8, X8, hQ8, st8⟩ := own_callSt X3 hx hZ hown (ow25 hw) (ow26 hw) (ow20 hw) (ow27 hw) (by decide) (rsl3cf l Z a0 hw [] b3 cb3 c0_ c1_ c2_ T3.heap n0 Zs3 Vq3) rfl (W := 1) (by decide) (by decide) (by decide) (by decide) (pc := 45) (ls := #[rv s_, rv a, iv 0, iv 3, .val .null, rv b3]) (stk := [(.int 3), (.ref b3), (.ref s_)]) (by rw [hml]; rfl) (argsL := [(.ref b3), (.int 3)]) (rest := [(.ref s_)]) (lenOf pd3 rfl) rfl rfl (Nat.le_of_eq rfl) (hb hby d2_45)
  obtain ⟨rfl, Nq8, e8⟩ := hQ8
  have N8 := Fr.app N3 Nq8
  refine os st8 ?_
  show OG p e below Φ T8 m 48 #[rv s_, rv a, iv 0, iv 3, .val .null, rv b3] [(.int 0), (.ref s_)]
  obtain ⟨T9, h9, X9, e9, W9, st9⟩ := putF X8 hx hZ hown (host := "") (Or.inl (ow28 hw)) Via.refl e8 F6 F4 (Or.inr ⟨(ow29 hw), rfl, hnm⟩) (ow5 hw) (ty := .byte) (by decide) (by decide) (by decide) (g := (mkF m 48 #[rv s_, rv a, iv 0, iv 3, .val .null, rv b3] [(.int 0), (.ref s_)])) rfl rfl (hb hby d2_48)
  have F10 := F4.wr W9
  have F11 := F5.other W9 (Or.inr (slot_ne (Or.inr (ow31 hw)) (Or.inr (ow29 hw)) (by decide) (t := (.array .byte)) (t' := .byte) (by decide) (by decide)))
  have F12 := F6.same W9
  have F13 := F7.other W9 (Ne.symm nsa)
  have F14 := Vq3.other W9 (Ne.symm nq3_s_)
  have K9 := K3.wr W9 (Or.inl (List.mem_of_getElem? (i := 0) rfl))
  have N9 := Fr.snoc X9 N8 g_s
  have Zs9 : n0 ≤ h9.size := by rw [W9.size]; exact Zs3
  refine os st9 ?_
  show OG p e below Φ T9 m 51 #[rv s_, rv a, iv 0, iv 3, .val .null, rv b3] []
  refine os (fun _ z => XS.aloadN X9.here hx rfl (hb hby d2_51) rfl rfl z) ?_
  refine os (fun _ z => XS.aload X9.here hx rfl (hb hby d2_52) rfl rfl z) ?_
  show OG p e below Φ T9 m 54 #[rv s_, rv a, iv 0, iv 3, .val .null, rv b3] [(.ref b3), (.ref s_)]
  obtain ⟨T15, h15, X15, e15, W15, st15⟩ := putF X9 hx hZ hown (host := "") (Or.inl (ow30 hw)) Via.refl e9 F11 F10 (Or.inr ⟨(ow31 hw), rfl, hnm⟩) (ow5 hw) (ty := (.array .byte)) (by decide) rfl rfl (g := (mkF m 54 #[rv s_, rv a, iv 0, iv 3, .val .null, rv b3] [(.ref b3), (.ref s_)])) rfl rfl (hb hby d2_54)
  have F16 := F10.wr W15
  have F17 := F11.same W15
  have F18 := F12.other W15 (Or.inr (slot_ne (Or.inr (ow29 hw)) (Or.inr (ow31 hw)) (by decide) (t := .byte) (t' := (.array .byte)) (by decide) (by decide)))
  have F19 := F13.other W15 (Ne.symm nsa)
  have F20 := F14.other W15 (Ne.symm nq3_s_)
  have K15 := K9.wr W15 (Or.inl (List.mem_of_getElem? (i := 0) rfl))
  have N15 := Fr.snoc X15 N9 g_s
  have Zs15 : n0 ≤ h15.size := by rw [W15.size]; exact Zs9
  refine os st15 ?_
  show OG p e below Φ T15 m 57 #[rv s_, rv a, iv 0, iv 3, .val .null, rv b3] []
  refine OGo.fin X15 hlk (v := none) (fun _ => rfl) (by decide) (by decide) (fun fs hr => X15.returnOut hx hret (hb hby d2_57) hr) fun U eU hF => hΦ _ _ _ ?_ hF
  rw [eU, e15]
  show Q_rsl3i4 Z s_ a ca qc c0_ c1_ c2_ h0 n0 _ _ _
  exact ⟨rfl, N15, K15, F16, _, _, F17, F18, F20, sq3⟩

theorem ef_rsl3i1 (m : MethodId) (x0 : Addr) (x1 : Addr) : entryFrame m #[(.ref x0), (.ref x1)] 2 = mkF m 0 #[.val (.ref x0), .val (.ref x1)] [] := by first | (simp [entryFrame, mkF, argsToLocals, Value.category]; done) | rfl
def Q_rsl3i1 (Z : State) (s_ : Addr) (a : Addr) (ca : ClassId) (qc : Int32) (c0_ : Int32) (c1_ : Int32) (c2_ : Int32) (h0 : Heap) (n0 : Nat) (v : Option Value) (h : Heap) (L : List Loc) : Prop := v = none ∧ Fr n0 L ∧ Keep h0 h [s_] ∧ Exa Z h s_ "java/lang/String" ∧ ∃ b cb, Fld Z h s_ "java/lang/String" "value" "[B" (.ref b) ∧ Fld Z h s_ "java/lang/String" "coder" "B" (.int (0 : Int32)) ∧ Arv Z h b cb .byte (3 : Int32) [(.int (nar .byte (c0_.toInt8.toInt32))), (.int (nar .byte (c1_.toInt8.toInt32))), (.int (nar .byte (c2_.toInt8.toInt32)))] (.int (0 : Int32)) ∧ h0.size ≤ b
set_option maxRecDepth 65536 in
set_option maxHeartbeats 40000000 in
theorem rsl3i1 (l : Launch) (Z : State) (a0 : Array Value) (hw : ∀ d ∈ tables_1, d.before a0 Z = true) (ws : List Jvm.Cond) (s_ : Addr) (a : Addr) (ca : ClassId) (qc : Int32) (c0_ : Int32) (c1_ : Int32) (c2_ : Int32) (h0 : Heap) (n0 : Nat) (Z0 : n0 ≤ h0.size) (E_s : Exa Z h0 s_ "java/lang/String") (g_s : n0 ≤ s_) (F_v : Fld Z h0 s_ "java/lang/String" "value" "[B" .null) (F_c : Fld Z h0 s_ "java/lang/String" "coder" "B" (.int (0 : Int32))) (V_a : Arv Z h0 a ca .char (3 : Int32) [(.int c0_), (.int c1_), (.int c2_)] (.int (0 : Int32))) (nsa : s_ ≠ a) (S_q : Sta Z h0 "java/lang/String" "COMPACT_STRINGS" "Z" (.int qc)) (hq : ¬ qc = 0) (hl0 : ¬ (255 : Int32) < c0_) (hl1 : ¬ (255 : Int32) < c1_) (hl2 : ¬ (255 : Int32) < c2_) :
    OCon l Z (⟨"java/lang/String", "<init>", "([C)V"⟩ : MethodName) jdk_42_method_3_code 2 none ws ({ frames := 3, cells := 1, slots := 3, locals := 52 } : Room) #[(.ref s_), (.ref a)] h0 (Q_rsl3i1 Z s_ a ca qc c0_ c1_ c2_ h0 n0) := by
  refine OCon.of (plainFor_of_name pn0) ?_
  intro p e s m below meth c s₁ Φ X0 hx hby hml hown hnm hret hlk hZ e0 hΦ
  have N0 := Fr.nil n0
  refine os (fun _ z => castTop (ef_rsl3i1 m s_ a) z) ?_
  have K0 := Keep.refl h0 [s_]
  show OG p e below Φ s₁ m 0 #[rv s_, rv a] []
  refine os (fun _ z => XS.aloadN X0.here hx rfl (hb hby d1_0) rfl rfl z) ?_
  refine os (fun _ z => XS.aloadN X0.here hx rfl (hb hby d1_1) rfl rfl z) ?_
  show OG p e below Φ s₁ m 2 #[rv s_, rv a] [(.ref a), (.ref s_)]
  refine os (fun _ z => XS.iconst X0.here hx rfl (hb hby d1_2) z) ?_
  refine os (fun _ z => XS.aloadN X0.here hx rfl (hb hby d1_3) rfl rfl z) ?_
  show OG p e below Φ s₁ m 4 #[rv s_, rv a] [(.ref a), (.int 0), (.ref a), (.ref s_)]
  obtain ⟨cl1, Aq1, -, S1, M1, -, -⟩ := id V_a
  refine os (fun _ z => X0.arraylength hx (by rw [e0]; exact Aq1.1) (oia hZ Aq1.2.1) (g := (mkF m 4 #[rv s_, rv a] [(.ref a), (.int 0), (.ref a), (.ref s_)])) rfl rfl (hb hby d1_4) _ z) ?_
  rw [len_of S1 M1]
  show OG p e below Φ s₁ m 5 #[rv s_, rv a] [(.int 3), (.int 0), (.ref a), (.ref s_)]
  refine os (fun _ z => XS.aconstNull X0.here hx rfl (hb hby d1_5) z) ?_
  obtain ⟨_, T2, L2, X2, hQ2, st2⟩ := own_callSp X0 hx hZ rfl hown (ow10 hw) (ow11 hw) (ow6 hw) (ow13 hw) (by decide) (rsl3i4 l Z a0 hw [] s_ a ca qc c0_ c1_ c2_ h0 n0 Z0 E_s g_s F_v F_c V_a nsa S_q hq hl0 hl1 hl2) e0 (W := 0) (by decide) (by decide) (by decide) (by decide) (pc := 6) (ls := #[rv s_, rv a]) (stk := [.null, (.int 3), (.int 0), (.ref a), (.ref s_)]) (by rw [hml]; rfl) (a := s_) (argsL := [(.ref a), (.int 0), (.int 3), .null]) (rest := []) (lenOf pd0 rfl) rfl rfl (Nat.le_of_eq rfl) (hb hby d1_6)
  obtain ⟨rfl, Nq2, Kq2, Eq2, b2, cb2, Fv2, Fc2, Vq2, hz2⟩ := hQ2
  have nq2_a : a ≠ b2 := Nat.ne_of_lt (Nat.lt_of_lt_of_le V_a.lt hz2)
  have nq2_s_ : s_ ≠ b2 := Nat.ne_of_lt (Nat.lt_of_lt_of_le E_s.lt hz2)
  have gq2 : n0 ≤ b2 := Nat.le_trans Z0 hz2
  have sq2 : h0.size ≤ b2 := Nat.le_trans K0.1 hz2
  have N2 := Fr.app N0 Nq2
  have Zs2 : n0 ≤ T2.heap.size := Nat.le_trans Z0 Kq2.1
  have F3 := V_a.keep Kq2 (ninS (Ne.symm nsa) nin0)
  have K2 := K0.trans Kq2 (allS (Or.inl (List.mem_of_getElem? (i := 0) rfl)) all0)
  refine os st2 ?_
  show OG p e below Φ T2 m 9 #[rv s_, rv a] []
  refine OGo.fin X2 hlk (v := none) (fun _ => rfl) (by decide) (by decide) (fun fs hr => X2.returnOut hx hret (hb hby d1_9) hr) fun U eU hF => hΦ _ _ _ ?_ hF
  rw [eU]
  show Q_rsl3i1 Z s_ a ca qc c0_ c1_ c2_ h0 n0 _ _ _
  exact ⟨rfl, N2, K2, Eq2, _, _, Fv2, Fc2, Vq2, sq2⟩

theorem ef_rsb3_0c2 (m : MethodId) (x0 : Addr) (x1 : Int32) (x2 : Addr) (x3 : Int32) (x4 : Int32) : entryFrame m #[(.ref x0), (.int x1), (.ref x2), (.int x3), (.int x4)] 7 = mkF m 0 #[.val (.ref x0), .val (.int x1), .val (.ref x2), .val (.int x3), .val (.int x4), .unset, .unset] [] := by first | (simp [entryFrame, mkF, argsToLocals, Value.category]; done) | rfl
def Q_rsb3_0c2 (Z : State) (a : Addr) (ca : ClassId) (b : Addr) (cb : ClassId) (c0_ : Int32) (c1_ : Int32) (c2_ : Int32) (h0 : Heap) (n0 : Nat) (v : Option Value) (h : Heap) (L : List Loc) : Prop := v = some (.int (0 : Int32)) ∧ Fr n0 L ∧ Keep h0 h [b]
set_option maxRecDepth 65536 in
set_option maxHeartbeats 40000000 in
theorem rsb3_0c2 (l : Launch) (Z : State) (a0 : Array Value) (hw : ∀ d ∈ tables_1, d.before a0 Z = true) (ws : List Jvm.Cond) (a : Addr) (ca : ClassId) (b : Addr) (cb : ClassId) (c0_ : Int32) (c1_ : Int32) (c2_ : Int32) (h0 : Heap) (n0 : Nat) (Z0 : n0 ≤ h0.size) (V_a : Arv Z h0 a ca .char (3 : Int32) [(.int c0_), (.int c1_), (.int c2_)] (.int (0 : Int32))) (V_b : Arv Z h0 b cb .byte (3 : Int32) [(.int (0 : Int32)), (.int (0 : Int32)), (.int (0 : Int32))] (.int (0 : Int32))) (nab : a ≠ b) (g_b : n0 ≤ b) (hb0 : (255 : Int32) < c0_) :
    OCon l Z (⟨"java/lang/StringUTF16", "compress", "([CI[BII)I"⟩ : MethodName) jdk_52_method_21_code 7 (some .int) ws ({ frames := 0, cells := 0, slots := 0, locals := 0 } : Room) #[(.ref a), (.int (0 : Int32)), (.ref b), (.int (0 : Int32)), (.int (3 : Int32))] h0 (Q_rsb3_0c2 Z a ca b cb c0_ c1_ c2_ h0 n0) := by
  refine OCon.of (plainFor_of_name pn1) ?_
  intro p e s m below meth c s₁ Φ X0 hx hby hml hown hnm hret hlk hZ e0 hΦ
  have N0 := Fr.nil n0
  refine os (fun _ z => castTop (ef_rsb3_0c2 m a (0 : Int32) b (0 : Int32) (3 : Int32)) z) ?_
  have K0 := Keep.refl h0 [b]
  show OG p e below Φ s₁ m 0 #[rv a, iv 0, rv b, iv 0, iv 3, .unset, .unset] []
  refine os (fun _ z => XS.iconst X0.here hx rfl (hb hby d5_0) z) ?_
  refine os (fun _ z => XS.istore X0.here hx rfl (hb hby d5_1) rfl (l' := #[rv a, iv 0, rv b, iv 0, iv 3, iv 0, .unset]) rfl z) ?_
  show OG p e below Φ s₁ m 3 #[rv a, iv 0, rv b, iv 0, iv 3, iv 0, .unset] []
  refine os (fun _ z => XS.iload X0.here hx rfl (hb hby d5_3) rfl z) ?_
  refine os (fun _ z => XS.iload X0.here hx rfl (hb hby d5_5) rfl z) ?_
  show OG p e below Φ s₁ m 7 #[rv a, iv 0, rv b, iv 0, iv 3, iv 0, .unset] [(.int 3), (.int 0)]
  refine os (fun _ z => XS.icmpNo X0.here hx rfl (hb hby d5_7) rfl (XT.ii_ge_f (by decide)) z) ?_
  show OG p e below Φ s₁ m 10 #[rv a, iv 0, rv b, iv 0, iv 3, iv 0, .unset] []
  refine os (fun _ z => XS.aloadN X0.here hx rfl (hb hby d5_10) rfl rfl z) ?_
  refine os (fun _ z => XS.iloadN X0.here hx rfl (hb hby d5_11) rfl z) ?_
  show OG p e below Φ s₁ m 12 #[rv a, iv 0, rv b, iv 0, iv 3, iv 0, .unset] [(.int 0), (.ref a)]
  obtain ⟨cl1, Aq1, -, S1, M1, H1, -⟩ := id V_a
  have in1 : ¬ ((0 : Int32) < 0 ∨ cl1.slots.size ≤ (0 : Int32).toNatClampNeg) := inb_of S1 ⟨by decide, by decide⟩
  have at1 : cl1.slots[(0 : Int32).toNatClampNeg]? = some (.int c0_) := H1.at in1 rfl
  refine os (fun _ z => X0.caload hx (by rw [e0]; exact Aq1.1) (oia hZ Aq1.2.1) Aq1.2.2 in1 at1 (g := (mkF m 12 #[rv a, iv 0, rv b, iv 0, iv 3, iv 0, .unset] [(.int 0), (.ref a)])) rfl rfl (hb hby d5_12) _ z) ?_
  show OG p e below Φ s₁ m 13 #[rv a, iv 0, rv b, iv 0, iv 3, iv 0, .unset] [(.int c0_)]
  refine os (fun _ z => XS.istore X0.here hx rfl (hb hby d5_13) rfl (l' := #[rv a, iv 0, rv b, iv 0, iv 3, iv 0, iv c0_]) rfl z) ?_
  show OG p e below Φ s₁ m 15 #[rv a, iv 0, rv b, iv 0, iv 3, iv 0, iv c0_] []
  refine os (fun _ z => XS.iload X0.here hx rfl (hb hby d5_15) rfl z) ?_
  refine os (fun _ z => XS.sipush X0.here hx rfl (hb hby d5_17) z) ?_
  show OG p e below Φ s₁ m 20 #[rv a, iv 0, rv b, iv 0, iv 3, iv 0, iv c0_] [(.int 255), (.int c0_)]
  refine os (fun _ z => XS.icmpNo X0.here hx rfl (hb hby d5_20) rfl (XT.ii_le_f hb0) z) ?_
  show OG p e below Φ s₁ m 23 #[rv a, iv 0, rv b, iv 0, iv 3, iv 0, iv c0_] []
  refine os (fun _ z => XS.iload X0.here hx rfl (hb hby d5_23) rfl z) ?_
  refine OGo.fin X0 hlk (v := (some (.int 0))) (fun h => by rw [hret] at h; cases h) (by decide) (by decide) (fun fs hr => X0.ireturnOut hx hret rfl (by simp) (hb hby d5_25) hr) fun U eU hF => hΦ _ _ _ ?_ hF
  rw [eU, e0]
  show Q_rsb3_0c2 Z a ca b cb c0_ c1_ c2_ h0 n0 _ _ _
  exact ⟨rfl, N0, K0⟩

theorem ef_rsb3_0nl (m : MethodId) (x0 : Int32) : entryFrame m #[(.int x0)] 1 = mkF m 0 #[.val (.int x0)] [] := by first | (simp [entryFrame, mkF, argsToLocals, Value.category]; done) | rfl
def Q_rsb3_0nl (Z : State)  (h0 : Heap) (n0 : Nat) (v : Option Value) (h : Heap) (L : List Loc) : Prop := v = some (.int (6 : Int32)) ∧ Fr n0 L ∧ h = h0
set_option maxRecDepth 65536 in
set_option maxHeartbeats 40000000 in
theorem rsb3_0nl (l : Launch) (Z : State) (a0 : Array Value) (hw : ∀ d ∈ tables_1, d.before a0 Z = true) (ws : List Jvm.Cond)  (h0 : Heap) (n0 : Nat) (Z0 : n0 ≤ h0.size)  :
    OCon l Z (⟨"java/lang/StringUTF16", "newBytesLength", "(I)I"⟩ : MethodName) jdk_52_method_3_code 1 (some .int) ws ({ frames := 0, cells := 0, slots := 0, locals := 0 } : Room) #[(.int (3 : Int32))] h0 (Q_rsb3_0nl Z  h0 n0) := by
  refine OCon.of (plainFor_of_name pn1) ?_
  intro p e s m below meth c s₁ Φ X0 hx hby hml hown hnm hret hlk hZ e0 hΦ
  have N0 := Fr.nil n0
  refine os (fun _ z => castTop (ef_rsb3_0nl m (3 : Int32)) z) ?_
  show OG p e below Φ s₁ m 0 #[iv 3] []
  refine os (fun _ z => XS.iloadN X0.here hx rfl (hb hby d12_0) rfl z) ?_
  refine os (fun _ z => XS.ifYes X0.here hx rfl (pc0 := 1) (pc' := 12) rfl (hb hby d12_1) rfl (XT.i0_ge_t (by decide)) (by decide) (by decide) z) ?_
  show OG p e below Φ s₁ m 12 #[iv 3] []
  refine os (fun _ z => XS.iloadN X0.here hx rfl (hb hby d12_12) rfl z) ?_
  refine os (fun _ z => X0.ldcI hx hown (mvT hZ (ow61 hw)) rfl (hb hby d12_13) z) ?_
  show OG p e below Φ s₁ m 15 #[iv 3] [(.int 1073741823), (.int 3)]
  refine os (fun _ z => XS.icmpYes X0.here hx rfl (pc0 := 15) (pc' := 55) rfl (hb hby d12_15) rfl (XT.ii_lt_t (by decide)) (by decide) (by decide) z) ?_
  show OG p e below Φ s₁ m 55 #[iv 3] []
  refine os (fun _ z => XS.iloadN X0.here hx rfl (hb hby d12_55) rfl z) ?_
  refine os (fun _ z => XS.iconst X0.here hx rfl (hb hby d12_56) z) ?_
  show OG p e below Φ s₁ m 57 #[iv 3] [(.int 1), (.int 3)]
  refine os (fun _ z => XT.ishl X0.here hx rfl (hb hby d12_57) rfl z) ?_
  show OG p e below Φ s₁ m 58 #[iv 3] [(.int 6)]
  refine OGo.fin X0 hlk (v := (some (.int 6))) (fun h => by rw [hret] at h; cases h) (by decide) (by decide) (fun fs hr => X0.ireturnOut hx hret rfl (by simp) (hb hby d12_58) hr) fun U eU hF => hΦ _ _ _ ?_ hF
  rw [eU, e0]
  show Q_rsb3_0nl Z  h0 n0 _ _ _
  exact ⟨rfl, N0, rfl⟩

theorem ef_rsb3_0nf (m : MethodId) (x0 : Int32) : entryFrame m #[(.int x0)] 1 = mkF m 0 #[.val (.int x0)] [] := by first | (simp [entryFrame, mkF, argsToLocals, Value.category]; done) | rfl
def Q_rsb3_0nf (Z : State)  (h0 : Heap) (n0 : Nat) (v : Option Value) (h : Heap) (L : List Loc) : Prop := ∃ b cb, v = some (.ref b) ∧ Fr n0 L ∧ Keep h0 h [] ∧ Arv Z h b cb .byte (6 : Int32) [(.int (0 : Int32)), (.int (0 : Int32)), (.int (0 : Int32)), (.int (0 : Int32)), (.int (0 : Int32)), (.int (0 : Int32))] (.int (0 : Int32)) ∧ h0.size ≤ b
set_option maxRecDepth 65536 in
set_option maxHeartbeats 40000000 in
theorem rsb3_0nf (l : Launch) (Z : State) (a0 : Array Value) (hw : ∀ d ∈ tables_1, d.before a0 Z = true) (ws : List Jvm.Cond)  (h0 : Heap) (n0 : Nat) (Z0 : n0 ≤ h0.size)  :
    OCon l Z (⟨"java/lang/StringUTF16", "newBytesFor", "(I)[B"⟩ : MethodName) jdk_52_method_2_code 1 (some (.array .byte)) ws ({ frames := 1, cells := 1, slots := 6, locals := 12 } : Room) #[(.int (3 : Int32))] h0 (Q_rsb3_0nf Z  h0 n0) := by
  refine OCon.of (plainFor_of_name pn1) ?_
  intro p e s m below meth c s₁ Φ X0 hx hby hml hown hnm hret hlk hZ e0 hΦ
  have N0 := Fr.nil n0
  refine os (fun _ z => castTop (ef_rsb3_0nf m (3 : Int32)) z) ?_
  have K0 := Keep.refl h0 []
  show OG p e below Φ s₁ m 0 #[iv 3] []
  refine os (fun _ z => XS.iloadN X0.here hx rfl (hb hby d11_0) rfl z) ?_
  obtain ⟨_, T1, L1, X1, hQ1, st1⟩ := own_callSt X0 hx hZ hown (ow58 hw) (ow59 hw) (ow20 hw) (ow60 hw) (by decide) (rsb3_0nl l Z a0 hw []  h0 n0 Z0 ) e0 (W := 0) (by decide) (by decide) (by decide) (by decide) (pc := 1) (ls := #[iv 3]) (stk := [(.int 3)]) (by rw [hml]; rfl) (argsL := [(.int 3)]) (rest := []) (lenOf pd4 rfl) rfl rfl (Nat.le_of_eq rfl) (hb hby d11_1)
  obtain ⟨rfl, Nq1, e1⟩ := hQ1
  have N1 := Fr.app N0 Nq1
  refine os st1 ?_
  show OG p e below Φ T1 m 4 #[iv 3] [(.int 6)]
  obtain ⟨T2, h2, c2, X2, e2, E2, Ar2, st2⟩ := newP (aty := .byte) X1 hx hZ (ow1 hw) e1 (g := (mkF m 4 #[iv 3] [(.int 6)])) rfl (hb hby d11_4) rfl (by decide) (cap := 6) (by decide) (by decide) (by decide) (by decide)
  obtain ⟨b2, g2⟩ : ∃ z, z = h0.size := ⟨_, rfl⟩
  rw [← g2] at Ar2 st2
  have gb2 : n0 ≤ b2 := Nat.le_trans Z0 (Nat.le_of_eq g2.symm)
  have sz2 : h0.size ≤ b2 := Nat.le_trans K0.1 (Nat.le_of_eq g2.symm)
  have K2 := K0.ext E2
  have Zs2 : n0 ≤ h2.size := Nat.le_trans Z0 E2.1
  have V2 : Arv Z h2 b2 c2 .byte (6 : Int32) [(.int (0 : Int32)), (.int (0 : Int32)), (.int (0 : Int32)), (.int (0 : Int32)), (.int (0 : Int32)), (.int (0 : Int32))] (.int (0 : Int32)) := (Arv.new Ar2 (by decide)).pad (pad_rep [] _ 6)
  refine os st2 ?_
  show OG p e below Φ T2 m 6 #[iv 3] [(.ref b2)]
  refine OGo.fin X2 hlk (v := (some (.ref b2))) (fun h => by rw [hret] at h; cases h) (by decide) (by decide) (fun fs hr => X2.areturnOut hx rfl hret rfl (hb hby d11_6) hr) fun U eU hF => hΦ _ _ _ ?_ hF
  rw [eU, e2]
  show Q_rsb3_0nf Z  h0 n0 _ _ _
  exact ⟨_, _, rfl, N1, K2, V2, sz2⟩

theorem ef_rsb3_0pc0 (m : MethodId) (x0 : Addr) (x1 : Int32) (x2 : Int32) : entryFrame m #[(.ref x0), (.int x1), (.int x2)] 3 = mkF m 0 #[.val (.ref x0), .val (.int x1), .val (.int x2)] [] := by first | (simp [entryFrame, mkF, argsToLocals, Value.category]; done) | rfl
def Q_rsb3_0pc0 (Z : State) (b : Addr) (cb : ClassId) (c0_ : Int32) (c1_ : Int32) (c2_ : Int32) (h0 : Heap) (n0 : Nat) (v : Option Value) (h : Heap) (L : List Loc) : Prop := v = none ∧ Fr n0 L ∧ Keep h0 h [b] ∧ Arv Z h b cb .byte (6 : Int32) [(.int (ohb c0_)), (.int (olb c0_)), (.int (0 : Int32)), (.int (0 : Int32)), (.int (0 : Int32)), (.int (0 : Int32))] (.int (0 : Int32))
set_option maxRecDepth 65536 in
set_option maxHeartbeats 40000000 in
theorem rsb3_0pc0 (l : Launch) (Z : State) (a0 : Array Value) (hw : ∀ d ∈ tables_1, d.before a0 Z = true) (ws : List Jvm.Cond) (b : Addr) (cb : ClassId) (c0_ : Int32) (c1_ : Int32) (c2_ : Int32) (h0 : Heap) (n0 : Nat) (Z0 : n0 ≤ h0.size) (V_b : Arv Z h0 b cb .byte (6 : Int32) [(.int (0 : Int32)), (.int (0 : Int32)), (.int (0 : Int32)), (.int (0 : Int32)), (.int (0 : Int32)), (.int (0 : Int32))] (.int (0 : Int32))) (g_b : n0 ≤ b) (S_ad : Sta Z h0 "java/lang/StringUTF16" "$assertionsDisabled" "Z" (.int (1 : Int32))) (S_hb : Sta Z h0 "java/lang/StringUTF16" "HI_BYTE_SHIFT" "I" (.int (0 : Int32))) (S_lb : Sta Z h0 "java/lang/StringUTF16" "LO_BYTE_SHIFT" "I" (.int (8 : Int32))) :
    OCon l Z (⟨"java/lang/StringUTF16", "putChar", "([BII)V"⟩ : MethodName) jdk_52_method_4_code 3 none ws ({ frames := 0, cells := 0, slots := 0, locals := 0 } : Room) #[(.ref b), (.int (0 : Int32)), (.int c0_)] h0 (Q_rsb3_0pc0 Z b cb c0_ c1_ c2_ h0 n0) := by
  refine OCon.of (plainFor_of_name pn1) ?_
  intro p e s m below meth c s₁ Φ X0 hx hby hml hown hnm hret hlk hZ e0 hΦ
  have N0 := Fr.nil n0
  refine os (fun _ z => castTop (ef_rsb3_0pc0 m b (0 : Int32) c0_) z) ?_
  have K0 := Keep.refl h0 [b]
  show OG p e below Φ s₁ m 0 #[rv b, iv 0, iv c0_] []
  obtain ⟨T1, X1, e1, st1⟩ := getS2 X0 hx hZ hown (host := "") (Or.inl (ow65 hw)) Via.refl e0 S_ad (g := (mkF m 0 #[rv b, iv 0, iv c0_] [])) rfl (hb hby d13_0)
  refine os st1 ?_
  show OG p e below Φ T1 m 3 #[rv b, iv 0, iv c0_] [(.int 1)]
  refine os (fun _ z => XS.ifYes X1.here hx rfl (pc0 := 3) (pc' := 28) rfl (hb hby d13_3) rfl (XT.i0_ne_t (by decide)) (by decide) (by decide) z) ?_
  show OG p e below Φ T1 m 28 #[rv b, iv 0, iv c0_] []
  refine os (fun _ z => XS.iloadN X1.here hx rfl (hb hby d13_28) rfl z) ?_
  refine os (fun _ z => XS.iconst X1.here hx rfl (hb hby d13_29) z) ?_
  show OG p e below Φ T1 m 30 #[rv b, iv 0, iv c0_] [(.int 1), (.int 0)]
  refine os (fun _ z => XT.ishl X1.here hx rfl (hb hby d13_30) rfl z) ?_
  show OG p e below Φ T1 m 31 #[rv b, iv 0, iv c0_] [(.int 0)]
  refine os (fun _ z => XS.istoreN X1.here hx rfl (hb hby d13_31) rfl (l' := #[rv b, iv 0, iv c0_]) rfl z) ?_
  show OG p e below Φ T1 m 32 #[rv b, iv 0, iv c0_] []
  refine os (fun _ z => XS.aloadN X1.here hx rfl (hb hby d13_32) rfl rfl z) ?_
  refine os (fun _ z => XS.iloadN X1.here hx rfl (hb hby d13_33) rfl z) ?_
  show OG p e below Φ T1 m 34 #[rv b, iv 0, iv c0_] [(.int 0), (.ref b)]
  refine os (fun _ z => XS.iinc X1.here hx rfl (hb hby d13_34) rfl (l' := #[rv b, iv ((0 : Int32) + (1 : Int32)), iv c0_]) rfl z) ?_
  show OG p e below Φ T1 m 37 #[rv b, iv 1, iv c0_] [(.int 0), (.ref b)]
  refine os (fun _ z => XS.iloadN X1.here hx rfl (hb hby d13_37) rfl z) ?_
  obtain ⟨T2, X2, e2, st2⟩ := getS2 X1 hx hZ hown (host := "") (Or.inl (ow66 hw)) Via.refl e1 S_hb (g := (mkF m 38 #[rv b, iv 1, iv c0_] [(.int c0_), (.int 0), (.ref b)])) rfl (hb hby d13_38)
  refine os st2 ?_
  show OG p e below Φ T2 m 41 #[rv b, iv 1, iv c0_] [(.int 0), (.int c0_), (.int 0), (.ref b)]
  refine os (fun _ z => XT.ishr X2.here hx rfl (hb hby d13_41) rfl z) ?_
  show OG p e below Φ T2 m 42 #[rv b, iv 1, iv c0_] [(.int (c0_ >>> ((0 : Int32) &&& 31))), (.int 0), (.ref b)]
  refine os (fun _ z => XT.i2b X2.here hx rfl (hb hby d13_42) rfl z) ?_
  show OG p e below Φ T2 m 43 #[rv b, iv 1, iv c0_] [(.int ((c0_ >>> ((0 : Int32) &&& 31)).toInt8.toInt32)), (.int 0), (.ref b)]
  obtain ⟨cl3, Aq3, Cq3, S3, M3, H3, G3⟩ := id V_b
  have in3 : ¬ ((0 : Int32) < 0 ∨ cl3.slots.size ≤ (0 : Int32).toNatClampNeg) := inb_of S3 ⟨by decide, by decide⟩
  obtain ⟨T3, h3, X3, e3, W3, st3⟩ := stB X2 hx hZ e2 Aq3 in3 (g := (mkF m 43 #[rv b, iv 1, iv c0_] [(.int ((c0_ >>> ((0 : Int32) &&& 31)).toInt8.toInt32)), (.int 0), (.ref b)])) rfl rfl (hb hby d13_43)
  have W3 : Wr h0 h3 b (0 : Int32).toNatClampNeg (.int (nar .byte ((c0_ >>> ((0 : Int32) &&& 31)).toInt8.toInt32))) := W3
  have F4 := S_ad.wr W3
  have F5 := S_hb.wr W3
  have F6 := S_lb.wr W3
  have V3 : Arv Z h3 b cb .byte (6 : Int32) [(.int (nar .byte ((c0_ >>> ((0 : Int32) &&& 31)).toInt8.toInt32))), (.int (0 : Int32)), (.int (0 : Int32)), (.int (0 : Int32)), (.int (0 : Int32)), (.int (0 : Int32))] (.int (0 : Int32)) := Arv.set Aq3 Cq3 S3 M3 H3 G3 (fits_nar_byte _) W3 0 (by decide) (by show 0 < 6; decide)
  have K3 := K0.wr W3 (Or.inl (List.mem_of_getElem? (i := 0) rfl))
  have N3 := Fr.snoc X3 N0 g_b
  have Zs3 : n0 ≤ h3.size := by rw [W3.size]; exact Z0
  refine os st3 ?_
  show OG p e below Φ T3 m 44 #[rv b, iv 1, iv c0_] []
  refine os (fun _ z => XS.aloadN X3.here hx rfl (hb hby d13_44) rfl rfl z) ?_
  refine os (fun _ z => XS.iloadN X3.here hx rfl (hb hby d13_45) rfl z) ?_
  show OG p e below Φ T3 m 46 #[rv b, iv 1, iv c0_] [(.int 1), (.ref b)]
  refine os (fun _ z => XS.iloadN X3.here hx rfl (hb hby d13_46) rfl z) ?_
  obtain ⟨T7, X7, e7, st7⟩ := getS2 X3 hx hZ hown (host := "") (Or.inl (ow67 hw)) Via.refl e3 F6 (g := (mkF m 47 #[rv b, iv 1, iv c0_] [(.int c0_), (.int 1), (.ref b)])) rfl (hb hby d13_47)
  refine os st7 ?_
  show OG p e below Φ T7 m 50 #[rv b, iv 1, iv c0_] [(.int 8), (.int c0_), (.int 1), (.ref b)]
  refine os (fun _ z => XT.ishr X7.here hx rfl (hb hby d13_50) rfl z) ?_
  show OG p e below Φ T7 m 51 #[rv b, iv 1, iv c0_] [(.int (c0_ >>> ((8 : Int32) &&& 31))), (.int 1), (.ref b)]
  refine os (fun _ z => XT.i2b X7.here hx rfl (hb hby d13_51) rfl z) ?_
  show OG p e below Φ T7 m 52 #[rv b, iv 1, iv c0_] [(.int ((c0_ >>> ((8 : Int32) &&& 31)).toInt8.toInt32)), (.int 1), (.ref b)]
  obtain ⟨cl8, Aq8, Cq8, S8, M8, H8, G8⟩ := id V3
  have in8 : ¬ ((1 : Int32) < 0 ∨ cl8.slots.size ≤ (1 : Int32).toNatClampNeg) := inb_of S8 ⟨by decide, by decide⟩
  obtain ⟨T8, h8, X8, e8, W8, st8⟩ := stB X7 hx hZ e7 Aq8 in8 (g := (mkF m 52 #[rv b, iv 1, iv c0_] [(.int ((c0_ >>> ((8 : Int32) &&& 31)).toInt8.toInt32)), (.int 1), (.ref b)])) rfl rfl (hb hby d13_52)
  have W8 : Wr h3 h8 b (1 : Int32).toNatClampNeg (.int (nar .byte ((c0_ >>> ((8 : Int32) &&& 31)).toInt8.toInt32))) := W8
  have F9 := F4.wr W8
  have F10 := F5.wr W8
  have F11 := F6.wr W8
  have V8 : Arv Z h8 b cb .byte (6 : Int32) [(.int (nar .byte ((c0_ >>> ((0 : Int32) &&& 31)).toInt8.toInt32))), (.int (nar .byte ((c0_ >>> ((8 : Int32) &&& 31)).toInt8.toInt32))), (.int (0 : Int32)), (.int (0 : Int32)), (.int (0 : Int32)), (.int (0 : Int32))] (.int (0 : Int32)) := Arv.set Aq8 Cq8 S8 M8 H8 G8 (fits_nar_byte _) W8 1 (by decide) (by show 1 < 6; decide)
  have K8 := K3.wr W8 (Or.inl (List.mem_of_getElem? (i := 0) rfl))
  have N8 := Fr.snoc X8 N3 g_b
  have Zs8 : n0 ≤ h8.size := by rw [W8.size]; exact Zs3
  refine os st8 ?_
  show OG p e below Φ T8 m 53 #[rv b, iv 1, iv c0_] []
  refine OGo.fin X8 hlk (v := none) (fun _ => rfl) (by decide) (by decide) (fun fs hr => X8.returnOut hx hret (hb hby d13_53) hr) fun U eU hF => hΦ _ _ _ ?_ hF
  rw [eU, e8]
  show Q_rsb3_0pc0 Z b cb c0_ c1_ c2_ h0 n0 _ _ _
  exact ⟨rfl, N8, K8, V8⟩

theorem ef_rsb3_0pc1 (m : MethodId) (x0 : Addr) (x1 : Int32) (x2 : Int32) : entryFrame m #[(.ref x0), (.int x1), (.int x2)] 3 = mkF m 0 #[.val (.ref x0), .val (.int x1), .val (.int x2)] [] := by first | (simp [entryFrame, mkF, argsToLocals, Value.category]; done) | rfl
def Q_rsb3_0pc1 (Z : State) (b : Addr) (cb : ClassId) (c0_ : Int32) (c1_ : Int32) (c2_ : Int32) (h0 : Heap) (n0 : Nat) (v : Option Value) (h : Heap) (L : List Loc) : Prop := v = none ∧ Fr n0 L ∧ Keep h0 h [b] ∧ Arv Z h b cb .byte (6 : Int32) [(.int (ohb c0_)), (.int (olb c0_)), (.int (ohb c1_)), (.int (olb c1_)), (.int (0 : Int32)), (.int (0 : Int32))] (.int (0 : Int32))
set_option maxRecDepth 65536 in
set_option maxHeartbeats 40000000 in
theorem rsb3_0pc1 (l : Launch) (Z : State) (a0 : Array Value) (hw : ∀ d ∈ tables_1, d.before a0 Z = true) (ws : List Jvm.Cond) (b : Addr) (cb : ClassId) (c0_ : Int32) (c1_ : Int32) (c2_ : Int32) (h0 : Heap) (n0 : Nat) (Z0 : n0 ≤ h0.size) (V_b : Arv Z h0 b cb .byte (6 : Int32) [(.int (ohb c0_)), (.int (olb c0_)), (.int (0 : Int32)), (.int (0 : Int32)), (.int (0 : Int32)), (.int (0 : Int32))] (.int (0 : Int32))) (g_b : n0 ≤ b) (S_ad : Sta Z h0 "java/lang/StringUTF16" "$assertionsDisabled" "Z" (.int (1 : Int32))) (S_hb : Sta Z h0 "java/lang/StringUTF16" "HI_BYTE_SHIFT" "I" (.int (0 : Int32))) (S_lb : Sta Z h0 "java/lang/StringUTF16" "LO_BYTE_SHIFT" "I" (.int (8 : Int32))) :
    OCon l Z (⟨"java/lang/StringUTF16", "putChar", "([BII)V"⟩ : MethodName) jdk_52_method_4_code 3 none ws ({ frames := 0, cells := 0, slots := 0, locals := 0 } : Room) #[(.ref b), (.int (1 : Int32)), (.int c1_)] h0 (Q_rsb3_0pc1 Z b cb c0_ c1_ c2_ h0 n0) := by
  refine OCon.of (plainFor_of_name pn1) ?_
  intro p e s m below meth c s₁ Φ X0 hx hby hml hown hnm hret hlk hZ e0 hΦ
  have N0 := Fr.nil n0
  refine os (fun _ z => castTop (ef_rsb3_0pc1 m b (1 : Int32) c1_) z) ?_
  have K0 := Keep.refl h0 [b]
  show OG p e below Φ s₁ m 0 #[rv b, iv 1, iv c1_] []
  obtain ⟨T1, X1, e1, st1⟩ := getS2 X0 hx hZ hown (host := "") (Or.inl (ow65 hw)) Via.refl e0 S_ad (g := (mkF m 0 #[rv b, iv 1, iv c1_] [])) rfl (hb hby d13_0)
  refine os st1 ?_
  show OG p e below Φ T1 m 3 #[rv b, iv 1, iv c1_] [(.int 1)]
  refine os (fun _ z => XS.ifYes X1.here hx rfl (pc0 := 3) (pc' := 28) rfl (hb hby d13_3) rfl (XT.i0_ne_t (by decide)) (by decide) (by decide) z) ?_
  show OG p e below Φ T1 m 28 #[rv b, iv 1, iv c1_] []
  refine os (fun _ z => XS.iloadN X1.here hx rfl (hb hby d13_28) rfl z) ?_
  refine os (fun _ z => XS.iconst X1.here hx rfl (hb hby d13_29) z) ?_
  show OG p e below Φ T1 m 30 #[rv b, iv 1, iv c1_] [(.int 1), (.int 1)]
  refine os (fun _ z => XT.ishl X1.here hx rfl (hb hby d13_30) rfl z) ?_
  show OG p e below Φ T1 m 31 #[rv b, iv 1, iv c1_] [(.int 2)]
  refine os (fun _ z => XS.istoreN X1.here hx rfl (hb hby d13_31) rfl (l' := #[rv b, iv 2, iv c1_]) rfl z) ?_
  show OG p e below Φ T1 m 32 #[rv b, iv 2, iv c1_] []
  refine os (fun _ z => XS.aloadN X1.here hx rfl (hb hby d13_32) rfl rfl z) ?_
  refine os (fun _ z => XS.iloadN X1.here hx rfl (hb hby d13_33) rfl z) ?_
  show OG p e below Φ T1 m 34 #[rv b, iv 2, iv c1_] [(.int 2), (.ref b)]
  refine os (fun _ z => XS.iinc X1.here hx rfl (hb hby d13_34) rfl (l' := #[rv b, iv ((2 : Int32) + (1 : Int32)), iv c1_]) rfl z) ?_
  show OG p e below Φ T1 m 37 #[rv b, iv 3, iv c1_] [(.int 2), (.ref b)]
  refine os (fun _ z => XS.iloadN X1.here hx rfl (hb hby d13_37) rfl z) ?_
  obtain ⟨T2, X2, e2, st2⟩ := getS2 X1 hx hZ hown (host := "") (Or.inl (ow66 hw)) Via.refl e1 S_hb (g := (mkF m 38 #[rv b, iv 3, iv c1_] [(.int c1_), (.int 2), (.ref b)])) rfl (hb hby d13_38)
  refine os st2 ?_
  show OG p e below Φ T2 m 41 #[rv b, iv 3, iv c1_] [(.int 0), (.int c1_), (.int 2), (.ref b)]
  refine os (fun _ z => XT.ishr X2.here hx rfl (hb hby d13_41) rfl z) ?_
  show OG p e below Φ T2 m 42 #[rv b, iv 3, iv c1_] [(.int (c1_ >>> ((0 : Int32) &&& 31))), (.int 2), (.ref b)]
  refine os (fun _ z => XT.i2b X2.here hx rfl (hb hby d13_42) rfl z) ?_
  show OG p e below Φ T2 m 43 #[rv b, iv 3, iv c1_] [(.int ((c1_ >>> ((0 : Int32) &&& 31)).toInt8.toInt32)), (.int 2), (.ref b)]
  obtain ⟨cl3, Aq3, Cq3, S3, M3, H3, G3⟩ := id V_b
  have in3 : ¬ ((2 : Int32) < 0 ∨ cl3.slots.size ≤ (2 : Int32).toNatClampNeg) := inb_of S3 ⟨by decide, by decide⟩
  obtain ⟨T3, h3, X3, e3, W3, st3⟩ := stB X2 hx hZ e2 Aq3 in3 (g := (mkF m 43 #[rv b, iv 3, iv c1_] [(.int ((c1_ >>> ((0 : Int32) &&& 31)).toInt8.toInt32)), (.int 2), (.ref b)])) rfl rfl (hb hby d13_43)
  have W3 : Wr h0 h3 b (2 : Int32).toNatClampNeg (.int (nar .byte ((c1_ >>> ((0 : Int32) &&& 31)).toInt8.toInt32))) := W3
  have F4 := S_ad.wr W3
  have F5 := S_hb.wr W3
  have F6 := S_lb.wr W3
  have V3 : Arv Z h3 b cb .byte (6 : Int32) [(.int (ohb c0_)), (.int (olb c0_)), (.int (nar .byte ((c1_ >>> ((0 : Int32) &&& 31)).toInt8.toInt32))), (.int (0 : Int32)), (.int (0 : Int32)), (.int (0 : Int32))] (.int (0 : Int32)) := Arv.set Aq3 Cq3 S3 M3 H3 G3 (fits_nar_byte _) W3 2 (by decide) (by show 2 < 6; decide)
  have K3 := K0.wr W3 (Or.inl (List.mem_of_getElem? (i := 0) rfl))
  have N3 := Fr.snoc X3 N0 g_b
  have Zs3 : n0 ≤ h3.size := by rw [W3.size]; exact Z0
  refine os st3 ?_
  show OG p e below Φ T3 m 44 #[rv b, iv 3, iv c1_] []
  refine os (fun _ z => XS.aloadN X3.here hx rfl (hb hby d13_44) rfl rfl z) ?_
  refine os (fun _ z => XS.iloadN X3.here hx rfl (hb hby d13_45) rfl z) ?_
  show OG p e below Φ T3 m 46 #[rv b, iv 3, iv c1_] [(.int 3), (.ref b)]
  refine os (fun _ z => XS.iloadN X3.here hx rfl (hb hby d13_46) rfl z) ?_
  obtain ⟨T7, X7, e7, st7⟩ := getS2 X3 hx hZ hown (host := "") (Or.inl (ow67 hw)) Via.refl e3 F6 (g := (mkF m 47 #[rv b, iv 3, iv c1_] [(.int c1_), (.int 3), (.ref b)])) rfl (hb hby d13_47)
  refine os st7 ?_
  show OG p e below Φ T7 m 50 #[rv b, iv 3, iv c1_] [(.int 8), (.int c1_), (.int 3), (.ref b)]
  refine os (fun _ z => XT.ishr X7.here hx rfl (hb hby d13_50) rfl z) ?_
  show OG p e below Φ T7 m 51 #[rv b, iv 3, iv c1_] [(.int (c1_ >>> ((8 : Int32) &&& 31))), (.int 3), (.ref b)]
  refine os (fun _ z => XT.i2b X7.here hx rfl (hb hby d13_51) rfl z) ?_
  show OG p e below Φ T7 m 52 #[rv b, iv 3, iv c1_] [(.int ((c1_ >>> ((8 : Int32) &&& 31)).toInt8.toInt32)), (.int 3), (.ref b)]
  obtain ⟨cl8, Aq8, Cq8, S8, M8, H8, G8⟩ := id V3
  have in8 : ¬ ((3 : Int32) < 0 ∨ cl8.slots.size ≤ (3 : Int32).toNatClampNeg) := inb_of S8 ⟨by decide, by decide⟩
  obtain ⟨T8, h8, X8, e8, W8, st8⟩ := stB X7 hx hZ e7 Aq8 in8 (g := (mkF m 52 #[rv b, iv 3, iv c1_] [(.int ((c1_ >>> ((8 : Int32) &&& 31)).toInt8.toInt32)), (.int 3), (.ref b)])) rfl rfl (hb hby d13_52)
  have W8 : Wr h3 h8 b (3 : Int32).toNatClampNeg (.int (nar .byte ((c1_ >>> ((8 : Int32) &&& 31)).toInt8.toInt32))) := W8
  have F9 := F4.wr W8
  have F10 := F5.wr W8
  have F11 := F6.wr W8
  have V8 : Arv Z h8 b cb .byte (6 : Int32) [(.int (ohb c0_)), (.int (olb c0_)), (.int (nar .byte ((c1_ >>> ((0 : Int32) &&& 31)).toInt8.toInt32))), (.int (nar .byte ((c1_ >>> ((8 : Int32) &&& 31)).toInt8.toInt32))), (.int (0 : Int32)), (.int (0 : Int32))] (.int (0 : Int32)) := Arv.set Aq8 Cq8 S8 M8 H8 G8 (fits_nar_byte _) W8 3 (by decide) (by show 3 < 6; decide)
  have K8 := K3.wr W8 (Or.inl (List.mem_of_getElem? (i := 0) rfl))
  have N8 := Fr.snoc X8 N3 g_b
  have Zs8 : n0 ≤ h8.size := by rw [W8.size]; exact Zs3
  refine os st8 ?_
  show OG p e below Φ T8 m 53 #[rv b, iv 3, iv c1_] []
  refine OGo.fin X8 hlk (v := none) (fun _ => rfl) (by decide) (by decide) (fun fs hr => X8.returnOut hx hret (hb hby d13_53) hr) fun U eU hF => hΦ _ _ _ ?_ hF
  rw [eU, e8]
  show Q_rsb3_0pc1 Z b cb c0_ c1_ c2_ h0 n0 _ _ _
  exact ⟨rfl, N8, K8, V8⟩

theorem ef_rsb3_0pc2 (m : MethodId) (x0 : Addr) (x1 : Int32) (x2 : Int32) : entryFrame m #[(.ref x0), (.int x1), (.int x2)] 3 = mkF m 0 #[.val (.ref x0), .val (.int x1), .val (.int x2)] [] := by first | (simp [entryFrame, mkF, argsToLocals, Value.category]; done) | rfl
def Q_rsb3_0pc2 (Z : State) (b : Addr) (cb : ClassId) (c0_ : Int32) (c1_ : Int32) (c2_ : Int32) (h0 : Heap) (n0 : Nat) (v : Option Value) (h : Heap) (L : List Loc) : Prop := v = none ∧ Fr n0 L ∧ Keep h0 h [b] ∧ Arv Z h b cb .byte (6 : Int32) [(.int (ohb c0_)), (.int (olb c0_)), (.int (ohb c1_)), (.int (olb c1_)), (.int (ohb c2_)), (.int (olb c2_))] (.int (0 : Int32))
set_option maxRecDepth 65536 in
set_option maxHeartbeats 40000000 in
theorem rsb3_0pc2 (l : Launch) (Z : State) (a0 : Array Value) (hw : ∀ d ∈ tables_1, d.before a0 Z = true) (ws : List Jvm.Cond) (b : Addr) (cb : ClassId) (c0_ : Int32) (c1_ : Int32) (c2_ : Int32) (h0 : Heap) (n0 : Nat) (Z0 : n0 ≤ h0.size) (V_b : Arv Z h0 b cb .byte (6 : Int32) [(.int (ohb c0_)), (.int (olb c0_)), (.int (ohb c1_)), (.int (olb c1_)), (.int (0 : Int32)), (.int (0 : Int32))] (.int (0 : Int32))) (g_b : n0 ≤ b) (S_ad : Sta Z h0 "java/lang/StringUTF16" "$assertionsDisabled" "Z" (.int (1 : Int32))) (S_hb : Sta Z h0 "java/lang/StringUTF16" "HI_BYTE_SHIFT" "I" (.int (0 : Int32))) (S_lb : Sta Z h0 "java/lang/StringUTF16" "LO_BYTE_SHIFT" "I" (.int (8 : Int32))) :
    OCon l Z (⟨"java/lang/StringUTF16", "putChar", "([BII)V"⟩ : MethodName) jdk_52_method_4_code 3 none ws ({ frames := 0, cells := 0, slots := 0, locals := 0 } : Room) #[(.ref b), (.int (2 : Int32)), (.int c2_)] h0 (Q_rsb3_0pc2 Z b cb c0_ c1_ c2_ h0 n0) := by
  refine OCon.of (plainFor_of_name pn1) ?_
  intro p e s m below meth c s₁ Φ X0 hx hby hml hown hnm hret hlk hZ e0 hΦ
  have N0 := Fr.nil n0
  refine os (fun _ z => castTop (ef_rsb3_0pc2 m b (2 : Int32) c2_) z) ?_
  have K0 := Keep.refl h0 [b]
  show OG p e below Φ s₁ m 0 #[rv b, iv 2, iv c2_] []
  obtain ⟨T1, X1, e1, st1⟩ := getS2 X0 hx hZ hown (host := "") (Or.inl (ow65 hw)) Via.refl e0 S_ad (g := (mkF m 0 #[rv b, iv 2, iv c2_] [])) rfl (hb hby d13_0)
  refine os st1 ?_
  show OG p e below Φ T1 m 3 #[rv b, iv 2, iv c2_] [(.int 1)]
  refine os (fun _ z => XS.ifYes X1.here hx rfl (pc0 := 3) (pc' := 28) rfl (hb hby d13_3) rfl (XT.i0_ne_t (by decide)) (by decide) (by decide) z) ?_
  show OG p e below Φ T1 m 28 #[rv b, iv 2, iv c2_] []
  refine os (fun _ z => XS.iloadN X1.here hx rfl (hb hby d13_28) rfl z) ?_
  refine os (fun _ z => XS.iconst X1.here hx rfl (hb hby d13_29) z) ?_
  show OG p e below Φ T1 m 30 #[rv b, iv 2, iv c2_] [(.int 1), (.int 2)]
  refine os (fun _ z => XT.ishl X1.here hx rfl (hb hby d13_30) rfl z) ?_
  show OG p e below Φ T1 m 31 #[rv b, iv 2, iv c2_] [(.int 4)]
  refine os (fun _ z => XS.istoreN X1.here hx rfl (hb hby d13_31) rfl (l' := #[rv b, iv 4, iv c2_]) rfl z) ?_
  show OG p e below Φ T1 m 32 #[rv b, iv 4, iv c2_] []
  refine os (fun _ z => XS.aloadN X1.here hx rfl (hb hby d13_32) rfl rfl z) ?_
  refine os (fun _ z => XS.iloadN X1.here hx rfl (hb hby d13_33) rfl z) ?_
  show OG p e below Φ T1 m 34 #[rv b, iv 4, iv c2_] [(.int 4), (.ref b)]
  refine os (fun _ z => XS.iinc X1.here hx rfl (hb hby d13_34) rfl (l' := #[rv b, iv ((4 : Int32) + (1 : Int32)), iv c2_]) rfl z) ?_
  show OG p e below Φ T1 m 37 #[rv b, iv 5, iv c2_] [(.int 4), (.ref b)]
  refine os (fun _ z => XS.iloadN X1.here hx rfl (hb hby d13_37) rfl z) ?_
  obtain ⟨T2, X2, e2, st2⟩ := getS2 X1 hx hZ hown (host := "") (Or.inl (ow66 hw)) Via.refl e1 S_hb (g := (mkF m 38 #[rv b, iv 5, iv c2_] [(.int c2_), (.int 4), (.ref b)])) rfl (hb hby d13_38)
  refine os st2 ?_
  show OG p e below Φ T2 m 41 #[rv b, iv 5, iv c2_] [(.int 0), (.int c2_), (.int 4), (.ref b)]
  refine os (fun _ z => XT.ishr X2.here hx rfl (hb hby d13_41) rfl z) ?_
  show OG p e below Φ T2 m 42 #[rv b, iv 5, iv c2_] [(.int (c2_ >>> ((0 : Int32) &&& 31))), (.int 4), (.ref b)]
  refine os (fun _ z => XT.i2b X2.here hx rfl (hb hby d13_42) rfl z) ?_
  show OG p e below Φ T2 m 43 #[rv b, iv 5, iv c2_] [(.int ((c2_ >>> ((0 : Int32) &&& 31)).toInt8.toInt32)), (.int 4), (.ref b)]
  obtain ⟨cl3, Aq3, Cq3, S3, M3, H3, G3⟩ := id V_b
  have in3 : ¬ ((4 : Int32) < 0 ∨ cl3.slots.size ≤ (4 : Int32).toNatClampNeg) := inb_of S3 ⟨by decide, by decide⟩
  obtain ⟨T3, h3, X3, e3, W3, st3⟩ := stB X2 hx hZ e2 Aq3 in3 (g := (mkF m 43 #[rv b, iv 5, iv c2_] [(.int ((c2_ >>> ((0 : Int32) &&& 31)).toInt8.toInt32)), (.int 4), (.ref b)])) rfl rfl (hb hby d13_43)
  have W3 : Wr h0 h3 b (4 : Int32).toNatClampNeg (.int (nar .byte ((c2_ >>> ((0 : Int32) &&& 31)).toInt8.toInt32))) := W3
  have F4 := S_ad.wr W3
  have F5 := S_hb.wr W3
  have F6 := S_lb.wr W3
  have V3 : Arv Z h3 b cb .byte (6 : Int32) [(.int (ohb c0_)), (.int (olb c0_)), (.int (ohb c1_)), (.int (olb c1_)), (.int (nar .byte ((c2_ >>> ((0 : Int32) &&& 31)).toInt8.toInt32))), (.int (0 : Int32))] (.int (0 : Int32)) := Arv.set Aq3 Cq3 S3 M3 H3 G3 (fits_nar_byte _) W3 4 (by decide) (by show 4 < 6; decide)
  have K3 := K0.wr W3 (Or.inl (List.mem_of_getElem? (i := 0) rfl))
  have N3 := Fr.snoc X3 N0 g_b
  have Zs3 : n0 ≤ h3.size := by rw [W3.size]; exact Z0
  refine os st3 ?_
  show OG p e below Φ T3 m 44 #[rv b, iv 5, iv c2_] []
  refine os (fun _ z => XS.aloadN X3.here hx rfl (hb hby d13_44) rfl rfl z) ?_
  refine os (fun _ z => XS.iloadN X3.here hx rfl (hb hby d13_45) rfl z) ?_
  show OG p e below Φ T3 m 46 #[rv b, iv 5, iv c2_] [(.int 5), (.ref b)]
  refine os (fun _ z => XS.iloadN X3.here hx rfl (hb hby d13_46) rfl z) ?_
  obtain ⟨T7, X7, e7, st7⟩ := getS2 X3 hx hZ hown (host := "") (Or.inl (ow67 hw)) Via.refl e3 F6 (g := (mkF m 47 #[rv b, iv 5, iv c2_] [(.int c2_), (.int 5), (.ref b)])) rfl (hb hby d13_47)
  refine os st7 ?_
  show OG p e below Φ T7 m 50 #[rv b, iv 5, iv c2_] [(.int 8), (.int c2_), (.int 5), (.ref b)]
  refine os (fun _ z => XT.ishr X7.here hx rfl (hb hby d13_50) rfl z) ?_
  show OG p e below Φ T7 m 51 #[rv b, iv 5, iv c2_] [(.int (c2_ >>> ((8 : Int32) &&& 31))), (.int 5), (.ref b)]
  refine os (fun _ z => XT.i2b X7.here hx rfl (hb hby d13_51) rfl z) ?_
  show OG p e below Φ T7 m 52 #[rv b, iv 5, iv c2_] [(.int ((c2_ >>> ((8 : Int32) &&& 31)).toInt8.toInt32)), (.int 5), (.ref b)]
  obtain ⟨cl8, Aq8, Cq8, S8, M8, H8, G8⟩ := id V3
  have in8 : ¬ ((5 : Int32) < 0 ∨ cl8.slots.size ≤ (5 : Int32).toNatClampNeg) := inb_of S8 ⟨by decide, by decide⟩
  obtain ⟨T8, h8, X8, e8, W8, st8⟩ := stB X7 hx hZ e7 Aq8 in8 (g := (mkF m 52 #[rv b, iv 5, iv c2_] [(.int ((c2_ >>> ((8 : Int32) &&& 31)).toInt8.toInt32)), (.int 5), (.ref b)])) rfl rfl (hb hby d13_52)
  have W8 : Wr h3 h8 b (5 : Int32).toNatClampNeg (.int (nar .byte ((c2_ >>> ((8 : Int32) &&& 31)).toInt8.toInt32))) := W8
  have F9 := F4.wr W8
  have F10 := F5.wr W8
  have F11 := F6.wr W8
  have V8 : Arv Z h8 b cb .byte (6 : Int32) [(.int (ohb c0_)), (.int (olb c0_)), (.int (ohb c1_)), (.int (olb c1_)), (.int (nar .byte ((c2_ >>> ((0 : Int32) &&& 31)).toInt8.toInt32))), (.int (nar .byte ((c2_ >>> ((8 : Int32) &&& 31)).toInt8.toInt32)))] (.int (0 : Int32)) := Arv.set Aq8 Cq8 S8 M8 H8 G8 (fits_nar_byte _) W8 5 (by decide) (by show 5 < 6; decide)
  have K8 := K3.wr W8 (Or.inl (List.mem_of_getElem? (i := 0) rfl))
  have N8 := Fr.snoc X8 N3 g_b
  have Zs8 : n0 ≤ h8.size := by rw [W8.size]; exact Zs3
  refine os st8 ?_
  show OG p e below Φ T8 m 53 #[rv b, iv 5, iv c2_] []
  refine OGo.fin X8 hlk (v := none) (fun _ => rfl) (by decide) (by decide) (fun fs hr => X8.returnOut hx hret (hb hby d13_53) hr) fun U eU hF => hΦ _ _ _ ?_ hF
  rw [eU, e8]
  show Q_rsb3_0pc2 Z b cb c0_ c1_ c2_ h0 n0 _ _ _
  exact ⟨rfl, N8, K8, V8⟩

theorem ef_rsb3_0tb (m : MethodId) (x0 : Addr) (x1 : Int32) (x2 : Int32) : entryFrame m #[(.ref x0), (.int x1), (.int x2)] 5 = mkF m 0 #[.val (.ref x0), .val (.int x1), .val (.int x2), .unset, .unset] [] := by first | (simp [entryFrame, mkF, argsToLocals, Value.category]; done) | rfl
def Q_rsb3_0tb (Z : State) (a : Addr) (ca : ClassId) (c0_ : Int32) (c1_ : Int32) (c2_ : Int32) (h0 : Heap) (n0 : Nat) (v : Option Value) (h : Heap) (L : List Loc) : Prop := ∃ b cb, v = some (.ref b) ∧ Fr n0 L ∧ Keep h0 h [] ∧ Arv Z h b cb .byte (6 : Int32) [(.int (ohb c0_)), (.int (olb c0_)), (.int (ohb c1_)), (.int (olb c1_)), (.int (ohb c2_)), (.int (olb c2_))] (.int (0 : Int32)) ∧ h0.size ≤ b
set_option maxRecDepth 65536 in
set_option maxHeartbeats 40000000 in
theorem rsb3_0tb (l : Launch) (Z : State) (a0 : Array Value) (hw : ∀ d ∈ tables_1, d.before a0 Z = true) (ws : List Jvm.Cond) (a : Addr) (ca : ClassId) (c0_ : Int32) (c1_ : Int32) (c2_ : Int32) (h0 : Heap) (n0 : Nat) (Z0 : n0 ≤ h0.size) (V_a : Arv Z h0 a ca .char (3 : Int32) [(.int c0_), (.int c1_), (.int c2_)] (.int (0 : Int32))) (O_0 : Old Z n0 h0) (S_ad : Sta Z Z.heap "java/lang/StringUTF16" "$assertionsDisabled" "Z" (.int (1 : Int32))) (S_hb : Sta Z Z.heap "java/lang/StringUTF16" "HI_BYTE_SHIFT" "I" (.int (0 : Int32))) (S_lb : Sta Z Z.heap "java/lang/StringUTF16" "LO_BYTE_SHIFT" "I" (.int (8 : Int32))) :
    OCon l Z (⟨"java/lang/StringUTF16", "toBytes", "([CII)[B"⟩ : MethodName) jdk_52_method_14_code 5 (some (.array .byte)) ws ({ frames := 2, cells := 1, slots := 6, locals := 24 } : Room) #[(.ref a), (.int (0 : Int32)), (.int (3 : Int32))] h0 (Q_rsb3_0tb Z a ca c0_ c1_ c2_ h0 n0) := by
  refine OCon.of (plainFor_of_name pn1) ?_
  intro p e s m below meth c s₁ Φ X0 hx hby hml hown hnm hret hlk hZ e0 hΦ
  have N0 := Fr.nil n0
  refine os (fun _ z => castTop (ef_rsb3_0tb m a (0 : Int32) (3 : Int32)) z) ?_
  have K0 := Keep.refl h0 []
  show OG p e below Φ s₁ m 0 #[rv a, iv 0, iv 3, .unset, .unset] []
  refine os (fun _ z => XS.iloadN X0.here hx rfl (hb hby d10_0) rfl z) ?_
  obtain ⟨_, T1, L1, X1, hQ1, st1⟩ := own_callSt X0 hx hZ hown (ow55 hw) (ow56 hw) (ow20 hw) (ow57 hw) (by decide) (rsb3_0nf l Z a0 hw []  h0 n0 Z0 ) e0 (W := 0) (by decide) (by decide) (by decide) (by decide) (pc := 1) (ls := #[rv a, iv 0, iv 3, .unset, .unset]) (stk := [(.int 3)]) (by rw [hml]; rfl) (argsL := [(.int 3)]) (rest := []) (lenOf pd5 rfl) rfl rfl (Nat.le_of_eq rfl) (hb hby d10_1)
  obtain ⟨b1, cb1, rfl, Nq1, Kq1, Vq1, hz1⟩ := hQ1
  have nq1_a : a ≠ b1 := Nat.ne_of_lt (Nat.lt_of_lt_of_le V_a.lt hz1)
  have gq1 : n0 ≤ b1 := Nat.le_trans Z0 hz1
  have sq1 : h0.size ≤ b1 := Nat.le_trans K0.1 hz1
  have N1 := Fr.app N0 Nq1
  have Zs1 : n0 ≤ T1.heap.size := Nat.le_trans Z0 Kq1.1
  have F2 := V_a.keep Kq1 nin0
  have F3 := O_0.keep Kq1 all0
  have K1 := K0.trans Kq1 all0
  refine os st1 ?_
  show OG p e below Φ T1 m 4 #[rv a, iv 0, iv 3, .unset, .unset] [(.ref b1)]
  refine os (fun _ z => XS.astoreN X1.here hx rfl (hb hby d10_4) rfl rfl (l' := #[rv a, iv 0, iv 3, rv b1, .unset]) rfl z) ?_
  show OG p e below Φ T1 m 5 #[rv a, iv 0, iv 3, rv b1, .unset] []
  refine os (fun _ z => XS.iconst X1.here hx rfl (hb hby d10_5) z) ?_
  refine os (fun _ z => XS.istore X1.here hx rfl (hb hby d10_6) rfl (l' := #[rv a, iv 0, iv 3, rv b1, iv 0]) rfl z) ?_
  show OG p e below Φ T1 m 8 #[rv a, iv 0, iv 3, rv b1, iv 0] []
  refine os (fun _ z => XS.iload X1.here hx rfl (hb hby d10_8) rfl z) ?_
  refine os (fun _ z => XS.iloadN X1.here hx rfl (hb hby d10_10) rfl z) ?_
  show OG p e below Φ T1 m 11 #[rv a, iv 0, iv 3, rv b1, iv 0] [(.int 3), (.int 0)]
  refine os (fun _ z => XS.icmpNo X1.here hx rfl (hb hby d10_11) rfl (XT.ii_ge_f (by decide)) z) ?_
  show OG p e below Φ T1 m 14 #[rv a, iv 0, iv 3, rv b1, iv 0] []
  refine os (fun _ z => XS.aloadN X1.here hx rfl (hb hby d10_14) rfl rfl z) ?_
  refine os (fun _ z => XS.iload X1.here hx rfl (hb hby d10_15) rfl z) ?_
  show OG p e below Φ T1 m 17 #[rv a, iv 0, iv 3, rv b1, iv 0] [(.int 0), (.ref b1)]
  refine os (fun _ z => XS.aloadN X1.here hx rfl (hb hby d10_17) rfl rfl z) ?_
  refine os (fun _ z => XS.iloadN X1.here hx rfl (hb hby d10_18) rfl z) ?_
  show OG p e below Φ T1 m 19 #[rv a, iv 0, iv 3, rv b1, iv 0] [(.int 0), (.ref a), (.int 0), (.ref b1)]
  obtain ⟨cl4, Aq4, -, S4, M4, H4, -⟩ := id F2
  have in4 : ¬ ((0 : Int32) < 0 ∨ cl4.slots.size ≤ (0 : Int32).toNatClampNeg) := inb_of S4 ⟨by decide, by decide⟩
  have at4 : cl4.slots[(0 : Int32).toNatClampNeg]? = some (.int c0_) := H4.at in4 rfl
  refine os (fun _ z => X1.caload hx Aq4.1 (oia hZ Aq4.2.1) Aq4.2.2 in4 at4 (g := (mkF m 19 #[rv a, iv 0, iv 3, rv b1, iv 0] [(.int 0), (.ref a), (.int 0), (.ref b1)])) rfl rfl (hb hby d10_19) _ z) ?_
  show OG p e below Φ T1 m 20 #[rv a, iv 0, iv 3, rv b1, iv 0] [(.int c0_), (.int 0), (.ref b1)]
  obtain ⟨_, T5, L5, X5, hQ5, st5⟩ := own_callSt X1 hx hZ hown (ow62 hw) (ow63 hw) (ow20 hw) (ow64 hw) (by decide) (rsb3_0pc0 l Z a0 hw [] b1 cb1 c0_ c1_ c2_ T1.heap n0 Zs1 Vq1 gq1 (S_ad.ext F3.2) (S_hb.ext F3.2) (S_lb.ext F3.2)) rfl (W := 0) (by decide) (by decide) (by decide) (by decide) (pc := 20) (ls := #[rv a, iv 0, iv 3, rv b1, iv 0]) (stk := [(.int c0_), (.int 0), (.ref b1)]) (by rw [hml]; rfl) (argsL := [(.ref b1), (.int 0), (.int c0_)]) (rest := []) (lenOf pd6 rfl) rfl rfl (Nat.le_of_eq rfl) (hb hby d10_20)
  obtain ⟨rfl, Nq5, Kq5, Vq5⟩ := hQ5
  have N5 := Fr.app N1 Nq5
  have Zs5 : n0 ≤ T5.heap.size := Nat.le_trans Zs1 Kq5.1
  have F6 := F2.keep Kq5 (ninS nq1_a nin0)
  have F7 := F3.keep Kq5 (allS gq1 all0)
  have K5 := K1.trans Kq5 (allS (Or.inr sq1) all0)
  refine os st5 ?_
  show OG p e below Φ T5 m 23 #[rv a, iv 0, iv 3, rv b1, iv 0] []
  refine os (fun _ z => XS.iinc X5.here hx rfl (hb hby d10_23) rfl (l' := #[rv a, iv ((0 : Int32) + (1 : Int32)), iv 3, rv b1, iv 0]) rfl z) ?_
  show OG p e below Φ T5 m 26 #[rv a, iv 1, iv 3, rv b1, iv 0] []
  refine os (fun _ z => XS.iinc X5.here hx rfl (hb hby d10_26) rfl (l' := #[rv a, iv 1, iv 3, rv b1, iv ((0 : Int32) + (1 : Int32))]) rfl z) ?_
  show OG p e below Φ T5 m 29 #[rv a, iv 1, iv 3, rv b1, iv 1] []
  refine os (fun _ z => XS.goto X5.here hx rfl (pc0 := 29) (pc' := 8) rfl (hb hby d10_29) (by decide) (by decide) z) ?_
  show OG p e below Φ T5 m 8 #[rv a, iv 1, iv 3, rv b1, iv 1] []
  refine os (fun _ z => XS.iload X5.here hx rfl (hb hby d10_8) rfl z) ?_
  refine os (fun _ z => XS.iloadN X5.here hx rfl (hb hby d10_10) rfl z) ?_
  show OG p e below Φ T5 m 11 #[rv a, iv 1, iv 3, rv b1, iv 1] [(.int 3), (.int 1)]
  refine os (fun _ z => XS.icmpNo X5.here hx rfl (hb hby d10_11) rfl (XT.ii_ge_f (by decide)) z) ?_
  show OG p e below Φ T5 m 14 #[rv a, iv 1, iv 3, rv b1, iv 1] []
  refine os (fun _ z => XS.aloadN X5.here hx rfl (hb hby d10_14) rfl rfl z) ?_
  refine os (fun _ z => XS.iload X5.here hx rfl (hb hby d10_15) rfl z) ?_
  show OG p e below Φ T5 m 17 #[rv a, iv 1, iv 3, rv b1, iv 1] [(.int 1), (.ref b1)]
  refine os (fun _ z => XS.aloadN X5.here hx rfl (hb hby d10_17) rfl rfl z) ?_
  refine os (fun _ z => XS.iloadN X5.here hx rfl (hb hby d10_18) rfl z) ?_
  show OG p e below Φ T5 m 19 #[rv a, iv 1, iv 3, rv b1, iv 1] [(.int 1), (.ref a), (.int 1), (.ref b1)]
  obtain ⟨cl8, Aq8, -, S8, M8, H8, -⟩ := id F6
  have in8 : ¬ ((1 : Int32) < 0 ∨ cl8.slots.size ≤ (1 : Int32).toNatClampNeg) := inb_of S8 ⟨by decide, by decide⟩
  have at8 : cl8.slots[(1 : Int32).toNatClampNeg]? = some (.int c1_) := H8.at in8 rfl
  refine os (fun _ z => X5.caload hx Aq8.1 (oia hZ Aq8.2.1) Aq8.2.2 in8 at8 (g := (mkF m 19 #[rv a, iv 1, iv 3, rv b1, iv 1] [(.int 1), (.ref a), (.int 1), (.ref b1)])) rfl rfl (hb hby d10_19) _ z) ?_
  show OG p e below Φ T5 m 20 #[rv a, iv 1, iv 3, rv b1, iv 1] [(.int c1_), (.int 1), (.ref b1)]
  obtain ⟨_, T9, L9, X9, hQ9, st9⟩ := own_callSt X5 hx hZ hown (ow62 hw) (ow63 hw) (ow20 hw) (ow64 hw) (by decide) (rsb3_0pc1 l Z a0 hw [] b1 cb1 c0_ c1_ c2_ T5.heap n0 Zs5 Vq5 gq1 (S_ad.ext F7.2) (S_hb.ext F7.2) (S_lb.ext F7.2)) rfl (W := 0) (by decide) (by decide) (by decide) (by decide) (pc := 20) (ls := #[rv a, iv 1, iv 3, rv b1, iv 1]) (stk := [(.int c1_), (.int 1), (.ref b1)]) (by rw [hml]; rfl) (argsL := [(.ref b1), (.int 1), (.int c1_)]) (rest := []) (lenOf pd6 rfl) rfl rfl (Nat.le_of_eq rfl) (hb hby d10_20)
  obtain ⟨rfl, Nq9, Kq9, Vq9⟩ := hQ9
  have N9 := Fr.app N5 Nq9
  have Zs9 : n0 ≤ T9.heap.size := Nat.le_trans Zs5 Kq9.1
  have F10 := F6.keep Kq9 (ninS nq1_a nin0)
  have F11 := F7.keep Kq9 (allS gq1 all0)
  have K9 := K5.trans Kq9 (allS (Or.inr sq1) all0)
  refine os st9 ?_
  show OG p e below Φ T9 m 23 #[rv a, iv 1, iv 3, rv b1, iv 1] []
  refine os (fun _ z => XS.iinc X9.here hx rfl (hb hby d10_23) rfl (l' := #[rv a, iv ((1 : Int32) + (1 : Int32)), iv 3, rv b1, iv 1]) rfl z) ?_
  show OG p e below Φ T9 m 26 #[rv a, iv 2, iv 3, rv b1, iv 1] []
  refine os (fun _ z => XS.iinc X9.here hx rfl (hb hby d10_26) rfl (l' := #[rv a, iv 2, iv 3, rv b1, iv ((1 : Int32) + (1 : Int32))]) rfl z) ?_
  show OG p e below Φ T9 m 29 #[rv a, iv 2, iv 3, rv b1, iv 2] []
  refine os (fun _ z => XS.goto X9.here hx rfl (pc0 := 29) (pc' := 8) rfl (hb hby d10_29) (by decide) (by decide) z) ?_
  show OG p e below Φ T9 m 8 #[rv a, iv 2, iv 3, rv b1, iv 2] []
  refine os (fun _ z => XS.iload X9.here hx rfl (hb hby d10_8) rfl z) ?_
  refine os (fun _ z => XS.iloadN X9.here hx rfl (hb hby d10_10) rfl z) ?_
  show OG p e below Φ T9 m 11 #[rv a, iv 2, iv 3, rv b1, iv 2] [(.int 3), (.int 2)]
  refine os (fun _ z => XS.icmpNo X9.here hx rfl (hb hby d10_11) rfl (XT.ii_ge_f (by decide)) z) ?_
  show OG p e below Φ T9 m 14 #[rv a, iv 2, iv 3, rv b1, iv 2] []
  refine os (fun _ z => XS.aloadN X9.here hx rfl (hb hby d10_14) rfl rfl z) ?_
  refine os (fun _ z => XS.iload X9.here hx rfl (hb hby d10_15) rfl z) ?_
  show OG p e below Φ T9 m 17 #[rv a, iv 2, iv 3, rv b1, iv 2] [(.int 2), (.ref b1)]
  refine os (fun _ z => XS.aloadN X9.here hx rfl (hb hby d10_17) rfl rfl z) ?_
  refine os (fun _ z => XS.iloadN X9.here hx rfl (hb hby d10_18) rfl z) ?_
  show OG p e below Φ T9 m 19 #[rv a, iv 2, iv 3, rv b1, iv 2] [(.int 2), (.ref a), (.int 2), (.ref b1)]
  obtain ⟨cl12, Aq12, -, S12, M12, H12, -⟩ := id F10
  have in12 : ¬ ((2 : Int32) < 0 ∨ cl12.slots.size ≤ (2 : Int32).toNatClampNeg) := inb_of S12 ⟨by decide, by decide⟩
  have at12 : cl12.slots[(2 : Int32).toNatClampNeg]? = some (.int c2_) := H12.at in12 rfl
  refine os (fun _ z => X9.caload hx Aq12.1 (oia hZ Aq12.2.1) Aq12.2.2 in12 at12 (g := (mkF m 19 #[rv a, iv 2, iv 3, rv b1, iv 2] [(.int 2), (.ref a), (.int 2), (.ref b1)])) rfl rfl (hb hby d10_19) _ z) ?_
  show OG p e below Φ T9 m 20 #[rv a, iv 2, iv 3, rv b1, iv 2] [(.int c2_), (.int 2), (.ref b1)]
  obtain ⟨_, T13, L13, X13, hQ13, st13⟩ := own_callSt X9 hx hZ hown (ow62 hw) (ow63 hw) (ow20 hw) (ow64 hw) (by decide) (rsb3_0pc2 l Z a0 hw [] b1 cb1 c0_ c1_ c2_ T9.heap n0 Zs9 Vq9 gq1 (S_ad.ext F11.2) (S_hb.ext F11.2) (S_lb.ext F11.2)) rfl (W := 0) (by decide) (by decide) (by decide) (by decide) (pc := 20) (ls := #[rv a, iv 2, iv 3, rv b1, iv 2]) (stk := [(.int c2_), (.int 2), (.ref b1)]) (by rw [hml]; rfl) (argsL := [(.ref b1), (.int 2), (.int c2_)]) (rest := []) (lenOf pd6 rfl) rfl rfl (Nat.le_of_eq rfl) (hb hby d10_20)
  obtain ⟨rfl, Nq13, Kq13, Vq13⟩ := hQ13
  have N13 := Fr.app N9 Nq13
  have Zs13 : n0 ≤ T13.heap.size := Nat.le_trans Zs9 Kq13.1
  have F14 := F10.keep Kq13 (ninS nq1_a nin0)
  have F15 := F11.keep Kq13 (allS gq1 all0)
  have K13 := K9.trans Kq13 (allS (Or.inr sq1) all0)
  refine os st13 ?_
  show OG p e below Φ T13 m 23 #[rv a, iv 2, iv 3, rv b1, iv 2] []
  refine os (fun _ z => XS.iinc X13.here hx rfl (hb hby d10_23) rfl (l' := #[rv a, iv ((2 : Int32) + (1 : Int32)), iv 3, rv b1, iv 2]) rfl z) ?_
  show OG p e below Φ T13 m 26 #[rv a, iv 3, iv 3, rv b1, iv 2] []
  refine os (fun _ z => XS.iinc X13.here hx rfl (hb hby d10_26) rfl (l' := #[rv a, iv 3, iv 3, rv b1, iv ((2 : Int32) + (1 : Int32))]) rfl z) ?_
  show OG p e below Φ T13 m 29 #[rv a, iv 3, iv 3, rv b1, iv 3] []
  refine os (fun _ z => XS.goto X13.here hx rfl (pc0 := 29) (pc' := 8) rfl (hb hby d10_29) (by decide) (by decide) z) ?_
  show OG p e below Φ T13 m 8 #[rv a, iv 3, iv 3, rv b1, iv 3] []
  refine os (fun _ z => XS.iload X13.here hx rfl (hb hby d10_8) rfl z) ?_
  refine os (fun _ z => XS.iloadN X13.here hx rfl (hb hby d10_10) rfl z) ?_
  show OG p e below Φ T13 m 11 #[rv a, iv 3, iv 3, rv b1, iv 3] [(.int 3), (.int 3)]
  refine os (fun _ z => XS.icmpYes X13.here hx rfl (pc0 := 11) (pc' := 32) rfl (hb hby d10_11) rfl (XT.ii_ge_t (by decide)) (by decide) (by decide) z) ?_
  show OG p e below Φ T13 m 32 #[rv a, iv 3, iv 3, rv b1, iv 3] []
  refine os (fun _ z => XS.aloadN X13.here hx rfl (hb hby d10_32) rfl rfl z) ?_
  refine OGo.fin X13 hlk (v := (some (.ref b1))) (fun h => by rw [hret] at h; cases h) (by decide) (by decide) (fun fs hr => X13.areturnOut hx rfl hret rfl (hb hby d10_33) hr) fun U eU hF => hΦ _ _ _ ?_ hF
  rw [eU]
  show Q_rsb3_0tb Z a ca c0_ c1_ c2_ h0 n0 _ _ _
  exact ⟨_, _, rfl, N13, K13, Vq13, sq1⟩

theorem ef_rsb3_0gc (m : MethodId) (x0 : Addr) (x1 : Int32) : entryFrame m #[(.ref x0), (.int x1)] 2 = mkF m 0 #[.val (.ref x0), .val (.int x1)] [] := by first | (simp [entryFrame, mkF, argsToLocals, Value.category]; done) | rfl
def Q_rsb3_0gc (Z : State) (b : Addr) (cb : ClassId) (c0_ : Int32) (c1_ : Int32) (c2_ : Int32) (h0 : Heap) (n0 : Nat) (v : Option Value) (h : Heap) (L : List Loc) : Prop := v = some (.int c0_) ∧ Fr n0 L ∧ h = h0
set_option maxRecDepth 65536 in
set_option maxHeartbeats 40000000 in
theorem rsb3_0gc (l : Launch) (Z : State) (a0 : Array Value) (hw : ∀ d ∈ tables_1, d.before a0 Z = true) (ws : List Jvm.Cond) (b : Addr) (cb : ClassId) (c0_ : Int32) (c1_ : Int32) (c2_ : Int32) (h0 : Heap) (n0 : Nat) (Z0 : n0 ≤ h0.size) (V_b : Arv Z h0 b cb .byte (6 : Int32) [(.int (ohb c0_)), (.int (olb c0_)), (.int (ohb c1_)), (.int (olb c1_)), (.int (ohb c2_)), (.int (olb c2_))] (.int (0 : Int32))) (S_ad : Sta Z h0 "java/lang/StringUTF16" "$assertionsDisabled" "Z" (.int (1 : Int32))) (S_hb : Sta Z h0 "java/lang/StringUTF16" "HI_BYTE_SHIFT" "I" (.int (0 : Int32))) (S_lb : Sta Z h0 "java/lang/StringUTF16" "LO_BYTE_SHIFT" "I" (.int (8 : Int32))) (hr0 : nar .char c0_ = c0_) :
    OCon l Z (⟨"java/lang/StringUTF16", "getChar", "([BI)C"⟩ : MethodName) jdk_52_method_5_code 2 (some .char) ws ({ frames := 0, cells := 0, slots := 0, locals := 0 } : Room) #[(.ref b), (.int (0 : Int32))] h0 (Q_rsb3_0gc Z b cb c0_ c1_ c2_ h0 n0) := by
  refine OCon.of (plainFor_of_name pn1) ?_
  intro p e s m below meth c s₁ Φ X0 hx hby hml hown hnm hret hlk hZ e0 hΦ
  have N0 := Fr.nil n0
  refine os (fun _ z => castTop (ef_rsb3_0gc m b (0 : Int32)) z) ?_
  show OG p e below Φ s₁ m 0 #[rv b, iv 0] []
  obtain ⟨T1, X1, e1, st1⟩ := getS2 X0 hx hZ hown (host := "") (Or.inl (ow65 hw)) Via.refl e0 S_ad (g := (mkF m 0 #[rv b, iv 0] [])) rfl (hb hby d14_0)
  refine os st1 ?_
  show OG p e below Φ T1 m 3 #[rv b, iv 0] [(.int 1)]
  refine os (fun _ z => XS.ifYes X1.here hx rfl (pc0 := 3) (pc' := 28) rfl (hb hby d14_3) rfl (XT.i0_ne_t (by decide)) (by decide) (by decide) z) ?_
  show OG p e below Φ T1 m 28 #[rv b, iv 0] []
  refine os (fun _ z => XS.iloadN X1.here hx rfl (hb hby d14_28) rfl z) ?_
  refine os (fun _ z => XS.iconst X1.here hx rfl (hb hby d14_29) z) ?_
  show OG p e below Φ T1 m 30 #[rv b, iv 0] [(.int 1), (.int 0)]
  refine os (fun _ z => XT.ishl X1.here hx rfl (hb hby d14_30) rfl z) ?_
  show OG p e below Φ T1 m 31 #[rv b, iv 0] [(.int 0)]
  refine os (fun _ z => XS.istoreN X1.here hx rfl (hb hby d14_31) rfl (l' := #[rv b, iv 0]) rfl z) ?_
  show OG p e below Φ T1 m 32 #[rv b, iv 0] []
  refine os (fun _ z => XS.aloadN X1.here hx rfl (hb hby d14_32) rfl rfl z) ?_
  refine os (fun _ z => XS.iloadN X1.here hx rfl (hb hby d14_33) rfl z) ?_
  show OG p e below Φ T1 m 34 #[rv b, iv 0] [(.int 0), (.ref b)]
  refine os (fun _ z => XS.iinc X1.here hx rfl (hb hby d14_34) rfl (l' := #[rv b, iv ((0 : Int32) + (1 : Int32))]) rfl z) ?_
  show OG p e below Φ T1 m 37 #[rv b, iv 1] [(.int 0), (.ref b)]
  obtain ⟨cl2, Aq2, -, S2, M2, H2, -⟩ := id V_b
  have in2 : ¬ ((0 : Int32) < 0 ∨ cl2.slots.size ≤ (0 : Int32).toNatClampNeg) := inb_of S2 ⟨by decide, by decide⟩
  have at2 : cl2.slots[(0 : Int32).toNatClampNeg]? = some (.int (ohb c0_)) := H2.at in2 rfl
  refine os (fun _ z => X1.baloadBytes hx (by rw [e1]; exact Aq2.1) (oia hZ Aq2.2.1) Aq2.2.2 in2 at2 (g := (mkF m 37 #[rv b, iv 1] [(.int 0), (.ref b)])) rfl rfl (hb hby d14_37) _ z) ?_
  show OG p e below Φ T1 m 38 #[rv b, iv 1] [(.int (ohb c0_))]
  refine os (fun _ z => XS.sipush X1.here hx rfl (hb hby d14_38) z) ?_
  refine os (fun _ z => XS.iand X1.here hx rfl (hb hby d14_41) rfl z) ?_
  show OG p e below Φ T1 m 42 #[rv b, iv 1] [(.int ((ohb c0_) &&& (255 : Int32)))]
  obtain ⟨T3, X3, e3, st3⟩ := getS2 X1 hx hZ hown (host := "") (Or.inl (ow66 hw)) Via.refl e1 S_hb (g := (mkF m 42 #[rv b, iv 1] [(.int ((ohb c0_) &&& (255 : Int32)))])) rfl (hb hby d14_42)
  refine os st3 ?_
  show OG p e below Φ T3 m 45 #[rv b, iv 1] [(.int 0), (.int ((ohb c0_) &&& (255 : Int32)))]
  refine os (fun _ z => XT.ishl X3.here hx rfl (hb hby d14_45) rfl z) ?_
  show OG p e below Φ T3 m 46 #[rv b, iv 1] [(.int (((ohb c0_) &&& (255 : Int32)) <<< ((0 : Int32) &&& 31)))]
  refine os (fun _ z => XS.aloadN X3.here hx rfl (hb hby d14_46) rfl rfl z) ?_
  refine os (fun _ z => XS.iloadN X3.here hx rfl (hb hby d14_47) rfl z) ?_
  show OG p e below Φ T3 m 48 #[rv b, iv 1] [(.int 1), (.ref b), (.int (((ohb c0_) &&& (255 : Int32)) <<< ((0 : Int32) &&& 31)))]
  obtain ⟨cl4, Aq4, -, S4, M4, H4, -⟩ := id V_b
  have in4 : ¬ ((1 : Int32) < 0 ∨ cl4.slots.size ≤ (1 : Int32).toNatClampNeg) := inb_of S4 ⟨by decide, by decide⟩
  have at4 : cl4.slots[(1 : Int32).toNatClampNeg]? = some (.int (olb c0_)) := H4.at in4 rfl
  refine os (fun _ z => X3.baloadBytes hx (by rw [e3]; exact Aq4.1) (oia hZ Aq4.2.1) Aq4.2.2 in4 at4 (g := (mkF m 48 #[rv b, iv 1] [(.int 1), (.ref b), (.int (((ohb c0_) &&& (255 : Int32)) <<< ((0 : Int32) &&& 31)))])) rfl rfl (hb hby d14_48) _ z) ?_
  show OG p e below Φ T3 m 49 #[rv b, iv 1] [(.int (olb c0_)), (.int (((ohb c0_) &&& (255 : Int32)) <<< ((0 : Int32) &&& 31)))]
  refine os (fun _ z => XS.sipush X3.here hx rfl (hb hby d14_49) z) ?_
  refine os (fun _ z => XS.iand X3.here hx rfl (hb hby d14_52) rfl z) ?_
  show OG p e below Φ T3 m 53 #[rv b, iv 1] [(.int ((olb c0_) &&& (255 : Int32))), (.int (((ohb c0_) &&& (255 : Int32)) <<< ((0 : Int32) &&& 31)))]
  obtain ⟨T5, X5, e5, st5⟩ := getS2 X3 hx hZ hown (host := "") (Or.inl (ow67 hw)) Via.refl e3 S_lb (g := (mkF m 53 #[rv b, iv 1] [(.int ((olb c0_) &&& (255 : Int32))), (.int (((ohb c0_) &&& (255 : Int32)) <<< ((0 : Int32) &&& 31)))])) rfl (hb hby d14_53)
  refine os st5 ?_
  show OG p e below Φ T5 m 56 #[rv b, iv 1] [(.int 8), (.int ((olb c0_) &&& (255 : Int32))), (.int (((ohb c0_) &&& (255 : Int32)) <<< ((0 : Int32) &&& 31)))]
  refine os (fun _ z => XT.ishl X5.here hx rfl (hb hby d14_56) rfl z) ?_
  show OG p e below Φ T5 m 57 #[rv b, iv 1] [(.int (((olb c0_) &&& (255 : Int32)) <<< ((8 : Int32) &&& 31))), (.int (((ohb c0_) &&& (255 : Int32)) <<< ((0 : Int32) &&& 31)))]
  refine os (fun _ z => XT.ior X5.here hx rfl (hb hby d14_57) rfl z) ?_
  show OG p e below Φ T5 m 58 #[rv b, iv 1] [(.int ((((ohb c0_) &&& (255 : Int32)) <<< ((0 : Int32) &&& 31)) ||| (((olb c0_) &&& (255 : Int32)) <<< ((8 : Int32) &&& 31))))]
  refine os (fun _ z => XT.i2c X5.here hx rfl (hb hby d14_58) rfl z) ?_
  show OG p e below Φ T5 m 59 #[rv b, iv 1] [(.int (((((ohb c0_) &&& (255 : Int32)) <<< ((0 : Int32) &&& 31)) ||| (((olb c0_) &&& (255 : Int32)) <<< ((8 : Int32) &&& 31))).toUInt32.toUInt16.toUInt32.toInt32))]
  refine OGo.fin X5 hlk (v := (some (.int (((((ohb c0_) &&& (255 : Int32)) <<< ((0 : Int32) &&& 31)) ||| (((olb c0_) &&& (255 : Int32)) <<< ((8 : Int32) &&& 31))).toUInt32.toUInt16.toUInt32.toInt32)))) (fun h => by rw [hret] at h; cases h) (by decide) (by decide) (fun fs hr => X5.ireturnOut hx hret (XT.narrow_c _) (by simp) (hb hby d14_59) hr) fun U eU hF => hΦ _ _ _ ?_ hF
  rw [eU, e5]
  show Q_rsb3_0gc Z b cb c0_ c1_ c2_ h0 n0 _ _ _
  exact ⟨congrArg (fun z => some (Value.int z)) (own_gc' _ hr0), N0, rfl⟩

theorem ef_rsb3_0c3 (m : MethodId) (x0 : Addr) (x1 : Int32) (x2 : Int32) : entryFrame m #[(.ref x0), (.int x1), (.int x2)] 6 = mkF m 0 #[.val (.ref x0), .val (.int x1), .val (.int x2), .unset, .unset, .unset] [] := by first | (simp [entryFrame, mkF, argsToLocals, Value.category]; done) | rfl
def Q_rsb3_0c3 (Z : State) (a : Addr) (ca : ClassId) (c0_ : Int32) (c1_ : Int32) (c2_ : Int32) (h0 : Heap) (n0 : Nat) (v : Option Value) (h : Heap) (L : List Loc) : Prop := ∃ b cb, v = some (.ref b) ∧ Fr n0 L ∧ Keep h0 h [] ∧ Arv Z h b cb .byte (6 : Int32) [(.int (ohb c0_)), (.int (olb c0_)), (.int (ohb c1_)), (.int (olb c1_)), (.int (ohb c2_)), (.int (olb c2_))] (.int (0 : Int32)) ∧ h0.size ≤ b
set_option maxRecDepth 65536 in
set_option maxHeartbeats 40000000 in
theorem rsb3_0c3 (l : Launch) (Z : State) (a0 : Array Value) (hw : ∀ d ∈ tables_1, d.before a0 Z = true) (ws : List Jvm.Cond) (a : Addr) (ca : ClassId) (c0_ : Int32) (c1_ : Int32) (c2_ : Int32) (h0 : Heap) (n0 : Nat) (Z0 : n0 ≤ h0.size) (V_a : Arv Z h0 a ca .char (3 : Int32) [(.int c0_), (.int c1_), (.int c2_)] (.int (0 : Int32))) (O_0 : Old Z n0 h0) (S_ad : Sta Z Z.heap "java/lang/StringUTF16" "$assertionsDisabled" "Z" (.int (1 : Int32))) (S_hb : Sta Z Z.heap "java/lang/StringUTF16" "HI_BYTE_SHIFT" "I" (.int (0 : Int32))) (S_lb : Sta Z Z.heap "java/lang/StringUTF16" "LO_BYTE_SHIFT" "I" (.int (8 : Int32))) (hb0 : (255 : Int32) < c0_) (hr0 : nar .char c0_ = c0_) :
    OCon l Z (⟨"java/lang/StringUTF16", "compress", "([CII)[B"⟩ : MethodName) jdk_52_method_16_code 6 (some (.array .byte)) ws ({ frames := 3, cells := 2, slots := 9, locals := 40 } : Room) #[(.ref a), (.int (0 : Int32)), (.int (3 : Int32))] h0 (Q_rsb3_0c3 Z a ca c0_ c1_ c2_ h0 n0) := by
  refine OCon.of (plainFor_of_name pn1) ?_
  intro p e s m below meth c s₁ Φ X0 hx hby hml hown hnm hret hlk hZ e0 hΦ
  have N0 := Fr.nil n0
  refine os (fun _ z => castTop (ef_rsb3_0c3 m a (0 : Int32) (3 : Int32)) z) ?_
  have K0 := Keep.refl h0 []
  show OG p e below Φ s₁ m 0 #[rv a, iv 0, iv 3, .unset, .unset, .unset] []
  refine os (fun _ z => XS.iloadN X0.here hx rfl (hb hby d4_0) rfl z) ?_
  obtain ⟨T1, h1, c1, X1, e1, E1, Ar1, st1⟩ := newP (aty := .byte) X0 hx hZ (ow1 hw) e0 (g := (mkF m 1 #[rv a, iv 0, iv 3, .unset, .unset, .unset] [(.int 3)])) rfl (hb hby d4_1) rfl (by decide) (cap := 3) (by decide) (by decide) (by decide) (by decide)
  obtain ⟨b1, g1⟩ : ∃ z, z = h0.size := ⟨_, rfl⟩
  rw [← g1] at Ar1 st1
  have ne1_a : a ≠ b1 := by rw [g1]; exact Nat.ne_of_lt V_a.lt
  have F2 := V_a.ext E1
  have F3 := O_0.ext E1
  have gb1 : n0 ≤ b1 := Nat.le_trans Z0 (Nat.le_of_eq g1.symm)
  have sz1 : h0.size ≤ b1 := Nat.le_trans K0.1 (Nat.le_of_eq g1.symm)
  have K1 := K0.ext E1
  have Zs1 : n0 ≤ h1.size := Nat.le_trans Z0 E1.1
  have V1 : Arv Z h1 b1 c1 .byte (3 : Int32) [(.int (0 : Int32)), (.int (0 : Int32)), (.int (0 : Int32))] (.int (0 : Int32)) := (Arv.new Ar1 (by decide)).pad (pad_rep [] _ 3)
  refine os st1 ?_
  show OG p e below Φ T1 m 3 #[rv a, iv 0, iv 3, .unset, .unset, .unset] [(.ref b1)]
  refine os (fun _ z => XS.astoreN X1.here hx rfl (hb hby d4_3) rfl rfl (l' := #[rv a, iv 0, iv 3, rv b1, .unset, .unset]) rfl z) ?_
  show OG p e below Φ T1 m 4 #[rv a, iv 0, iv 3, rv b1, .unset, .unset] []
  refine os (fun _ z => XS.aloadN X1.here hx rfl (hb hby d4_4) rfl rfl z) ?_
  refine os (fun _ z => XS.iloadN X1.here hx rfl (hb hby d4_5) rfl z) ?_
  show OG p e below Φ T1 m 6 #[rv a, iv 0, iv 3, rv b1, .unset, .unset] [(.int 0), (.ref a)]
  refine os (fun _ z => XS.aloadN X1.here hx rfl (hb hby d4_6) rfl rfl z) ?_
  refine os (fun _ z => XS.iconst X1.here hx rfl (hb hby d4_7) z) ?_
  show OG p e below Φ T1 m 8 #[rv a, iv 0, iv 3, rv b1, .unset, .unset] [(.int 0), (.ref b1), (.int 0), (.ref a)]
  refine os (fun _ z => XS.iloadN X1.here hx rfl (hb hby d4_8) rfl z) ?_
  obtain ⟨_, T4, L4, X4, hQ4, st4⟩ := own_callSt X1 hx hZ hown (ow22 hw) (ow23 hw) (ow20 hw) (ow24 hw) (by decide) (rsb3_0c2 l Z a0 hw [] a ca b1 c1 c0_ c1_ c2_ h1 n0 Zs1 F2 V1 ne1_a gb1 hb0) e1 (W := 0) (by decide) (by decide) (by decide) (by decide) (pc := 9) (ls := #[rv a, iv 0, iv 3, rv b1, .unset, .unset]) (stk := [(.int 3), (.int 0), (.ref b1), (.int 0), (.ref a)]) (by rw [hml]; rfl) (argsL := [(.ref a), (.int 0), (.ref b1), (.int 0), (.int 3)]) (rest := []) (lenOf pd1 rfl) rfl rfl (Nat.le_of_eq rfl) (hb hby d4_9)
  obtain ⟨rfl, Nq4, Kq4⟩ := hQ4
  have N4 := Fr.app N0 Nq4
  have Zs4 : n0 ≤ T4.heap.size := Nat.le_trans Zs1 Kq4.1
  have F5 := F2.keep Kq4 (ninS ne1_a nin0)
  have F6 := F3.keep Kq4 (allS gb1 all0)
  have K4 := K1.trans Kq4 (allS (Or.inr sz1) all0)
  refine os st4 ?_
  show OG p e below Φ T4 m 12 #[rv a, iv 0, iv 3, rv b1, .unset, .unset] [(.int 0)]
  refine os (fun _ z => XS.istore X4.here hx rfl (hb hby d4_12) rfl (l' := #[rv a, iv 0, iv 3, rv b1, iv 0, .unset]) rfl z) ?_
  show OG p e below Φ T4 m 14 #[rv a, iv 0, iv 3, rv b1, iv 0, .unset] []
  refine os (fun _ z => XS.iload X4.here hx rfl (hb hby d4_14) rfl z) ?_
  refine os (fun _ z => XS.iloadN X4.here hx rfl (hb hby d4_16) rfl z) ?_
  show OG p e below Φ T4 m 17 #[rv a, iv 0, iv 3, rv b1, iv 0, .unset] [(.int 3), (.int 0)]
  refine os (fun _ z => XS.icmpNo X4.here hx rfl (hb hby d4_17) rfl (XT.ii_eq_f (by decide)) z) ?_
  show OG p e below Φ T4 m 20 #[rv a, iv 0, iv 3, rv b1, iv 0, .unset] []
  refine os (fun _ z => XS.aloadN X4.here hx rfl (hb hby d4_20) rfl rfl z) ?_
  refine os (fun _ z => XS.iloadN X4.here hx rfl (hb hby d4_21) rfl z) ?_
  show OG p e below Φ T4 m 22 #[rv a, iv 0, iv 3, rv b1, iv 0, .unset] [(.int 0), (.ref a)]
  refine os (fun _ z => XS.iloadN X4.here hx rfl (hb hby d4_22) rfl z) ?_
  obtain ⟨_, T7, L7, X7, hQ7, st7⟩ := own_callSt X4 hx hZ hown (ow52 hw) (ow53 hw) (ow20 hw) (ow54 hw) (by decide) (rsb3_0tb l Z a0 hw [] a ca c0_ c1_ c2_ T4.heap n0 Zs4 F5 F6 S_ad S_hb S_lb) rfl (W := 0) (by decide) (by decide) (by decide) (by decide) (pc := 23) (ls := #[rv a, iv 0, iv 3, rv b1, iv 0, .unset]) (stk := [(.int 3), (.int 0), (.ref a)]) (by rw [hml]; rfl) (argsL := [(.ref a), (.int 0), (.int 3)]) (rest := []) (lenOf pd2 rfl) rfl rfl (Nat.le_of_eq rfl) (hb hby d4_23)
  obtain ⟨b7, cb7, rfl, Nq7, Kq7, Vq7, hz7⟩ := hQ7
  have nq7_a : a ≠ b7 := Nat.ne_of_lt (Nat.lt_of_lt_of_le F5.lt hz7)
  have gq7 : n0 ≤ b7 := Nat.le_trans Zs4 hz7
  have sq7 : h0.size ≤ b7 := Nat.le_trans K4.1 hz7
  have N7 := Fr.app N4 Nq7
  have Zs7 : n0 ≤ T7.heap.size := Nat.le_trans Zs4 Kq7.1
  have F8 := F5.keep Kq7 nin0
  have F9 := F6.keep Kq7 all0
  have K7 := K4.trans Kq7 all0
  refine os st7 ?_
  show OG p e below Φ T7 m 26 #[rv a, iv 0, iv 3, rv b1, iv 0, .unset] [(.ref b7)]
  refine os (fun _ z => XS.astore X7.here hx rfl (hb hby d4_26) rfl rfl (l' := #[rv a, iv 0, iv 3, rv b1, iv 0, rv b7]) rfl z) ?_
  show OG p e below Φ T7 m 28 #[rv a, iv 0, iv 3, rv b1, iv 0, rv b7] []
  refine os (fun _ z => XS.aload X7.here hx rfl (hb hby d4_28) rfl rfl z) ?_
  refine os (fun _ z => XS.iload X7.here hx rfl (hb hby d4_30) rfl z) ?_
  show OG p e below Φ T7 m 32 #[rv a, iv 0, iv 3, rv b1, iv 0, rv b7] [(.int 0), (.ref b7)]
  obtain ⟨_, T10, L10, X10, hQ10, st10⟩ := own_callSt X7 hx hZ hown (ow68 hw) (ow69 hw) (ow20 hw) (ow70 hw) (by decide) (rsb3_0gc l Z a0 hw [] b7 cb7 c0_ c1_ c2_ T7.heap n0 Zs7 Vq7 (S_ad.ext F9.2) (S_hb.ext F9.2) (S_lb.ext F9.2) hr0) rfl (W := 0) (by decide) (by decide) (by decide) (by decide) (pc := 32) (ls := #[rv a, iv 0, iv 3, rv b1, iv 0, rv b7]) (stk := [(.int 0), (.ref b7)]) (by rw [hml]; rfl) (argsL := [(.ref b7), (.int 0)]) (rest := []) (lenOf pd7 rfl) rfl rfl (Nat.le_of_eq rfl) (hb hby d4_32)
  obtain ⟨rfl, Nq10, e10⟩ := hQ10
  have N10 := Fr.app N7 Nq10
  refine os st10 ?_
  show OG p e below Φ T10 m 35 #[rv a, iv 0, iv 3, rv b1, iv 0, rv b7] [(.int c0_)]
  refine os (fun _ z => XS.sipush X10.here hx rfl (hb hby d4_35) z) ?_
  refine os (fun _ z => XS.icmpYes X10.here hx rfl (pc0 := 38) (pc' := 54) rfl (hb hby d4_38) rfl (XT.ii_gt_t hb0) (by decide) (by decide) z) ?_
  show OG p e below Φ T10 m 54 #[rv a, iv 0, iv 3, rv b1, iv 0, rv b7] []
  refine os (fun _ z => XS.aload X10.here hx rfl (hb hby d4_54) rfl rfl z) ?_
  refine OGo.fin X10 hlk (v := (some (.ref b7))) (fun h => by rw [hret] at h; cases h) (by decide) (by decide) (fun fs hr => X10.areturnOut hx rfl hret rfl (hb hby d4_56) hr) fun U eU hF => hΦ _ _ _ ?_ hF
  rw [eU, e10]
  show Q_rsb3_0c3 Z a ca c0_ c1_ c2_ h0 n0 _ _ _
  exact ⟨_, _, rfl, N10, K7, Vq7, sq7⟩

theorem ef_rsb3_0cf (m : MethodId) (x0 : Addr) (x1 : Int32) : entryFrame m #[(.ref x0), (.int x1)] 2 = mkF m 0 #[.val (.ref x0), .val (.int x1)] [] := by first | (simp [entryFrame, mkF, argsToLocals, Value.category]; done) | rfl
def Q_rsb3_0cf (Z : State) (b : Addr) (cb : ClassId) (c0_ : Int32) (c1_ : Int32) (c2_ : Int32) (h0 : Heap) (n0 : Nat) (v : Option Value) (h : Heap) (L : List Loc) : Prop := v = some (.int (1 : Int32)) ∧ Fr n0 L ∧ h = h0
set_option maxRecDepth 65536 in
set_option maxHeartbeats 40000000 in
theorem rsb3_0cf (l : Launch) (Z : State) (a0 : Array Value) (hw : ∀ d ∈ tables_1, d.before a0 Z = true) (ws : List Jvm.Cond) (b : Addr) (cb : ClassId) (c0_ : Int32) (c1_ : Int32) (c2_ : Int32) (h0 : Heap) (n0 : Nat) (Z0 : n0 ≤ h0.size) (V_b : Arv Z h0 b cb .byte (6 : Int32) [(.int (ohb c0_)), (.int (olb c0_)), (.int (ohb c1_)), (.int (olb c1_)), (.int (ohb c2_)), (.int (olb c2_))] (.int (0 : Int32))) :
    OCon l Z (⟨"java/lang/StringUTF16", "coderFromArrayLen", "([BI)B"⟩ : MethodName) jdk_52_method_15_code 2 (some .byte) ws ({ frames := 0, cells := 0, slots := 0, locals := 0 } : Room) #[(.ref b), (.int (3 : Int32))] h0 (Q_rsb3_0cf Z b cb c0_ c1_ c2_ h0 n0) := by
  refine OCon.of (plainFor_of_name pn1) ?_
  intro p e s m below meth c s₁ Φ X0 hx hby hml hown hnm hret hlk hZ e0 hΦ
  have N0 := Fr.nil n0
  refine os (fun _ z => castTop (ef_rsb3_0cf m b (3 : Int32)) z) ?_
  show OG p e below Φ s₁ m 0 #[rv b, iv 3] []
  refine os (fun _ z => XS.iloadN X0.here hx rfl (hb hby d6_0) rfl z) ?_
  refine os (fun _ z => XS.aloadN X0.here hx rfl (hb hby d6_1) rfl rfl z) ?_
  show OG p e below Φ s₁ m 2 #[rv b, iv 3] [(.ref b), (.int 3)]
  obtain ⟨cl1, Aq1, -, S1, M1, -, -⟩ := id V_b
  refine os (fun _ z => X0.arraylength hx (by rw [e0]; exact Aq1.1) (oia hZ Aq1.2.1) (g := (mkF m 2 #[rv b, iv 3] [(.ref b), (.int 3)])) rfl rfl (hb hby d6_2) _ z) ?_
  rw [len_of S1 M1]
  show OG p e below Φ s₁ m 3 #[rv b, iv 3] [(.int 6), (.int 3)]
  refine os (fun _ z => XS.isub X0.here hx rfl (hb hby d6_3) rfl z) ?_
  show OG p e below Φ s₁ m 4 #[rv b, iv 3] [(.int (-3))]
  refine os (fun _ z => XS.bipush X0.here hx rfl (hb hby d6_4) z) ?_
  refine os (fun _ z => XT.iushr X0.here hx rfl (hb hby d6_6) rfl z) ?_
  show OG p e below Φ s₁ m 7 #[rv b, iv 3] [(.int 1)]
  refine os (fun _ z => XT.i2b X0.here hx rfl (hb hby d6_7) rfl z) ?_
  show OG p e below Φ s₁ m 8 #[rv b, iv 3] [(.int 1)]
  refine OGo.fin X0 hlk (v := (some (.int 1))) (fun h => by rw [hret] at h; cases h) (by decide) (by decide) (fun fs hr => X0.ireturnOut hx hret rfl (by simp) (hb hby d6_8) hr) fun U eU hF => hΦ _ _ _ ?_ hF
  rw [eU, e0]
  show Q_rsb3_0cf Z b cb c0_ c1_ c2_ h0 n0 _ _ _
  exact ⟨rfl, N0, rfl⟩

theorem ef_rsb3_0i4 (m : MethodId) (x0 : Addr) (x1 : Addr) (x2 : Int32) (x3 : Int32) : entryFrame m #[(.ref x0), (.ref x1), (.int x2), (.int x3), .null] 6 = mkF m 0 #[.val (.ref x0), .val (.ref x1), .val (.int x2), .val (.int x3), .val .null, .unset] [] := by first | (simp [entryFrame, mkF, argsToLocals, Value.category]; done) | rfl
def Q_rsb3_0i4 (Z : State) (s_ : Addr) (a : Addr) (ca : ClassId) (qc : Int32) (c0_ : Int32) (c1_ : Int32) (c2_ : Int32) (h0 : Heap) (n0 : Nat) (v : Option Value) (h : Heap) (L : List Loc) : Prop := v = none ∧ Fr n0 L ∧ Keep h0 h [s_] ∧ Exa Z h s_ "java/lang/String" ∧ ∃ b cb, Fld Z h s_ "java/lang/String" "value" "[B" (.ref b) ∧ Fld Z h s_ "java/lang/String" "coder" "B" (.int (1 : Int32)) ∧ Arv Z h b cb .byte (6 : Int32) [(.int (ohb c0_)), (.int (olb c0_)), (.int (ohb c1_)), (.int (olb c1_)), (.int (ohb c2_)), (.int (olb c2_))] (.int (0 : Int32)) ∧ h0.size ≤ b
set_option maxRecDepth 65536 in
set_option maxHeartbeats 40000000 in
theorem rsb3_0i4 (l : Launch) (Z : State) (a0 : Array Value) (hw : ∀ d ∈ tables_1, d.before a0 Z = true) (ws : List Jvm.Cond) (s_ : Addr) (a : Addr) (ca : ClassId) (qc : Int32) (c0_ : Int32) (c1_ : Int32) (c2_ : Int32) (h0 : Heap) (n0 : Nat) (Z0 : n0 ≤ h0.size) (E_s : Exa Z h0 s_ "java/lang/String") (g_s : n0 ≤ s_) (F_v : Fld Z h0 s_ "java/lang/String" "value" "[B" .null) (F_c : Fld Z h0 s_ "java/lang/String" "coder" "B" (.int (0 : Int32))) (V_a : Arv Z h0 a ca .char (3 : Int32) [(.int c0_), (.int c1_), (.int c2_)] (.int (0 : Int32))) (nsa : s_ ≠ a) (S_cs : Sta Z Z.heap "java/lang/String" "COMPACT_STRINGS" "Z" (.int qc)) (hq : ¬ qc = 0) (O_0 : Old Z n0 h0) (S_ad : Sta Z Z.heap "java/lang/StringUTF16" "$assertionsDisabled" "Z" (.int (1 : Int32))) (S_hb : Sta Z Z.heap "java/lang/StringUTF16" "HI_BYTE_SHIFT" "I" (.int (0 : Int32))) (S_lb : Sta Z Z.heap "java/lang/StringUTF16" "LO_BYTE_SHIFT" "I" (.int (8 : Int32))) (hb0 : (255 : Int32) < c0_) (hr0 : nar .char c0_ = c0_) :
    OCon l Z (⟨"java/lang/String", "<init>", "([CIILjava/lang/Void;)V"⟩ : MethodName) jdk_42_method_149_code 6 none ws ({ frames := 4, cells := 2, slots := 9, locals := 57 } : Room) #[(.ref s_), (.ref a), (.int (0 : Int32)), (.int (3 : Int32)), .null] h0 (Q_rsb3_0i4 Z s_ a ca qc c0_ c1_ c2_ h0 n0) := by
  refine OCon.of (plainFor_of_name pn0) ?_
  intro p e s m below meth c s₁ Φ X0 hx hby hml hown hnm hret hlk hZ e0 hΦ
  have N0 := Fr.nil n0
  refine os (fun _ z => castTop (ef_rsb3_0i4 m s_ a (0 : Int32) (3 : Int32)) z) ?_
  have K0 := Keep.refl h0 [s_]
  show OG p e below Φ s₁ m 0 #[rv s_, rv a, iv 0, iv 3, .val .null, .unset] []
  refine os (fun _ z => XS.aloadN X0.here hx rfl (hb hby d2_0) rfl rfl z) ?_
  obtain ⟨T1, X1, e1, st1⟩ := initO X0 hx hZ hown (ow14 hw) (ow15 hw) (ow16 hw) e0 (g := (mkF m 1 #[rv s_, rv a, iv 0, iv 3, .val .null, .unset] [(.ref s_)])) rfl (by rw [hml]; rfl) rfl (hb hby d2_1) (by decide) (W := 0) (Nat.le_of_eq rfl) (by decide)
  refine os st1 ?_
  show OG p e below Φ T1 m 4 #[rv s_, rv a, iv 0, iv 3, .val .null, .unset] []
  refine os (fun _ z => XS.iloadN X1.here hx rfl (hb hby d2_4) rfl z) ?_
  refine os (fun _ z => XS.ifYes X1.here hx rfl (pc0 := 5) (pc' := 27) rfl (hb hby d2_5) rfl (XT.i0_ne_t (by decide)) (by decide) (by decide) z) ?_
  show OG p e below Φ T1 m 27 #[rv s_, rv a, iv 0, iv 3, .val .null, .unset] []
  have Sq := S_cs.ext O_0.2
  obtain ⟨T2, X2, e2, st2⟩ := getS2 X1 hx hZ hown (host := "") (Or.inl (ow17 hw)) Via.refl e1 Sq (g := (mkF m 27 #[rv s_, rv a, iv 0, iv 3, .val .null, .unset] [])) rfl (hb hby d2_27)
  refine os st2 ?_
  show OG p e below Φ T2 m 30 #[rv s_, rv a, iv 0, iv 3, .val .null, .unset] [(.int qc)]
  refine os (fun _ z => XS.ifNo X2.here hx rfl (hb hby d2_30) rfl (XT.i0_eq_f hq) z) ?_
  show OG p e below Φ T2 m 33 #[rv s_, rv a, iv 0, iv 3, .val .null, .unset] []
  refine os (fun _ z => XS.aloadN X2.here hx rfl (hb hby d2_33) rfl rfl z) ?_
  refine os (fun _ z => XS.iloadN X2.here hx rfl (hb hby d2_34) rfl z) ?_
  show OG p e below Φ T2 m 35 #[rv s_, rv a, iv 0, iv 3, .val .null, .unset] [(.int 0), (.ref a)]
  refine os (fun _ z => XS.iloadN X2.here hx rfl (hb hby d2_35) rfl z) ?_
  obtain ⟨_, T3, L3, X3, hQ3, st3⟩ := own_callSt X2 hx hZ hown (ow18 hw) (ow19 hw) (ow20 hw) (ow21 hw) (by decide) (rsb3_0c3 l Z a0 hw [] a ca c0_ c1_ c2_ h0 n0 Z0 V_a O_0 S_ad S_hb S_lb hb0 hr0) e2 (W := 0) (by decide) (by decide) (by decide) (by decide) (pc := 36) (ls := #[rv s_, rv a, iv 0, iv 3, .val .null, .unset]) (stk := [(.int 3), (.int 0), (.ref a)]) (by rw [hml]; rfl) (argsL := [(.ref a), (.int 0), (.int 3)]) (rest := []) (lenOf pd2 rfl) rfl rfl (Nat.le_of_eq rfl) (hb hby d2_36)
  obtain ⟨b3, cb3, rfl, Nq3, Kq3, Vq3, hz3⟩ := hQ3
  have nq3_a : a ≠ b3 := Nat.ne_of_lt (Nat.lt_of_lt_of_le V_a.lt hz3)
  have nq3_s_ : s_ ≠ b3 := Nat.ne_of_lt (Nat.lt_of_lt_of_le E_s.lt hz3)
  have gq3 : n0 ≤ b3 := Nat.le_trans Z0 hz3
  have sq3 : h0.size ≤ b3 := Nat.le_trans K0.1 hz3
  have N3 := Fr.app N0 Nq3
  have Zs3 : n0 ≤ T3.heap.size := Nat.le_trans Z0 Kq3.1
  have F4 := E_s.keep Kq3
  have F5 := F_v.keep Kq3 nin0
  have F6 := F_c.keep Kq3 nin0
  have F7 := V_a.keep Kq3 nin0
  have F8 := O_0.keep Kq3 all0
  have K3 := K0.trans Kq3 all0
  refine os st3 ?_
  show OG p e below Φ T3 m 39 #[rv s_, rv a, iv 0, iv 3, .val .null, .unset] [(.ref b3)]
  refine os (fun _ z => XS.astore X3.here hx rfl (hb hby d2_39) rfl rfl (l' := #[rv s_, rv a, iv 0, iv 3, .val .null, rv b3]) rfl z) ?_
  show OG p e below Φ T3 m 41 #[rv s_, rv a, iv 0, iv 3, .val .null, rv b3] []
  refine os (fun _ z => XS.aloadN X3.here hx rfl (hb hby d2_41) rfl rfl z) ?_
  refine os (fun _ z => XS.aload X3.here hx rfl (hb hby d2_42) rfl rfl z) ?_
  show OG p e below Φ T3 m 44 #[rv s_, rv a, iv 0, iv 3, .val .null, rv b3] [(.ref b3), (.ref s_)]
  refine os (fun _ z => XS.iloadN X3.here hx rfl (hb hby d2_44) rfl z) ?_
  obtain ⟨_, T9, L9, X9, hQ9, st9⟩ := own_callSt X3 hx hZ hown (ow25 hw) (ow26 hw) (ow20 hw) (ow27 hw) (by decide) (rsb3_0cf l Z a0 hw [] b3 cb3 c0_ c1_ c2_ T3.heap n0 Zs3 Vq3) rfl (W := 1) (by decide) (by decide) (by decide) (by decide) (pc := 45) (ls := #[rv s_, rv a, iv 0, iv 3, .val .null, rv b3]) (stk := [(.int 3), (.ref b3), (.ref s_)]) (by rw [hml]; rfl) (argsL := [(.ref b3), (.int 3)]) (rest := [(.ref s_)]) (lenOf pd3 rfl) rfl rfl (Nat.le_of_eq rfl) (hb hby d2_45)
  obtain ⟨rfl, Nq9, e9⟩ := hQ9
  have N9 := Fr.app N3 Nq9
  refine os st9 ?_
  show OG p e below Φ T9 m 48 #[rv s_, rv a, iv 0, iv 3, .val .null, rv b3] [(.int 1), (.ref s_)]
  obtain ⟨T10, h10, X10, e10, W10, st10⟩ := putF X9 hx hZ hown (host := "") (Or.inl (ow28 hw)) Via.refl e9 F6 F4 (Or.inr ⟨(ow29 hw), rfl, hnm⟩) (ow5 hw) (ty := .byte) (by decide) (by decide) (by decide) (g := (mkF m 48 #[rv s_, rv a, iv 0, iv 3, .val .null, rv b3] [(.int 1), (.ref s_)])) rfl rfl (hb hby d2_48)
  have F11 := F4.wr W10
  have F12 := F5.other W10 (Or.inr (slot_ne (Or.inr (ow31 hw)) (Or.inr (ow29 hw)) (by decide) (t := (.array .byte)) (t' := .byte) (by decide) (by decide)))
  have F13 := F6.same W10
  have F14 := F7.other W10 (Ne.symm nsa)
  have F15 := F8.wr W10 g_s
  have F16 := Vq3.other W10 (Ne.symm nq3_s_)
  have K10 := K3.wr W10 (Or.inl (List.mem_of_getElem? (i := 0) rfl))
  have N10 := Fr.snoc X10 N9 g_s
  have Zs10 : n0 ≤ h10.size := by rw [W10.size]; exact Zs3
  refine os st10 ?_
  show OG p e below Φ T10 m 51 #[rv s_, rv a, iv 0, iv 3, .val .null, rv b3] []
  refine os (fun _ z => XS.aloadN X10.here hx rfl (hb hby d2_51) rfl rfl z) ?_
  refine os (fun _ z => XS.aload X10.here hx rfl (hb hby d2_52) rfl rfl z) ?_
  show OG p e below Φ T10 m 54 #[rv s_, rv a, iv 0, iv 3, .val .null, rv b3] [(.ref b3), (.ref s_)]
  obtain ⟨T17, h17, X17, e17, W17, st17⟩ := putF X10 hx hZ hown (host := "") (Or.inl (ow30 hw)) Via.refl e10 F12 F11 (Or.inr ⟨(ow31 hw), rfl, hnm⟩) (ow5 hw) (ty := (.array .byte)) (by decide) rfl rfl (g := (mkF m 54 #[rv s_, rv a, iv 0, iv 3, .val .null, rv b3] [(.ref b3), (.ref s_)])) rfl rfl (hb hby d2_54)
  have F18 := F11.wr W17
  have F19 := F12.same W17
  have F20 := F13.other W17 (Or.inr (slot_ne (Or.inr (ow29 hw)) (Or.inr (ow31 hw)) (by decide) (t := .byte) (t' := (.array .byte)) (by decide) (by decide)))
  have F21 := F14.other W17 (Ne.symm nsa)
  have F22 := F15.wr W17 g_s
  have F23 := F16.other W17 (Ne.symm nq3_s_)
  have K17 := K10.wr W17 (Or.inl (List.mem_of_getElem? (i := 0) rfl))
  have N17 := Fr.snoc X17 N10 g_s
  have Zs17 : n0 ≤ h17.size := by rw [W17.size]; exact Zs10
  refine os st17 ?_
  show OG p e below Φ T17 m 57 #[rv s_, rv a, iv 0, iv 3, .val .null, rv b3] []
  refine OGo.fin X17 hlk (v := none) (fun _ => rfl) (by decide) (by decide) (fun fs hr => X17.returnOut hx hret (hb hby d2_57) hr) fun U eU hF => hΦ _ _ _ ?_ hF
  rw [eU, e17]
  show Q_rsb3_0i4 Z s_ a ca qc c0_ c1_ c2_ h0 n0 _ _ _
  exact ⟨rfl, N17, K17, F18, _, _, F19, F20, F23, sq3⟩

theorem ef_rsb3_0i1 (m : MethodId) (x0 : Addr) (x1 : Addr) : entryFrame m #[(.ref x0), (.ref x1)] 2 = mkF m 0 #[.val (.ref x0), .val (.ref x1)] [] := by first | (simp [entryFrame, mkF, argsToLocals, Value.category]; done) | rfl
def Q_rsb3_0i1 (Z : State) (s_ : Addr) (a : Addr) (ca : ClassId) (qc : Int32) (c0_ : Int32) (c1_ : Int32) (c2_ : Int32) (h0 : Heap) (n0 : Nat) (v : Option Value) (h : Heap) (L : List Loc) : Prop := v = none ∧ Fr n0 L ∧ Keep h0 h [s_] ∧ Exa Z h s_ "java/lang/String" ∧ ∃ b cb, Fld Z h s_ "java/lang/String" "value" "[B" (.ref b) ∧ Fld Z h s_ "java/lang/String" "coder" "B" (.int (1 : Int32)) ∧ Arv Z h b cb .byte (6 : Int32) [(.int (ohb c0_)), (.int (olb c0_)), (.int (ohb c1_)), (.int (olb c1_)), (.int (ohb c2_)), (.int (olb c2_))] (.int (0 : Int32)) ∧ h0.size ≤ b
set_option maxRecDepth 65536 in
set_option maxHeartbeats 40000000 in
theorem rsb3_0i1 (l : Launch) (Z : State) (a0 : Array Value) (hw : ∀ d ∈ tables_1, d.before a0 Z = true) (ws : List Jvm.Cond) (s_ : Addr) (a : Addr) (ca : ClassId) (qc : Int32) (c0_ : Int32) (c1_ : Int32) (c2_ : Int32) (h0 : Heap) (n0 : Nat) (Z0 : n0 ≤ h0.size) (E_s : Exa Z h0 s_ "java/lang/String") (g_s : n0 ≤ s_) (F_v : Fld Z h0 s_ "java/lang/String" "value" "[B" .null) (F_c : Fld Z h0 s_ "java/lang/String" "coder" "B" (.int (0 : Int32))) (V_a : Arv Z h0 a ca .char (3 : Int32) [(.int c0_), (.int c1_), (.int c2_)] (.int (0 : Int32))) (nsa : s_ ≠ a) (S_cs : Sta Z Z.heap "java/lang/String" "COMPACT_STRINGS" "Z" (.int qc)) (hq : ¬ qc = 0) (O_0 : Old Z n0 h0) (S_ad : Sta Z Z.heap "java/lang/StringUTF16" "$assertionsDisabled" "Z" (.int (1 : Int32))) (S_hb : Sta Z Z.heap "java/lang/StringUTF16" "HI_BYTE_SHIFT" "I" (.int (0 : Int32))) (S_lb : Sta Z Z.heap "java/lang/StringUTF16" "LO_BYTE_SHIFT" "I" (.int (8 : Int32))) (hb0 : (255 : Int32) < c0_) (hr0 : nar .char c0_ = c0_) :
    OCon l Z (⟨"java/lang/String", "<init>", "([C)V"⟩ : MethodName) jdk_42_method_3_code 2 none ws ({ frames := 5, cells := 2, slots := 9, locals := 74 } : Room) #[(.ref s_), (.ref a)] h0 (Q_rsb3_0i1 Z s_ a ca qc c0_ c1_ c2_ h0 n0) := by
  refine OCon.of (plainFor_of_name pn0) ?_
  intro p e s m below meth c s₁ Φ X0 hx hby hml hown hnm hret hlk hZ e0 hΦ
  have N0 := Fr.nil n0
  refine os (fun _ z => castTop (ef_rsb3_0i1 m s_ a) z) ?_
  have K0 := Keep.refl h0 [s_]
  show OG p e below Φ s₁ m 0 #[rv s_, rv a] []
  refine os (fun _ z => XS.aloadN X0.here hx rfl (hb hby d1_0) rfl rfl z) ?_
  refine os (fun _ z => XS.aloadN X0.here hx rfl (hb hby d1_1) rfl rfl z) ?_
  show OG p e below Φ s₁ m 2 #[rv s_, rv a] [(.ref a), (.ref s_)]
  refine os (fun _ z => XS.iconst X0.here hx rfl (hb hby d1_2) z) ?_
  refine os (fun _ z => XS.aloadN X0.here hx rfl (hb hby d1_3) rfl rfl z) ?_
  show OG p e below Φ s₁ m 4 #[rv s_, rv a] [(.ref a), (.int 0), (.ref a), (.ref s_)]
  obtain ⟨cl1, Aq1, -, S1, M1, -, -⟩ := id V_a
  refine os (fun _ z => X0.arraylength hx (by rw [e0]; exact Aq1.1) (oia hZ Aq1.2.1) (g := (mkF m 4 #[rv s_, rv a] [(.ref a), (.int 0), (.ref a), (.ref s_)])) rfl rfl (hb hby d1_4) _ z) ?_
  rw [len_of S1 M1]
  show OG p e below Φ s₁ m 5 #[rv s_, rv a] [(.int 3), (.int 0), (.ref a), (.ref s_)]
  refine os (fun _ z => XS.aconstNull X0.here hx rfl (hb hby d1_5) z) ?_
  obtain ⟨_, T2, L2, X2, hQ2, st2⟩ := own_callSp X0 hx hZ rfl hown (ow10 hw) (ow11 hw) (ow6 hw) (ow13 hw) (by decide) (rsb3_0i4 l Z a0 hw [] s_ a ca qc c0_ c1_ c2_ h0 n0 Z0 E_s g_s F_v F_c V_a nsa S_cs hq O_0 S_ad S_hb S_lb hb0 hr0) e0 (W := 0) (by decide) (by decide) (by decide) (by decide) (pc := 6) (ls := #[rv s_, rv a]) (stk := [.null, (.int 3), (.int 0), (.ref a), (.ref s_)]) (by rw [hml]; rfl) (a := s_) (argsL := [(.ref a), (.int 0), (.int 3), .null]) (rest := []) (lenOf pd0 rfl) rfl rfl (Nat.le_of_eq rfl) (hb hby d1_6)
  obtain ⟨rfl, Nq2, Kq2, Eq2, b2, cb2, Fv2, Fc2, Vq2, hz2⟩ := hQ2
  have nq2_a : a ≠ b2 := Nat.ne_of_lt (Nat.lt_of_lt_of_le V_a.lt hz2)
  have nq2_s_ : s_ ≠ b2 := Nat.ne_of_lt (Nat.lt_of_lt_of_le E_s.lt hz2)
  have gq2 : n0 ≤ b2 := Nat.le_trans Z0 hz2
  have sq2 : h0.size ≤ b2 := Nat.le_trans K0.1 hz2
  have N2 := Fr.app N0 Nq2
  have Zs2 : n0 ≤ T2.heap.size := Nat.le_trans Z0 Kq2.1
  have F3 := V_a.keep Kq2 (ninS (Ne.symm nsa) nin0)
  have F4 := O_0.keep Kq2 (allS g_s all0)
  have K2 := K0.trans Kq2 (allS (Or.inl (List.mem_of_getElem? (i := 0) rfl)) all0)
  refine os st2 ?_
  show OG p e below Φ T2 m 9 #[rv s_, rv a] []
  refine OGo.fin X2 hlk (v := none) (fun _ => rfl) (by decide) (by decide) (fun fs hr => X2.returnOut hx hret (hb hby d1_9) hr) fun U eU hF => hΦ _ _ _ ?_ hF
  rw [eU]
  show Q_rsb3_0i1 Z s_ a ca qc c0_ c1_ c2_ h0 n0 _ _ _
  exact ⟨rfl, N2, K2, Eq2, _, _, Fv2, Fc2, Vq2, sq2⟩

theorem ef_rsb3_1c2 (m : MethodId) (x0 : Addr) (x1 : Int32) (x2 : Addr) (x3 : Int32) (x4 : Int32) : entryFrame m #[(.ref x0), (.int x1), (.ref x2), (.int x3), (.int x4)] 7 = mkF m 0 #[.val (.ref x0), .val (.int x1), .val (.ref x2), .val (.int x3), .val (.int x4), .unset, .unset] [] := by first | (simp [entryFrame, mkF, argsToLocals, Value.category]; done) | rfl
def Q_rsb3_1c2 (Z : State) (a : Addr) (ca : ClassId) (b : Addr) (cb : ClassId) (c0_ : Int32) (c1_ : Int32) (c2_ : Int32) (h0 : Heap) (n0 : Nat) (v : Option Value) (h : Heap) (L : List Loc) : Prop := v = some (.int (1 : Int32)) ∧ Fr n0 L ∧ Keep h0 h [b]
set_option maxRecDepth 65536 in
set_option maxHeartbeats 40000000 in
theorem rsb3_1c2 (l : Launch) (Z : State) (a0 : Array Value) (hw : ∀ d ∈ tables_1, d.before a0 Z = true) (ws : List Jvm.Cond) (a : Addr) (ca : ClassId) (b : Addr) (cb : ClassId) (c0_ : Int32) (c1_ : Int32) (c2_ : Int32) (h0 : Heap) (n0 : Nat) (Z0 : n0 ≤ h0.size) (V_a : Arv Z h0 a ca .char (3 : Int32) [(.int c0_), (.int c1_), (.int c2_)] (.int (0 : Int32))) (V_b : Arv Z h0 b cb .byte (3 : Int32) [(.int (0 : Int32)), (.int (0 : Int32)), (.int (0 : Int32))] (.int (0 : Int32))) (nab : a ≠ b) (g_b : n0 ≤ b) (hl0 : ¬ (255 : Int32) < c0_) (hb1 : (255 : Int32) < c1_) :
    OCon l Z (⟨"java/lang/StringUTF16", "compress", "([CI[BII)I"⟩ : MethodName) jdk_52_method_21_code 7 (some .int) ws ({ frames := 0, cells := 0, slots := 0, locals := 0 } : Room) #[(.ref a), (.int (0 : Int32)), (.ref b), (.int (0 : Int32)), (.int (3 : Int32))] h0 (Q_rsb3_1c2 Z a ca b cb c0_ c1_ c2_ h0 n0) := by
  refine OCon.of (plainFor_of_name pn1) ?_
  intro p e s m below meth c s₁ Φ X0 hx hby hml hown hnm hret hlk hZ e0 hΦ
  have N0 := Fr.nil n0
  refine os (fun _ z => castTop (ef_rsb3_1c2 m a (0 : Int32) b (0 : Int32) (3 : Int32)) z) ?_
  have K0 := Keep.refl h0 [b]
  show OG p e below Φ s₁ m 0 #[rv a, iv 0, rv b, iv 0, iv 3, .unset, .unset] []
  refine os (fun _ z => XS.iconst X0.here hx rfl (hb hby d5_0) z) ?_
  refine os (fun _ z => XS.istore X0.here hx rfl (hb hby d5_1) rfl (l' := #[rv a, iv 0, rv b, iv 0, iv 3, iv 0, .unset]) rfl z) ?_
  show OG p e below Φ s₁ m 3 #[rv a, iv 0, rv b, iv 0, iv 3, iv 0, .unset] []
  refine os (fun _ z => XS.iload X0.here hx rfl (hb hby d5_3) rfl z) ?_
  refine os (fun _ z => XS.iload X0.here hx rfl (hb hby d5_5) rfl z) ?_
  show OG p e below Φ s₁ m 7 #[rv a, iv 0, rv b, iv 0, iv 3, iv 0, .unset] [(.int 3), (.int 0)]
  refine os (fun _ z => XS.icmpNo X0.here hx rfl (hb hby d5_7) rfl (XT.ii_ge_f (by decide)) z) ?_
  show OG p e below Φ s₁ m 10 #[rv a, iv 0, rv b, iv 0, iv 3, iv 0, .unset] []
  refine os (fun _ z => XS.aloadN X0.here hx rfl (hb hby d5_10) rfl rfl z) ?_
  refine os (fun _ z => XS.iloadN X0.here hx rfl (hb hby d5_11) rfl z) ?_
  show OG p e below Φ s₁ m 12 #[rv a, iv 0, rv b, iv 0, iv 3, iv 0, .unset] [(.int 0), (.ref a)]
  obtain ⟨cl1, Aq1, -, S1, M1, H1, -⟩ := id V_a
  have in1 : ¬ ((0 : Int32) < 0 ∨ cl1.slots.size ≤ (0 : Int32).toNatClampNeg) := inb_of S1 ⟨by decide, by decide⟩
  have at1 : cl1.slots[(0 : Int32).toNatClampNeg]? = some (.int c0_) := H1.at in1 rfl
  refine os (fun _ z => X0.caload hx (by rw [e0]; exact Aq1.1) (oia hZ Aq1.2.1) Aq1.2.2 in1 at1 (g := (mkF m 12 #[rv a, iv 0, rv b, iv 0, iv 3, iv 0, .unset] [(.int 0), (.ref a)])) rfl rfl (hb hby d5_12) _ z) ?_
  show OG p e below Φ s₁ m 13 #[rv a, iv 0, rv b, iv 0, iv 3, iv 0, .unset] [(.int c0_)]
  refine os (fun _ z => XS.istore X0.here hx rfl (hb hby d5_13) rfl (l' := #[rv a, iv 0, rv b, iv 0, iv 3, iv 0, iv c0_]) rfl z) ?_
  show OG p e below Φ s₁ m 15 #[rv a, iv 0, rv b, iv 0, iv 3, iv 0, iv c0_] []
  refine os (fun _ z => XS.iload X0.here hx rfl (hb hby d5_15) rfl z) ?_
  refine os (fun _ z => XS.sipush X0.here hx rfl (hb hby d5_17) z) ?_
  show OG p e below Φ s₁ m 20 #[rv a, iv 0, rv b, iv 0, iv 3, iv 0, iv c0_] [(.int 255), (.int c0_)]
  refine os (fun _ z => XS.icmpYes X0.here hx rfl (pc0 := 20) (pc' := 26) rfl (hb hby d5_20) rfl (XT.ii_le_t hl0) (by decide) (by decide) z) ?_
  show OG p e below Φ s₁ m 26 #[rv a, iv 0, rv b, iv 0, iv 3, iv 0, iv c0_] []
  refine os (fun _ z => XS.aloadN X0.here hx rfl (hb hby d5_26) rfl rfl z) ?_
  refine os (fun _ z => XS.iloadN X0.here hx rfl (hb hby d5_27) rfl z) ?_
  show OG p e below Φ s₁ m 28 #[rv a, iv 0, rv b, iv 0, iv 3, iv 0, iv c0_] [(.int 0), (.ref b)]
  refine os (fun _ z => XS.iload X0.here hx rfl (hb hby d5_28) rfl z) ?_
  refine os (fun _ z => XT.i2b X0.here hx rfl (hb hby d5_30) rfl z) ?_
  show OG p e below Φ s₁ m 31 #[rv a, iv 0, rv b, iv 0, iv 3, iv 0, iv c0_] [(.int (c0_.toInt8.toInt32)), (.int 0), (.ref b)]
  obtain ⟨cl2, Aq2, Cq2, S2, M2, H2, G2⟩ := id V_b
  have in2 : ¬ ((0 : Int32) < 0 ∨ cl2.slots.size ≤ (0 : Int32).toNatClampNeg) := inb_of S2 ⟨by decide, by decide⟩
  obtain ⟨T2, h2, X2, e2, W2, st2⟩ := stB X0 hx hZ e0 Aq2 in2 (g := (mkF m 31 #[rv a, iv 0, rv b, iv 0, iv 3, iv 0, iv c0_] [(.int (c0_.toInt8.toInt32)), (.int 0), (.ref b)])) rfl rfl (hb hby d5_31)
  have W2 : Wr h0 h2 b (0 : Int32).toNatClampNeg (.int (nar .byte (c0_.toInt8.toInt32))) := W2
  have F3 := V_a.other W2 nab
  have V2 : Arv Z h2 b cb .byte (3 : Int32) [(.int (nar .byte (c0_.toInt8.toInt32))), (.int (0 : Int32)), (.int (0 : Int32))] (.int (0 : Int32)) := Arv.set Aq2 Cq2 S2 M2 H2 G2 (fits_nar_byte _) W2 0 (by decide) (by show 0 < 3; decide)
  have K2 := K0.wr W2 (Or.inl (List.mem_of_getElem? (i := 0) rfl))
  have N2 := Fr.snoc X2 N0 g_b
  have Zs2 : n0 ≤ h2.size := by rw [W2.size]; exact Z0
  refine os st2 ?_
  show OG p e below Φ T2 m 32 #[rv a, iv 0, rv b, iv 0, iv 3, iv 0, iv c0_] []
  refine os (fun _ z => XS.iinc X2.here hx rfl (hb hby d5_32) rfl (l' := #[rv a, iv ((0 : Int32) + (1 : Int32)), rv b, iv 0, iv 3, iv 0, iv c0_]) rfl z) ?_
  show OG p e below Φ T2 m 35 #[rv a, iv 1, rv b, iv 0, iv 3, iv 0, iv c0_] []
  refine os (fun _ z => XS.iinc X2.here hx rfl (hb hby d5_35) rfl (l' := #[rv a, iv 1, rv b, iv ((0 : Int32) + (1 : Int32)), iv 3, iv 0, iv c0_]) rfl z) ?_
  show OG p e below Φ T2 m 38 #[rv a, iv 1, rv b, iv 1, iv 3, iv 0, iv c0_] []
  refine os (fun _ z => XS.iinc X2.here hx rfl (hb hby d5_38) rfl (l' := #[rv a, iv 1, rv b, iv 1, iv 3, iv ((0 : Int32) + (1 : Int32)), iv c0_]) rfl z) ?_
  show OG p e below Φ T2 m 41 #[rv a, iv 1, rv b, iv 1, iv 3, iv 1, iv c0_] []
  refine os (fun _ z => XS.goto X2.here hx rfl (pc0 := 41) (pc' := 3) rfl (hb hby d5_41) (by decide) (by decide) z) ?_
  show OG p e below Φ T2 m 3 #[rv a, iv 1, rv b, iv 1, iv 3, iv 1, iv c0_] []
  refine os (fun _ z => XS.iload X2.here hx rfl (hb hby d5_3) rfl z) ?_
  refine os (fun _ z => XS.iload X2.here hx rfl (hb hby d5_5) rfl z) ?_
  show OG p e below Φ T2 m 7 #[rv a, iv 1, rv b, iv 1, iv 3, iv 1, iv c0_] [(.int 3), (.int 1)]
  refine os (fun _ z => XS.icmpNo X2.here hx rfl (hb hby d5_7) rfl (XT.ii_ge_f (by decide)) z) ?_
  show OG p e below Φ T2 m 10 #[rv a, iv 1, rv b, iv 1, iv 3, iv 1, iv c0_] []
  refine os (fun _ z => XS.aloadN X2.here hx rfl (hb hby d5_10) rfl rfl z) ?_
  refine os (fun _ z => XS.iloadN X2.here hx rfl (hb hby d5_11) rfl z) ?_
  show OG p e below Φ T2 m 12 #[rv a, iv 1, rv b, iv 1, iv 3, iv 1, iv c0_] [(.int 1), (.ref a)]
  obtain ⟨cl4, Aq4, -, S4, M4, H4, -⟩ := id F3
  have in4 : ¬ ((1 : Int32) < 0 ∨ cl4.slots.size ≤ (1 : Int32).toNatClampNeg) := inb_of S4 ⟨by decide, by decide⟩
  have at4 : cl4.slots[(1 : Int32).toNatClampNeg]? = some (.int c1_) := H4.at in4 rfl
  refine os (fun _ z => X2.caload hx (by rw [e2]; exact Aq4.1) (oia hZ Aq4.2.1) Aq4.2.2 in4 at4 (g := (mkF m 12 #[rv a, iv 1, rv b, iv 1, iv 3, iv 1, iv c0_] [(.int 1), (.ref a)])) rfl rfl (hb hby d5_12) _ z) ?_
  show OG p e below Φ T2 m 13 #[rv a, iv 1, rv b, iv 1, iv 3, iv 1, iv c0_] [(.int c1_)]
  refine os (fun _ z => XS.istore X2.here hx rfl (hb hby d5_13) rfl (l' := #[rv a, iv 1, rv b, iv 1, iv 3, iv 1, iv c1_]) rfl z) ?_
  show OG p e below Φ T2 m 15 #[rv a, iv 1, rv b, iv 1, iv 3, iv 1, iv c1_] []
  refine os (fun _ z => XS.iload X2.here hx rfl (hb hby d5_15) rfl z) ?_
  refine os (fun _ z => XS.sipush X2.here hx rfl (hb hby d5_17) z) ?_
  show OG p e below Φ T2 m 20 #[rv a, iv 1, rv b, iv 1, iv 3, iv 1, iv c1_] [(.int 255), (.int c1_)]
  refine os (fun _ z => XS.icmpNo X2.here hx rfl (hb hby d5_20) rfl (XT.ii_le_f hb1) z) ?_
  show OG p e below Φ T2 m 23 #[rv a, iv 1, rv b, iv 1, iv 3, iv 1, iv c1_] []
  refine os (fun _ z => XS.iload X2.here hx rfl (hb hby d5_23) rfl z) ?_
  refine OGo.fin X2 hlk (v := (some (.int 1))) (fun h => by rw [hret] at h; cases h) (by decide) (by decide) (fun fs hr => X2.ireturnOut hx hret rfl (by simp) (hb hby d5_25) hr) fun U eU hF => hΦ _ _ _ ?_ hF
  rw [eU, e2]
  show Q_rsb3_1c2 Z a ca b cb c0_ c1_ c2_ h0 n0 _ _ _
  exact ⟨rfl, N2, K2⟩

theorem ef_rsb3_1gc (m : MethodId) (x0 : Addr) (x1 : Int32) : entryFrame m #[(.ref x0), (.int x1)] 2 = mkF m 0 #[.val (.ref x0), .val (.int x1)] [] := by first | (simp [entryFrame, mkF, argsToLocals, Value.category]; done) | rfl
def Q_rsb3_1gc (Z : State) (b : Addr) (cb : ClassId) (c0_ : Int32) (c1_ : Int32) (c2_ : Int32) (h0 : Heap) (n0 : Nat) (v : Option Value) (h : Heap) (L : List Loc) : Prop := v = some (.int c1_) ∧ Fr n0 L ∧ h = h0
set_option maxRecDepth 65536 in
set_option maxHeartbeats 40000000 in
theorem rsb3_1gc (l : Launch) (Z : State) (a0 : Array Value) (hw : ∀ d ∈ tables_1, d.before a0 Z = true) (ws : List Jvm.Cond) (b : Addr) (cb : ClassId) (c0_ : Int32) (c1_ : Int32) (c2_ : Int32) (h0 : Heap) (n0 : Nat) (Z0 : n0 ≤ h0.size) (V_b : Arv Z h0 b cb .byte (6 : Int32) [(.int (ohb c0_)), (.int (olb c0_)), (.int (ohb c1_)), (.int (olb c1_)), (.int (ohb c2_)), (.int (olb c2_))] (.int (0 : Int32))) (S_ad : Sta Z h0 "java/lang/StringUTF16" "$assertionsDisabled" "Z" (.int (1 : Int32))) (S_hb : Sta Z h0 "java/lang/StringUTF16" "HI_BYTE_SHIFT" "I" (.int (0 : Int32))) (S_lb : Sta Z h0 "java/lang/StringUTF16" "LO_BYTE_SHIFT" "I" (.int (8 : Int32))) (hr1 : nar .char c1_ = c1_) :
    OCon l Z (⟨"java/lang/StringUTF16", "getChar", "([BI)C"⟩ : MethodName) jdk_52_method_5_code 2 (some .char) ws ({ frames := 0, cells := 0, slots := 0, locals := 0 } : Room) #[(.ref b), (.int (1 : Int32))] h0 (Q_rsb3_1gc Z b cb c0_ c1_ c2_ h0 n0) := by
  refine OCon.of (plainFor_of_name pn1) ?_
  intro p e s m below meth c s₁ Φ X0 hx hby hml hown hnm hret hlk hZ e0 hΦ
  have N0 := Fr.nil n0
  refine os (fun _ z => castTop (ef_rsb3_1gc m b (1 : Int32)) z) ?_
  show OG p e below Φ s₁ m 0 #[rv b, iv 1] []
  obtain ⟨T1, X1, e1, st1⟩ := getS2 X0 hx hZ hown (host := "") (Or.inl (ow65 hw)) Via.refl e0 S_ad (g := (mkF m 0 #[rv b, iv 1] [])) rfl (hb hby d14_0)
  refine os st1 ?_
  show OG p e below Φ T1 m 3 #[rv b, iv 1] [(.int 1)]
  refine os (fun _ z => XS.ifYes X1.here hx rfl (pc0 := 3) (pc' := 28) rfl (hb hby d14_3) rfl (XT.i0_ne_t (by decide)) (by decide) (by decide) z) ?_
  show OG p e below Φ T1 m 28 #[rv b, iv 1] []
  refine os (fun _ z => XS.iloadN X1.here hx rfl (hb hby d14_28) rfl z) ?_
  refine os (fun _ z => XS.iconst X1.here hx rfl (hb hby d14_29) z) ?_
  show OG p e below Φ T1 m 30 #[rv b, iv 1] [(.int 1), (.int 1)]
  refine os (fun _ z => XT.ishl X1.here hx rfl (hb hby d14_30) rfl z) ?_
  show OG p e below Φ T1 m 31 #[rv b, iv 1] [(.int 2)]
  refine os (fun _ z => XS.istoreN X1.here hx rfl (hb hby d14_31) rfl (l' := #[rv b, iv 2]) rfl z) ?_
  show OG p e below Φ T1 m 32 #[rv b, iv 2] []
  refine os (fun _ z => XS.aloadN X1.here hx rfl (hb hby d14_32) rfl rfl z) ?_
  refine os (fun _ z => XS.iloadN X1.here hx rfl (hb hby d14_33) rfl z) ?_
  show OG p e below Φ T1 m 34 #[rv b, iv 2] [(.int 2), (.ref b)]
  refine os (fun _ z => XS.iinc X1.here hx rfl (hb hby d14_34) rfl (l' := #[rv b, iv ((2 : Int32) + (1 : Int32))]) rfl z) ?_
  show OG p e below Φ T1 m 37 #[rv b, iv 3] [(.int 2), (.ref b)]
  obtain ⟨cl2, Aq2, -, S2, M2, H2, -⟩ := id V_b
  have in2 : ¬ ((2 : Int32) < 0 ∨ cl2.slots.size ≤ (2 : Int32).toNatClampNeg) := inb_of S2 ⟨by decide, by decide⟩
  have at2 : cl2.slots[(2 : Int32).toNatClampNeg]? = some (.int (ohb c1_)) := H2.at in2 rfl
  refine os (fun _ z => X1.baloadBytes hx (by rw [e1]; exact Aq2.1) (oia hZ Aq2.2.1) Aq2.2.2 in2 at2 (g := (mkF m 37 #[rv b, iv 3] [(.int 2), (.ref b)])) rfl rfl (hb hby d14_37) _ z) ?_
  show OG p e below Φ T1 m 38 #[rv b, iv 3] [(.int (ohb c1_))]
  refine os (fun _ z => XS.sipush X1.here hx rfl (hb hby d14_38) z) ?_
  refine os (fun _ z => XS.iand X1.here hx rfl (hb hby d14_41) rfl z) ?_
  show OG p e below Φ T1 m 42 #[rv b, iv 3] [(.int ((ohb c1_) &&& (255 : Int32)))]
  obtain ⟨T3, X3, e3, st3⟩ := getS2 X1 hx hZ hown (host := "") (Or.inl (ow66 hw)) Via.refl e1 S_hb (g := (mkF m 42 #[rv b, iv 3] [(.int ((ohb c1_) &&& (255 : Int32)))])) rfl (hb hby d14_42)
  refine os st3 ?_
  show OG p e below Φ T3 m 45 #[rv b, iv 3] [(.int 0), (.int ((ohb c1_) &&& (255 : Int32)))]
  refine os (fun _ z => XT.ishl X3.here hx rfl (hb hby d14_45) rfl z) ?_
  show OG p e below Φ T3 m 46 #[rv b, iv 3] [(.int (((ohb c1_) &&& (255 : Int32)) <<< ((0 : Int32) &&& 31)))]
  refine os (fun _ z => XS.aloadN X3.here hx rfl (hb hby d14_46) rfl rfl z) ?_
  refine os (fun _ z => XS.iloadN X3.here hx rfl (hb hby d14_47) rfl z) ?_
  show OG p e below Φ T3 m 48 #[rv b, iv 3] [(.int 3), (.ref b), (.int (((ohb c1_) &&& (255 : Int32)) <<< ((0 : Int32) &&& 31)))]
  obtain ⟨cl4, Aq4, -, S4, M4, H4, -⟩ := id V_b
  have in4 : ¬ ((3 : Int32) < 0 ∨ cl4.slots.size ≤ (3 : Int32).toNatClampNeg) := inb_of S4 ⟨by decide, by decide⟩
  have at4 : cl4.slots[(3 : Int32).toNatClampNeg]? = some (.int (olb c1_)) := H4.at in4 rfl
  refine os (fun _ z => X3.baloadBytes hx (by rw [e3]; exact Aq4.1) (oia hZ Aq4.2.1) Aq4.2.2 in4 at4 (g := (mkF m 48 #[rv b, iv 3] [(.int 3), (.ref b), (.int (((ohb c1_) &&& (255 : Int32)) <<< ((0 : Int32) &&& 31)))])) rfl rfl (hb hby d14_48) _ z) ?_
  show OG p e below Φ T3 m 49 #[rv b, iv 3] [(.int (olb c1_)), (.int (((ohb c1_) &&& (255 : Int32)) <<< ((0 : Int32) &&& 31)))]
  refine os (fun _ z => XS.sipush X3.here hx rfl (hb hby d14_49) z) ?_
  refine os (fun _ z => XS.iand X3.here hx rfl (hb hby d14_52) rfl z) ?_
  show OG p e below Φ T3 m 53 #[rv b, iv 3] [(.int ((olb c1_) &&& (255 : Int32))), (.int (((ohb c1_) &&& (255 : Int32)) <<< ((0 : Int32) &&& 31)))]
  obtain ⟨T5, X5, e5, st5⟩ := getS2 X3 hx hZ hown (host := "") (Or.inl (ow67 hw)) Via.refl e3 S_lb (g := (mkF m 53 #[rv b, iv 3] [(.int ((olb c1_) &&& (255 : Int32))), (.int (((ohb c1_) &&& (255 : Int32)) <<< ((0 : Int32) &&& 31)))])) rfl (hb hby d14_53)
  refine os st5 ?_
  show OG p e below Φ T5 m 56 #[rv b, iv 3] [(.int 8), (.int ((olb c1_) &&& (255 : Int32))), (.int (((ohb c1_) &&& (255 : Int32)) <<< ((0 : Int32) &&& 31)))]
  refine os (fun _ z => XT.ishl X5.here hx rfl (hb hby d14_56) rfl z) ?_
  show OG p e below Φ T5 m 57 #[rv b, iv 3] [(.int (((olb c1_) &&& (255 : Int32)) <<< ((8 : Int32) &&& 31))), (.int (((ohb c1_) &&& (255 : Int32)) <<< ((0 : Int32) &&& 31)))]
  refine os (fun _ z => XT.ior X5.here hx rfl (hb hby d14_57) rfl z) ?_
  show OG p e below Φ T5 m 58 #[rv b, iv 3] [(.int ((((ohb c1_) &&& (255 : Int32)) <<< ((0 : Int32) &&& 31)) ||| (((olb c1_) &&& (255 : Int32)) <<< ((8 : Int32) &&& 31))))]
  refine os (fun _ z => XT.i2c X5.here hx rfl (hb hby d14_58) rfl z) ?_
  show OG p e below Φ T5 m 59 #[rv b, iv 3] [(.int (((((ohb c1_) &&& (255 : Int32)) <<< ((0 : Int32) &&& 31)) ||| (((olb c1_) &&& (255 : Int32)) <<< ((8 : Int32) &&& 31))).toUInt32.toUInt16.toUInt32.toInt32))]
  refine OGo.fin X5 hlk (v := (some (.int (((((ohb c1_) &&& (255 : Int32)) <<< ((0 : Int32) &&& 31)) ||| (((olb c1_) &&& (255 : Int32)) <<< ((8 : Int32) &&& 31))).toUInt32.toUInt16.toUInt32.toInt32)))) (fun h => by rw [hret] at h; cases h) (by decide) (by decide) (fun fs hr => X5.ireturnOut hx hret (XT.narrow_c _) (by simp) (hb hby d14_59) hr) fun U eU hF => hΦ _ _ _ ?_ hF
  rw [eU, e5]
  show Q_rsb3_1gc Z b cb c0_ c1_ c2_ h0 n0 _ _ _
  exact ⟨congrArg (fun z => some (Value.int z)) (own_gc' _ hr1), N0, rfl⟩

theorem ef_rsb3_1c3 (m : MethodId) (x0 : Addr) (x1 : Int32) (x2 : Int32) : entryFrame m #[(.ref x0), (.int x1), (.int x2)] 6 = mkF m 0 #[.val (.ref x0), .val (.int x1), .val (.int x2), .unset, .unset, .unset] [] := by first | (simp [entryFrame, mkF, argsToLocals, Value.category]; done) | rfl
def Q_rsb3_1c3 (Z : State) (a : Addr) (ca : ClassId) (c0_ : Int32) (c1_ : Int32) (c2_ : Int32) (h0 : Heap) (n0 : Nat) (v : Option Value) (h : Heap) (L : List Loc) : Prop := ∃ b cb, v = some (.ref b) ∧ Fr n0 L ∧ Keep h0 h [] ∧ Arv Z h b cb .byte (6 : Int32) [(.int (ohb c0_)), (.int (olb c0_)), (.int (ohb c1_)), (.int (olb c1_)), (.int (ohb c2_)), (.int (olb c2_))] (.int (0 : Int32)) ∧ h0.size ≤ b
set_option maxRecDepth 65536 in
set_option maxHeartbeats 40000000 in
theorem rsb3_1c3 (l : Launch) (Z : State) (a0 : Array Value) (hw : ∀ d ∈ tables_1, d.before a0 Z = true) (ws : List Jvm.Cond) (a : Addr) (ca : ClassId) (c0_ : Int32) (c1_ : Int32) (c2_ : Int32) (h0 : Heap) (n0 : Nat) (Z0 : n0 ≤ h0.size) (V_a : Arv Z h0 a ca .char (3 : Int32) [(.int c0_), (.int c1_), (.int c2_)] (.int (0 : Int32))) (O_0 : Old Z n0 h0) (S_ad : Sta Z Z.heap "java/lang/StringUTF16" "$assertionsDisabled" "Z" (.int (1 : Int32))) (S_hb : Sta Z Z.heap "java/lang/StringUTF16" "HI_BYTE_SHIFT" "I" (.int (0 : Int32))) (S_lb : Sta Z Z.heap "java/lang/StringUTF16" "LO_BYTE_SHIFT" "I" (.int (8 : Int32))) (hl0 : ¬ (255 : Int32) < c0_) (hb1 : (255 : Int32) < c1_) (hr1 : nar .char c1_ = c1_) :
    OCon l Z (⟨"java/lang/StringUTF16", "compress", "([CII)[B"⟩ : MethodName) jdk_52_method_16_code 6 (some (.array .byte)) ws ({ frames := 3, cells := 2, slots := 9, locals := 40 } : Room) #[(.ref a), (.int (0 : Int32)), (.int (3 : Int32))] h0 (Q_rsb3_1c3 Z a ca c0_ c1_ c2_ h0 n0) := by
  refine OCon.of (plainFor_of_name pn1) ?_
  intro p e s m below meth c s₁ Φ X0 hx hby hml hown hnm hret hlk hZ e0 hΦ
  have N0 := Fr.nil n0
  refine os (fun _ z => castTop (ef_rsb3_1c3 m a (0 : Int32) (3 : Int32)) z) ?_
  have K0 := Keep.refl h0 []
  show OG p e below Φ s₁ m 0 #[rv a, iv 0, iv 3, .unset, .unset, .unset] []
  refine os (fun _ z => XS.iloadN X0.here hx rfl (hb hby d4_0) rfl z) ?_
  obtain ⟨T1, h1, c1, X1, e1, E1, Ar1, st1⟩ := newP (aty := .byte) X0 hx hZ (ow1 hw) e0 (g := (mkF m 1 #[rv a, iv 0, iv 3, .unset, .unset, .unset] [(.int 3)])) rfl (hb hby d4_1) rfl (by decide) (cap := 3) (by decide) (by decide) (by decide) (by decide)
  obtain ⟨b1, g1⟩ : ∃ z, z = h0.size := ⟨_, rfl⟩
  rw [← g1] at Ar1 st1
  have ne1_a : a ≠ b1 := by rw [g1]; exact Nat.ne_of_lt V_a.lt
  have F2 := V_a.ext E1
  have F3 := O_0.ext E1
  have gb1 : n0 ≤ b1 := Nat.le_trans Z0 (Nat.le_of_eq g1.symm)
  have sz1 : h0.size ≤ b1 := Nat.le_trans K0.1 (Nat.le_of_eq g1.symm)
  have K1 := K0.ext E1
  have Zs1 : n0 ≤ h1.size := Nat.le_trans Z0 E1.1
  have V1 : Arv Z h1 b1 c1 .byte (3 : Int32) [(.int (0 : Int32)), (.int (0 : Int32)), (.int (0 : Int32))] (.int (0 : Int32)) := (Arv.new Ar1 (by decide)).pad (pad_rep [] _ 3)
  refine os st1 ?_
  show OG p e below Φ T1 m 3 #[rv a, iv 0, iv 3, .unset, .unset, .unset] [(.ref b1)]
  refine os (fun _ z => XS.astoreN X1.here hx rfl (hb hby d4_3) rfl rfl (l' := #[rv a, iv 0, iv 3, rv b1, .unset, .unset]) rfl z) ?_
  show OG p e below Φ T1 m 4 #[rv a, iv 0, iv 3, rv b1, .unset, .unset] []
  refine os (fun _ z => XS.aloadN X1.here hx rfl (hb hby d4_4) rfl rfl z) ?_
  refine os (fun _ z => XS.iloadN X1.here hx rfl (hb hby d4_5) rfl z) ?_
  show OG p e below Φ T1 m 6 #[rv a, iv 0, iv 3, rv b1, .unset, .unset] [(.int 0), (.ref a)]
  refine os (fun _ z => XS.aloadN X1.here hx rfl (hb hby d4_6) rfl rfl z) ?_
  refine os (fun _ z => XS.iconst X1.here hx rfl (hb hby d4_7) z) ?_
  show OG p e below Φ T1 m 8 #[rv a, iv 0, iv 3, rv b1, .unset, .unset] [(.int 0), (.ref b1), (.int 0), (.ref a)]
  refine os (fun _ z => XS.iloadN X1.here hx rfl (hb hby d4_8) rfl z) ?_
  obtain ⟨_, T4, L4, X4, hQ4, st4⟩ := own_callSt X1 hx hZ hown (ow22 hw) (ow23 hw) (ow20 hw) (ow24 hw) (by decide) (rsb3_1c2 l Z a0 hw [] a ca b1 c1 c0_ c1_ c2_ h1 n0 Zs1 F2 V1 ne1_a gb1 hl0 hb1) e1 (W := 0) (by decide) (by decide) (by decide) (by decide) (pc := 9) (ls := #[rv a, iv 0, iv 3, rv b1, .unset, .unset]) (stk := [(.int 3), (.int 0), (.ref b1), (.int 0), (.ref a)]) (by rw [hml]; rfl) (argsL := [(.ref a), (.int 0), (.ref b1), (.int 0), (.int 3)]) (rest := []) (lenOf pd1 rfl) rfl rfl (Nat.le_of_eq rfl) (hb hby d4_9)
  obtain ⟨rfl, Nq4, Kq4⟩ := hQ4
  have N4 := Fr.app N0 Nq4
  have Zs4 : n0 ≤ T4.heap.size := Nat.le_trans Zs1 Kq4.1
  have F5 := F2.keep Kq4 (ninS ne1_a nin0)
  have F6 := F3.keep Kq4 (allS gb1 all0)
  have K4 := K1.trans Kq4 (allS (Or.inr sz1) all0)
  refine os st4 ?_
  show OG p e below Φ T4 m 12 #[rv a, iv 0, iv 3, rv b1, .unset, .unset] [(.int 1)]
  refine os (fun _ z => XS.istore X4.here hx rfl (hb hby d4_12) rfl (l' := #[rv a, iv 0, iv 3, rv b1, iv 1, .unset]) rfl z) ?_
  show OG p e below Φ T4 m 14 #[rv a, iv 0, iv 3, rv b1, iv 1, .unset] []
  refine os (fun _ z => XS.iload X4.here hx rfl (hb hby d4_14) rfl z) ?_
  refine os (fun _ z => XS.iloadN X4.here hx rfl (hb hby d4_16) rfl z) ?_
  show OG p e below Φ T4 m 17 #[rv a, iv 0, iv 3, rv b1, iv 1, .unset] [(.int 3), (.int 1)]
  refine os (fun _ z => XS.icmpNo X4.here hx rfl (hb hby d4_17) rfl (XT.ii_eq_f (by decide)) z) ?_
  show OG p e below Φ T4 m 20 #[rv a, iv 0, iv 3, rv b1, iv 1, .unset] []
  refine os (fun _ z => XS.aloadN X4.here hx rfl (hb hby d4_20) rfl rfl z) ?_
  refine os (fun _ z => XS.iloadN X4.here hx rfl (hb hby d4_21) rfl z) ?_
  show OG p e below Φ T4 m 22 #[rv a, iv 0, iv 3, rv b1, iv 1, .unset] [(.int 0), (.ref a)]
  refine os (fun _ z => XS.iloadN X4.here hx rfl (hb hby d4_22) rfl z) ?_
  obtain ⟨_, T7, L7, X7, hQ7, st7⟩ := own_callSt X4 hx hZ hown (ow52 hw) (ow53 hw) (ow20 hw) (ow54 hw) (by decide) (rsb3_0tb l Z a0 hw [] a ca c0_ c1_ c2_ T4.heap n0 Zs4 F5 F6 S_ad S_hb S_lb) rfl (W := 0) (by decide) (by decide) (by decide) (by decide) (pc := 23) (ls := #[rv a, iv 0, iv 3, rv b1, iv 1, .unset]) (stk := [(.int 3), (.int 0), (.ref a)]) (by rw [hml]; rfl) (argsL := [(.ref a), (.int 0), (.int 3)]) (rest := []) (lenOf pd2 rfl) rfl rfl (Nat.le_of_eq rfl) (hb hby d4_23)
  obtain ⟨b7, cb7, rfl, Nq7, Kq7, Vq7, hz7⟩ := hQ7
  have nq7_a : a ≠ b7 := Nat.ne_of_lt (Nat.lt_of_lt_of_le F5.lt hz7)
  have gq7 : n0 ≤ b7 := Nat.le_trans Zs4 hz7
  have sq7 : h0.size ≤ b7 := Nat.le_trans K4.1 hz7
  have N7 := Fr.app N4 Nq7
  have Zs7 : n0 ≤ T7.heap.size := Nat.le_trans Zs4 Kq7.1
  have F8 := F5.keep Kq7 nin0
  have F9 := F6.keep Kq7 all0
  have K7 := K4.trans Kq7 all0
  refine os st7 ?_
  show OG p e below Φ T7 m 26 #[rv a, iv 0, iv 3, rv b1, iv 1, .unset] [(.ref b7)]
  refine os (fun _ z => XS.astore X7.here hx rfl (hb hby d4_26) rfl rfl (l' := #[rv a, iv 0, iv 3, rv b1, iv 1, rv b7]) rfl z) ?_
  show OG p e below Φ T7 m 28 #[rv a, iv 0, iv 3, rv b1, iv 1, rv b7] []
  refine os (fun _ z => XS.aload X7.here hx rfl (hb hby d4_28) rfl rfl z) ?_
  refine os (fun _ z => XS.iload X7.here hx rfl (hb hby d4_30) rfl z) ?_
  show OG p e below Φ T7 m 32 #[rv a, iv 0, iv 3, rv b1, iv 1, rv b7] [(.int 1), (.ref b7)]
  obtain ⟨_, T10, L10, X10, hQ10, st10⟩ := own_callSt X7 hx hZ hown (ow68 hw) (ow69 hw) (ow20 hw) (ow70 hw) (by decide) (rsb3_1gc l Z a0 hw [] b7 cb7 c0_ c1_ c2_ T7.heap n0 Zs7 Vq7 (S_ad.ext F9.2) (S_hb.ext F9.2) (S_lb.ext F9.2) hr1) rfl (W := 0) (by decide) (by decide) (by decide) (by decide) (pc := 32) (ls := #[rv a, iv 0, iv 3, rv b1, iv 1, rv b7]) (stk := [(.int 1), (.ref b7)]) (by rw [hml]; rfl) (argsL := [(.ref b7), (.int 1)]) (rest := []) (lenOf pd7 rfl) rfl rfl (Nat.le_of_eq rfl) (hb hby d4_32)
  obtain ⟨rfl, Nq10, e10⟩ := hQ10
  have N10 := Fr.app N7 Nq10
  refine os st10 ?_
  show OG p e below Φ T10 m 35 #[rv a, iv 0, iv 3, rv b1, iv 1, rv b7] [(.int c1_)]
  refine os (fun _ z => XS.sipush X10.here hx rfl (hb hby d4_35) z) ?_
  refine os (fun _ z => XS.icmpYes X10.here hx rfl (pc0 := 38) (pc' := 54) rfl (hb hby d4_38) rfl (XT.ii_gt_t hb1) (by decide) (by decide) z) ?_
  show OG p e below Φ T10 m 54 #[rv a, iv 0, iv 3, rv b1, iv 1, rv b7] []
  refine os (fun _ z => XS.aload X10.here hx rfl (hb hby d4_54) rfl rfl z) ?_
  refine OGo.fin X10 hlk (v := (some (.ref b7))) (fun h => by rw [hret] at h; cases h) (by decide) (by decide) (fun fs hr => X10.areturnOut hx rfl hret rfl (hb hby d4_56) hr) fun U eU hF => hΦ _ _ _ ?_ hF
  rw [eU, e10]
  show Q_rsb3_1c3 Z a ca c0_ c1_ c2_ h0 n0 _ _ _
  exact ⟨_, _, rfl, N10, K7, Vq7, sq7⟩

theorem ef_rsb3_1i4 (m : MethodId) (x0 : Addr) (x1 : Addr) (x2 : Int32) (x3 : Int32) : entryFrame m #[(.ref x0), (.ref x1), (.int x2), (.int x3), .null] 6 = mkF m 0 #[.val (.ref x0), .val (.ref x1), .val (.int x2), .val (.int x3), .val .null, .unset] [] := by first | (simp [entryFrame, mkF, argsToLocals, Value.category]; done) | rfl
def Q_rsb3_1i4 (Z : State) (s_ : Addr) (a : Addr) (ca : ClassId) (qc : Int32) (c0_ : Int32) (c1_ : Int32) (c2_ : Int32) (h0 : Heap) (n0 : Nat) (v : Option Value) (h : Heap) (L : List Loc) : Prop := v = none ∧ Fr n0 L ∧ Keep h0 h [s_] ∧ Exa Z h s_ "java/lang/String" ∧ ∃ b cb, Fld Z h s_ "java/lang/String" "value" "[B" (.ref b) ∧ Fld Z h s_ "java/lang/String" "coder" "B" (.int (1 : Int32)) ∧ Arv Z h b cb .byte (6 : Int32) [(.int (ohb c0_)), (.int (olb c0_)), (.int (ohb c1_)), (.int (olb c1_)), (.int (ohb c2_)), (.int (olb c2_))] (.int (0 : Int32)) ∧ h0.size ≤ b
set_option maxRecDepth 65536 in
set_option maxHeartbeats 40000000 in
theorem rsb3_1i4 (l : Launch) (Z : State) (a0 : Array Value) (hw : ∀ d ∈ tables_1, d.before a0 Z = true) (ws : List Jvm.Cond) (s_ : Addr) (a : Addr) (ca : ClassId) (qc : Int32) (c0_ : Int32) (c1_ : Int32) (c2_ : Int32) (h0 : Heap) (n0 : Nat) (Z0 : n0 ≤ h0.size) (E_s : Exa Z h0 s_ "java/lang/String") (g_s : n0 ≤ s_) (F_v : Fld Z h0 s_ "java/lang/String" "value" "[B" .null) (F_c : Fld Z h0 s_ "java/lang/String" "coder" "B" (.int (0 : Int32))) (V_a : Arv Z h0 a ca .char (3 : Int32) [(.int c0_), (.int c1_), (.int c2_)] (.int (0 : Int32))) (nsa : s_ ≠ a) (S_cs : Sta Z Z.heap "java/lang/String" "COMPACT_STRINGS" "Z" (.int qc)) (hq : ¬ qc = 0) (O_0 : Old Z n0 h0) (S_ad : Sta Z Z.heap "java/lang/StringUTF16" "$assertionsDisabled" "Z" (.int (1 : Int32))) (S_hb : Sta Z Z.heap "java/lang/StringUTF16" "HI_BYTE_SHIFT" "I" (.int (0 : Int32))) (S_lb : Sta Z Z.heap "java/lang/StringUTF16" "LO_BYTE_SHIFT" "I" (.int (8 : Int32))) (hl0 : ¬ (255 : Int32) < c0_) (hb1 : (255 : Int32) < c1_) (hr1 : nar .char c1_ = c1_) :
    OCon l Z (⟨"java/lang/String", "<init>", "([CIILjava/lang/Void;)V"⟩ : MethodName) jdk_42_method_149_code 6 none ws ({ frames := 4, cells := 2, slots := 9, locals := 57 } : Room) #[(.ref s_), (.ref a), (.int (0 : Int32)), (.int (3 : Int32)), .null] h0 (Q_rsb3_1i4 Z s_ a ca qc c0_ c1_ c2_ h0 n0) := by
  refine OCon.of (plainFor_of_name pn0) ?_
  intro p e s m below meth c s₁ Φ X0 hx hby hml hown hnm hret hlk hZ e0 hΦ
  have N0 := Fr.nil n0
  refine os (fun _ z => castTop (ef_rsb3_1i4 m s_ a (0 : Int32) (3 : Int32)) z) ?_
  have K0 := Keep.refl h0 [s_]
  show OG p e below Φ s₁ m 0 #[rv s_, rv a, iv 0, iv 3, .val .null, .unset] []
  refine os (fun _ z => XS.aloadN X0.here hx rfl (hb hby d2_0) rfl rfl z) ?_
  obtain ⟨T1, X1, e1, st1⟩ := initO X0 hx hZ hown (ow14 hw) (ow15 hw) (ow16 hw) e0 (g := (mkF m 1 #[rv s_, rv a, iv 0, iv 3, .val .null, .unset] [(.ref s_)])) rfl (by rw [hml]; rfl) rfl (hb hby d2_1) (by decide) (W := 0) (Nat.le_of_eq rfl) (by decide)
  refine os st1 ?_
  show OG p e below Φ T1 m 4 #[rv s_, rv a, iv 0, iv 3, .val .null, .unset] []
  refine os (fun _ z => XS.iloadN X1.here hx rfl (hb hby d2_4) rfl z) ?_
  refine os (fun _ z => XS.ifYes X1.here hx rfl (pc0 := 5) (pc' := 27) rfl (hb hby d2_5) rfl (XT.i0_ne_t (by decide)) (by decide) (by decide) z) ?_
  show OG p e below Φ T1 m 27 #[rv s_, rv a, iv 0, iv 3, .val .null, .unset] []
  have Sq := S_cs.ext O_0.2
  obtain ⟨T2, X2, e2, st2⟩ := getS2 X1 hx hZ hown (host := "") (Or.inl (ow17 hw)) Via.refl e1 Sq (g := (mkF m 27 #[rv s_, rv a, iv 0, iv 3, .val .null, .unset] [])) rfl (hb hby d2_27)
  refine os st2 ?_
  show OG p e below Φ T2 m 30 #[rv s_, rv a, iv 0, iv 3, .val .null, .unset] [(.int qc)]
  refine os (fun _ z => XS.ifNo X2.here hx rfl (hb hby d2_30) rfl (XT.i0_eq_f hq) z) ?_
  show OG p e below Φ T2 m 33 #[rv s_, rv a, iv 0, iv 3, .val .null, .unset] []
  refine os (fun _ z => XS.aloadN X2.here hx rfl (hb hby d2_33) rfl rfl z) ?_
  refine os (fun _ z => XS.iloadN X2.here hx rfl (hb hby d2_34) rfl z) ?_
  show OG p e below Φ T2 m 35 #[rv s_, rv a, iv 0, iv 3, .val .null, .unset] [(.int 0), (.ref a)]
  refine os (fun _ z => XS.iloadN X2.here hx rfl (hb hby d2_35) rfl z) ?_
  obtain ⟨_, T3, L3, X3, hQ3, st3⟩ := own_callSt X2 hx hZ hown (ow18 hw) (ow19 hw) (ow20 hw) (ow21 hw) (by decide) (rsb3_1c3 l Z a0 hw [] a ca c0_ c1_ c2_ h0 n0 Z0 V_a O_0 S_ad S_hb S_lb hl0 hb1 hr1) e2 (W := 0) (by decide) (by decide) (by decide) (by decide) (pc := 36) (ls := #[rv s_, rv a, iv 0, iv 3, .val .null, .unset]) (stk := [(.int 3), (.int 0), (.ref a)]) (by rw [hml]; rfl) (argsL := [(.ref a), (.int 0), (.int 3)]) (rest := []) (lenOf pd2 rfl) rfl rfl (Nat.le_of_eq rfl) (hb hby d2_36)
  obtain ⟨b3, cb3, rfl, Nq3, Kq3, Vq3, hz3⟩ := hQ3
  have nq3_a : a ≠ b3 := Nat.ne_of_lt (Nat.lt_of_lt_of_le V_a.lt hz3)
  have nq3_s_ : s_ ≠ b3 := Nat.ne_of_lt (Nat.lt_of_lt_of_le E_s.lt hz3)
  have gq3 : n0 ≤ b3 := Nat.le_trans Z0 hz3
  have sq3 : h0.size ≤ b3 := Nat.le_trans K0.1 hz3
  have N3 := Fr.app N0 Nq3
  have Zs3 : n0 ≤ T3.heap.size := Nat.le_trans Z0 Kq3.1
  have F4 := E_s.keep Kq3
  have F5 := F_v.keep Kq3 nin0
  have F6 := F_c.keep Kq3 nin0
  have F7 := V_a.keep Kq3 nin0
  have F8 := O_0.keep Kq3 all0
  have K3 := K0.trans Kq3 all0
  refine os st3 ?_
  show OG p e below Φ T3 m 39 #[rv s_, rv a, iv 0, iv 3, .val .null, .unset] [(.ref b3)]
  refine os (fun _ z => XS.astore X3.here hx rfl (hb hby d2_39) rfl rfl (l' := #[rv s_, rv a, iv 0, iv 3, .val .null, rv b3]) rfl z) ?_
  show OG p e below Φ T3 m 41 #[rv s_, rv a, iv 0, iv 3, .val .null, rv b3] []
  refine os (fun _ z => XS.aloadN X3.here hx rfl (hb hby d2_41) rfl rfl z) ?_
  refine os (fun _ z => XS.aload X3.here hx rfl (hb hby d2_42) rfl rfl z) ?_
  show OG p e below Φ T3 m 44 #[rv s_, rv a, iv 0, iv 3, .val .null, rv b3] [(.ref b3), (.ref s_)]
  refine os (fun _ z => XS.iloadN X3.here hx rfl (hb hby d2_44) rfl z) ?_
  obtain ⟨_, T9, L9, X9, hQ9, st9⟩ := own_callSt X3 hx hZ hown (ow25 hw) (ow26 hw) (ow20 hw) (ow27 hw) (by decide) (rsb3_0cf l Z a0 hw [] b3 cb3 c0_ c1_ c2_ T3.heap n0 Zs3 Vq3) rfl (W := 1) (by decide) (by decide) (by decide) (by decide) (pc := 45) (ls := #[rv s_, rv a, iv 0, iv 3, .val .null, rv b3]) (stk := [(.int 3), (.ref b3), (.ref s_)]) (by rw [hml]; rfl) (argsL := [(.ref b3), (.int 3)]) (rest := [(.ref s_)]) (lenOf pd3 rfl) rfl rfl (Nat.le_of_eq rfl) (hb hby d2_45)
  obtain ⟨rfl, Nq9, e9⟩ := hQ9
  have N9 := Fr.app N3 Nq9
  refine os st9 ?_
  show OG p e below Φ T9 m 48 #[rv s_, rv a, iv 0, iv 3, .val .null, rv b3] [(.int 1), (.ref s_)]
  obtain ⟨T10, h10, X10, e10, W10, st10⟩ := putF X9 hx hZ hown (host := "") (Or.inl (ow28 hw)) Via.refl e9 F6 F4 (Or.inr ⟨(ow29 hw), rfl, hnm⟩) (ow5 hw) (ty := .byte) (by decide) (by decide) (by decide) (g := (mkF m 48 #[rv s_, rv a, iv 0, iv 3, .val .null, rv b3] [(.int 1), (.ref s_)])) rfl rfl (hb hby d2_48)
  have F11 := F4.wr W10
  have F12 := F5.other W10 (Or.inr (slot_ne (Or.inr (ow31 hw)) (Or.inr (ow29 hw)) (by decide) (t := (.array .byte)) (t' := .byte) (by decide) (by decide)))
  have F13 := F6.same W10
  have F14 := F7.other W10 (Ne.symm nsa)
  have F15 := F8.wr W10 g_s
  have F16 := Vq3.other W10 (Ne.symm nq3_s_)
  have K10 := K3.wr W10 (Or.inl (List.mem_of_getElem? (i := 0) rfl))
  have N10 := Fr.snoc X10 N9 g_s
  have Zs10 : n0 ≤ h10.size := by rw [W10.size]; exact Zs3
  refine os st10 ?_
  show OG p e below Φ T10 m 51 #[rv s_, rv a, iv 0, iv 3, .val .null, rv b3] []
  refine os (fun _ z => XS.aloadN X10.here hx rfl (hb hby d2_51) rfl rfl z) ?_
  refine os (fun _ z => XS.aload X10.here hx rfl (hb hby d2_52) rfl rfl z) ?_
  show OG p e below Φ T10 m 54 #[rv s_, rv a, iv 0, iv 3, .val .null, rv b3] [(.ref b3), (.ref s_)]
  obtain ⟨T17, h17, X17, e17, W17, st17⟩ := putF X10 hx hZ hown (host := "") (Or.inl (ow30 hw)) Via.refl e10 F12 F11 (Or.inr ⟨(ow31 hw), rfl, hnm⟩) (ow5 hw) (ty := (.array .byte)) (by decide) rfl rfl (g := (mkF m 54 #[rv s_, rv a, iv 0, iv 3, .val .null, rv b3] [(.ref b3), (.ref s_)])) rfl rfl (hb hby d2_54)
  have F18 := F11.wr W17
  have F19 := F12.same W17
  have F20 := F13.other W17 (Or.inr (slot_ne (Or.inr (ow29 hw)) (Or.inr (ow31 hw)) (by decide) (t := .byte) (t' := (.array .byte)) (by decide) (by decide)))
  have F21 := F14.other W17 (Ne.symm nsa)
  have F22 := F15.wr W17 g_s
  have F23 := F16.other W17 (Ne.symm nq3_s_)
  have K17 := K10.wr W17 (Or.inl (List.mem_of_getElem? (i := 0) rfl))
  have N17 := Fr.snoc X17 N10 g_s
  have Zs17 : n0 ≤ h17.size := by rw [W17.size]; exact Zs10
  refine os st17 ?_
  show OG p e below Φ T17 m 57 #[rv s_, rv a, iv 0, iv 3, .val .null, rv b3] []
  refine OGo.fin X17 hlk (v := none) (fun _ => rfl) (by decide) (by decide) (fun fs hr => X17.returnOut hx hret (hb hby d2_57) hr) fun U eU hF => hΦ _ _ _ ?_ hF
  rw [eU, e17]
  show Q_rsb3_1i4 Z s_ a ca qc c0_ c1_ c2_ h0 n0 _ _ _
  exact ⟨rfl, N17, K17, F18, _, _, F19, F20, F23, sq3⟩

theorem ef_rsb3_1i1 (m : MethodId) (x0 : Addr) (x1 : Addr) : entryFrame m #[(.ref x0), (.ref x1)] 2 = mkF m 0 #[.val (.ref x0), .val (.ref x1)] [] := by first | (simp [entryFrame, mkF, argsToLocals, Value.category]; done) | rfl
def Q_rsb3_1i1 (Z : State) (s_ : Addr) (a : Addr) (ca : ClassId) (qc : Int32) (c0_ : Int32) (c1_ : Int32) (c2_ : Int32) (h0 : Heap) (n0 : Nat) (v : Option Value) (h : Heap) (L : List Loc) : Prop := v = none ∧ Fr n0 L ∧ Keep h0 h [s_] ∧ Exa Z h s_ "java/lang/String" ∧ ∃ b cb, Fld Z h s_ "java/lang/String" "value" "[B" (.ref b) ∧ Fld Z h s_ "java/lang/String" "coder" "B" (.int (1 : Int32)) ∧ Arv Z h b cb .byte (6 : Int32) [(.int (ohb c0_)), (.int (olb c0_)), (.int (ohb c1_)), (.int (olb c1_)), (.int (ohb c2_)), (.int (olb c2_))] (.int (0 : Int32)) ∧ h0.size ≤ b
set_option maxRecDepth 65536 in
set_option maxHeartbeats 40000000 in
theorem rsb3_1i1 (l : Launch) (Z : State) (a0 : Array Value) (hw : ∀ d ∈ tables_1, d.before a0 Z = true) (ws : List Jvm.Cond) (s_ : Addr) (a : Addr) (ca : ClassId) (qc : Int32) (c0_ : Int32) (c1_ : Int32) (c2_ : Int32) (h0 : Heap) (n0 : Nat) (Z0 : n0 ≤ h0.size) (E_s : Exa Z h0 s_ "java/lang/String") (g_s : n0 ≤ s_) (F_v : Fld Z h0 s_ "java/lang/String" "value" "[B" .null) (F_c : Fld Z h0 s_ "java/lang/String" "coder" "B" (.int (0 : Int32))) (V_a : Arv Z h0 a ca .char (3 : Int32) [(.int c0_), (.int c1_), (.int c2_)] (.int (0 : Int32))) (nsa : s_ ≠ a) (S_cs : Sta Z Z.heap "java/lang/String" "COMPACT_STRINGS" "Z" (.int qc)) (hq : ¬ qc = 0) (O_0 : Old Z n0 h0) (S_ad : Sta Z Z.heap "java/lang/StringUTF16" "$assertionsDisabled" "Z" (.int (1 : Int32))) (S_hb : Sta Z Z.heap "java/lang/StringUTF16" "HI_BYTE_SHIFT" "I" (.int (0 : Int32))) (S_lb : Sta Z Z.heap "java/lang/StringUTF16" "LO_BYTE_SHIFT" "I" (.int (8 : Int32))) (hl0 : ¬ (255 : Int32) < c0_) (hb1 : (255 : Int32) < c1_) (hr1 : nar .char c1_ = c1_) :
    OCon l Z (⟨"java/lang/String", "<init>", "([C)V"⟩ : MethodName) jdk_42_method_3_code 2 none ws ({ frames := 5, cells := 2, slots := 9, locals := 74 } : Room) #[(.ref s_), (.ref a)] h0 (Q_rsb3_1i1 Z s_ a ca qc c0_ c1_ c2_ h0 n0) := by
  refine OCon.of (plainFor_of_name pn0) ?_
  intro p e s m below meth c s₁ Φ X0 hx hby hml hown hnm hret hlk hZ e0 hΦ
  have N0 := Fr.nil n0
  refine os (fun _ z => castTop (ef_rsb3_1i1 m s_ a) z) ?_
  have K0 := Keep.refl h0 [s_]
  show OG p e below Φ s₁ m 0 #[rv s_, rv a] []
  refine os (fun _ z => XS.aloadN X0.here hx rfl (hb hby d1_0) rfl rfl z) ?_
  refine os (fun _ z => XS.aloadN X0.here hx rfl (hb hby d1_1) rfl rfl z) ?_
  show OG p e below Φ s₁ m 2 #[rv s_, rv a] [(.ref a), (.ref s_)]
  refine os (fun _ z => XS.iconst X0.here hx rfl (hb hby d1_2) z) ?_
  refine os (fun _ z => XS.aloadN X0.here hx rfl (hb hby d1_3) rfl rfl z) ?_
  show OG p e below Φ s₁ m 4 #[rv s_, rv a] [(.ref a), (.int 0), (.ref a), (.ref s_)]
  obtain ⟨cl1, Aq1, -, S1, M1, -, -⟩ := id V_a
  refine os (fun _ z => X0.arraylength hx (by rw [e0]; exact Aq1.1) (oia hZ Aq1.2.1) (g := (mkF m 4 #[rv s_, rv a] [(.ref a), (.int 0), (.ref a), (.ref s_)])) rfl rfl (hb hby d1_4) _ z) ?_
  rw [len_of S1 M1]
  show OG p e below Φ s₁ m 5 #[rv s_, rv a] [(.int 3), (.int 0), (.ref a), (.ref s_)]
  refine os (fun _ z => XS.aconstNull X0.here hx rfl (hb hby d1_5) z) ?_
  obtain ⟨_, T2, L2, X2, hQ2, st2⟩ := own_callSp X0 hx hZ rfl hown (ow10 hw) (ow11 hw) (ow6 hw) (ow13 hw) (by decide) (rsb3_1i4 l Z a0 hw [] s_ a ca qc c0_ c1_ c2_ h0 n0 Z0 E_s g_s F_v F_c V_a nsa S_cs hq O_0 S_ad S_hb S_lb hl0 hb1 hr1) e0 (W := 0) (by decide) (by decide) (by decide) (by decide) (pc := 6) (ls := #[rv s_, rv a]) (stk := [.null, (.int 3), (.int 0), (.ref a), (.ref s_)]) (by rw [hml]; rfl) (a := s_) (argsL := [(.ref a), (.int 0), (.int 3), .null]) (rest := []) (lenOf pd0 rfl) rfl rfl (Nat.le_of_eq rfl) (hb hby d1_6)
  obtain ⟨rfl, Nq2, Kq2, Eq2, b2, cb2, Fv2, Fc2, Vq2, hz2⟩ := hQ2
  have nq2_a : a ≠ b2 := Nat.ne_of_lt (Nat.lt_of_lt_of_le V_a.lt hz2)
  have nq2_s_ : s_ ≠ b2 := Nat.ne_of_lt (Nat.lt_of_lt_of_le E_s.lt hz2)
  have gq2 : n0 ≤ b2 := Nat.le_trans Z0 hz2
  have sq2 : h0.size ≤ b2 := Nat.le_trans K0.1 hz2
  have N2 := Fr.app N0 Nq2
  have Zs2 : n0 ≤ T2.heap.size := Nat.le_trans Z0 Kq2.1
  have F3 := V_a.keep Kq2 (ninS (Ne.symm nsa) nin0)
  have F4 := O_0.keep Kq2 (allS g_s all0)
  have K2 := K0.trans Kq2 (allS (Or.inl (List.mem_of_getElem? (i := 0) rfl)) all0)
  refine os st2 ?_
  show OG p e below Φ T2 m 9 #[rv s_, rv a] []
  refine OGo.fin X2 hlk (v := none) (fun _ => rfl) (by decide) (by decide) (fun fs hr => X2.returnOut hx hret (hb hby d1_9) hr) fun U eU hF => hΦ _ _ _ ?_ hF
  rw [eU]
  show Q_rsb3_1i1 Z s_ a ca qc c0_ c1_ c2_ h0 n0 _ _ _
  exact ⟨rfl, N2, K2, Eq2, _, _, Fv2, Fc2, Vq2, sq2⟩

theorem ef_rsb3_2c2 (m : MethodId) (x0 : Addr) (x1 : Int32) (x2 : Addr) (x3 : Int32) (x4 : Int32) : entryFrame m #[(.ref x0), (.int x1), (.ref x2), (.int x3), (.int x4)] 7 = mkF m 0 #[.val (.ref x0), .val (.int x1), .val (.ref x2), .val (.int x3), .val (.int x4), .unset, .unset] [] := by first | (simp [entryFrame, mkF, argsToLocals, Value.category]; done) | rfl
def Q_rsb3_2c2 (Z : State) (a : Addr) (ca : ClassId) (b : Addr) (cb : ClassId) (c0_ : Int32) (c1_ : Int32) (c2_ : Int32) (h0 : Heap) (n0 : Nat) (v : Option Value) (h : Heap) (L : List Loc) : Prop := v = some (.int (2 : Int32)) ∧ Fr n0 L ∧ Keep h0 h [b]
set_option maxRecDepth 65536 in
set_option maxHeartbeats 40000000 in
theorem rsb3_2c2 (l : Launch) (Z : State) (a0 : Array Value) (hw : ∀ d ∈ tables_1, d.before a0 Z = true) (ws : List Jvm.Cond) (a : Addr) (ca : ClassId) (b : Addr) (cb : ClassId) (c0_ : Int32) (c1_ : Int32) (c2_ : Int32) (h0 : Heap) (n0 : Nat) (Z0 : n0 ≤ h0.size) (V_a : Arv Z h0 a ca .char (3 : Int32) [(.int c0_), (.int c1_), (.int c2_)] (.int (0 : Int32))) (V_b : Arv Z h0 b cb .byte (3 : Int32) [(.int (0 : Int32)), (.int (0 : Int32)), (.int (0 : Int32))] (.int (0 : Int32))) (nab : a ≠ b) (g_b : n0 ≤ b) (hl0 : ¬ (255 : Int32) < c0_) (hl1 : ¬ (255 : Int32) < c1_) (hb2 : (255 : Int32) < c2_) :
    OCon l Z (⟨"java/lang/StringUTF16", "compress", "([CI[BII)I"⟩ : MethodName) jdk_52_method_21_code 7 (some .int) ws ({ frames := 0, cells := 0, slots := 0, locals := 0 } : Room) #[(.ref a), (.int (0 : Int32)), (.ref b), (.int (0 : Int32)), (.int (3 : Int32))] h0 (Q_rsb3_2c2 Z a ca b cb c0_ c1_ c2_ h0 n0) := by
  refine OCon.of (plainFor_of_name pn1) ?_
  intro p e s m below meth c s₁ Φ X0 hx hby hml hown hnm hret hlk hZ e0 hΦ
  have N0 := Fr.nil n0
  refine os (fun _ z => castTop (ef_rsb3_2c2 m a (0 : Int32) b (0 : Int32) (3 : Int32)) z) ?_
  have K0 := Keep.refl h0 [b]
  show OG p e below Φ s₁ m 0 #[rv a, iv 0, rv b, iv 0, iv 3, .unset, .unset] []
  refine os (fun _ z => XS.iconst X0.here hx rfl (hb hby d5_0) z) ?_
  refine os (fun _ z => XS.istore X0.here hx rfl (hb hby d5_1) rfl (l' := #[rv a, iv 0, rv b, iv 0, iv 3, iv 0, .unset]) rfl z) ?_
  show OG p e below Φ s₁ m 3 #[rv a, iv 0, rv b, iv 0, iv 3, iv 0, .unset] []
  refine os (fun _ z => XS.iload X0.here hx rfl (hb hby d5_3) rfl z) ?_
  refine os (fun _ z => XS.iload X0.here hx rfl (hb hby d5_5) rfl z) ?_
  show OG p e below Φ s₁ m 7 #[rv a, iv 0, rv b, iv 0, iv 3, iv 0, .unset] [(.int 3), (.int 0)]
  refine os (fun _ z => XS.icmpNo X0.here hx rfl (hb hby d5_7) rfl (XT.ii_ge_f (by decide)) z) ?_
  show OG p e below Φ s₁ m 10 #[rv a, iv 0, rv b, iv 0, iv 3, iv 0, .unset] []
  refine os (fun _ z => XS.aloadN X0.here hx rfl (hb hby d5_10) rfl rfl z) ?_
  refine os (fun _ z => XS.iloadN X0.here hx rfl (hb hby d5_11) rfl z) ?_
  show OG p e below Φ s₁ m 12 #[rv a, iv 0, rv b, iv 0, iv 3, iv 0, .unset] [(.int 0), (.ref a)]
  obtain ⟨cl1, Aq1, -, S1, M1, H1, -⟩ := id V_a
  have in1 : ¬ ((0 : Int32) < 0 ∨ cl1.slots.size ≤ (0 : Int32).toNatClampNeg) := inb_of S1 ⟨by decide, by decide⟩
  have at1 : cl1.slots[(0 : Int32).toNatClampNeg]? = some (.int c0_) := H1.at in1 rfl
  refine os (fun _ z => X0.caload hx (by rw [e0]; exact Aq1.1) (oia hZ Aq1.2.1) Aq1.2.2 in1 at1 (g := (mkF m 12 #[rv a, iv 0, rv b, iv 0, iv 3, iv 0, .unset] [(.int 0), (.ref a)])) rfl rfl (hb hby d5_12) _ z) ?_
  show OG p e below Φ s₁ m 13 #[rv a, iv 0, rv b, iv 0, iv 3, iv 0, .unset] [(.int c0_)]
  refine os (fun _ z => XS.istore X0.here hx rfl (hb hby d5_13) rfl (l' := #[rv a, iv 0, rv b, iv 0, iv 3, iv 0, iv c0_]) rfl z) ?_
  show OG p e below Φ s₁ m 15 #[rv a, iv 0, rv b, iv 0, iv 3, iv 0, iv c0_] []
  refine os (fun _ z => XS.iload X0.here hx rfl (hb hby d5_15) rfl z) ?_
  refine os (fun _ z => XS.sipush X0.here hx rfl (hb hby d5_17) z) ?_
  show OG p e below Φ s₁ m 20 #[rv a, iv 0, rv b, iv 0, iv 3, iv 0, iv c0_] [(.int 255), (.int c0_)]
  refine os (fun _ z => XS.icmpYes X0.here hx rfl (pc0 := 20) (pc' := 26) rfl (hb hby d5_20) rfl (XT.ii_le_t hl0) (by decide) (by decide) z) ?_
  show OG p e below Φ s₁ m 26 #[rv a, iv 0, rv b, iv 0, iv 3, iv 0, iv c0_] []
  refine os (fun _ z => XS.aloadN X0.here hx rfl (hb hby d5_26) rfl rfl z) ?_
  refine os (fun _ z => XS.iloadN X0.here hx rfl (hb hby d5_27) rfl z) ?_
  show OG p e below Φ s₁ m 28 #[rv a, iv 0, rv b, iv 0, iv 3, iv 0, iv c0_] [(.int 0), (.ref b)]
  refine os (fun _ z => XS.iload X0.here hx rfl (hb hby d5_28) rfl z) ?_
  refine os (fun _ z => XT.i2b X0.here hx rfl (hb hby d5_30) rfl z) ?_
  show OG p e below Φ s₁ m 31 #[rv a, iv 0, rv b, iv 0, iv 3, iv 0, iv c0_] [(.int (c0_.toInt8.toInt32)), (.int 0), (.ref b)]
  obtain ⟨cl2, Aq2, Cq2, S2, M2, H2, G2⟩ := id V_b
  have in2 : ¬ ((0 : Int32) < 0 ∨ cl2.slots.size ≤ (0 : Int32).toNatClampNeg) := inb_of S2 ⟨by decide, by decide⟩
  obtain ⟨T2, h2, X2, e2, W2, st2⟩ := stB X0 hx hZ e0 Aq2 in2 (g := (mkF m 31 #[rv a, iv 0, rv b, iv 0, iv 3, iv 0, iv c0_] [(.int (c0_.toInt8.toInt32)), (.int 0), (.ref b)])) rfl rfl (hb hby d5_31)
  have W2 : Wr h0 h2 b (0 : Int32).toNatClampNeg (.int (nar .byte (c0_.toInt8.toInt32))) := W2
  have F3 := V_a.other W2 nab
  have V2 : Arv Z h2 b cb .byte (3 : Int32) [(.int (nar .byte (c0_.toInt8.toInt32))), (.int (0 : Int32)), (.int (0 : Int32))] (.int (0 : Int32)) := Arv.set Aq2 Cq2 S2 M2 H2 G2 (fits_nar_byte _) W2 0 (by decide) (by show 0 < 3; decide)
  have K2 := K0.wr W2 (Or.inl (List.mem_of_getElem? (i := 0) rfl))
  have N2 := Fr.snoc X2 N0 g_b
  have Zs2 : n0 ≤ h2.size := by rw [W2.size]; exact Z0
  refine os st2 ?_
  show OG p e below Φ T2 m 32 #[rv a, iv 0, rv b, iv 0, iv 3, iv 0, iv c0_] []
  refine os (fun _ z => XS.iinc X2.here hx rfl (hb hby d5_32) rfl (l' := #[rv a, iv ((0 : Int32) + (1 : Int32)), rv b, iv 0, iv 3, iv 0, iv c0_]) rfl z) ?_
  show OG p e below Φ T2 m 35 #[rv a, iv 1, rv b, iv 0, iv 3, iv 0, iv c0_] []
  refine os (fun _ z => XS.iinc X2.here hx rfl (hb hby d5_35) rfl (l' := #[rv a, iv 1, rv b, iv ((0 : Int32) + (1 : Int32)), iv 3, iv 0, iv c0_]) rfl z) ?_
  show OG p e below Φ T2 m 38 #[rv a, iv 1, rv b, iv 1, iv 3, iv 0, iv c0_] []
  refine os (fun _ z => XS.iinc X2.here hx rfl (hb hby d5_38) rfl (l' := #[rv a, iv 1, rv b, iv 1, iv 3, iv ((0 : Int32) + (1 : Int32)), iv c0_]) rfl z) ?_
  show OG p e below Φ T2 m 41 #[rv a, iv 1, rv b, iv 1, iv 3, iv 1, iv c0_] []
  refine os (fun _ z => XS.goto X2.here hx rfl (pc0 := 41) (pc' := 3) rfl (hb hby d5_41) (by decide) (by decide) z) ?_
  show OG p e below Φ T2 m 3 #[rv a, iv 1, rv b, iv 1, iv 3, iv 1, iv c0_] []
  refine os (fun _ z => XS.iload X2.here hx rfl (hb hby d5_3) rfl z) ?_
  refine os (fun _ z => XS.iload X2.here hx rfl (hb hby d5_5) rfl z) ?_
  show OG p e below Φ T2 m 7 #[rv a, iv 1, rv b, iv 1, iv 3, iv 1, iv c0_] [(.int 3), (.int 1)]
  refine os (fun _ z => XS.icmpNo X2.here hx rfl (hb hby d5_7) rfl (XT.ii_ge_f (by decide)) z) ?_
  show OG p e below Φ T2 m 10 #[rv a, iv 1, rv b, iv 1, iv 3, iv 1, iv c0_] []
  refine os (fun _ z => XS.aloadN X2.here hx rfl (hb hby d5_10) rfl rfl z) ?_
  refine os (fun _ z => XS.iloadN X2.here hx rfl (hb hby d5_11) rfl z) ?_
  show OG p e below Φ T2 m 12 #[rv a, iv 1, rv b, iv 1, iv 3, iv 1, iv c0_] [(.int 1), (.ref a)]
  obtain ⟨cl4, Aq4, -, S4, M4, H4, -⟩ := id F3
  have in4 : ¬ ((1 : Int32) < 0 ∨ cl4.slots.size ≤ (1 : Int32).toNatClampNeg) := inb_of S4 ⟨by decide, by decide⟩
  have at4 : cl4.slots[(1 : Int32).toNatClampNeg]? = some (.int c1_) := H4.at in4 rfl
  refine os (fun _ z => X2.caload hx (by rw [e2]; exact Aq4.1) (oia hZ Aq4.2.1) Aq4.2.2 in4 at4 (g := (mkF m 12 #[rv a, iv 1, rv b, iv 1, iv 3, iv 1, iv c0_] [(.int 1), (.ref a)])) rfl rfl (hb hby d5_12) _ z) ?_
  show OG p e below Φ T2 m 13 #[rv a, iv 1, rv b, iv 1, iv 3, iv 1, iv c0_] [(.int c1_)]
  refine os (fun _ z => XS.istore X2.here hx rfl (hb hby d5_13) rfl (l' := #[rv a, iv 1, rv b, iv 1, iv 3, iv 1, iv c1_]) rfl z) ?_
  show OG p e below Φ T2 m 15 #[rv a, iv 1, rv b, iv 1, iv 3, iv 1, iv c1_] []
  refine os (fun _ z => XS.iload X2.here hx rfl (hb hby d5_15) rfl z) ?_
  refine os (fun _ z => XS.sipush X2.here hx rfl (hb hby d5_17) z) ?_
  show OG p e below Φ T2 m 20 #[rv a, iv 1, rv b, iv 1, iv 3, iv 1, iv c1_] [(.int 255), (.int c1_)]
  refine os (fun _ z => XS.icmpYes X2.here hx rfl (pc0 := 20) (pc' := 26) rfl (hb hby d5_20) rfl (XT.ii_le_t hl1) (by decide) (by decide) z) ?_
  show OG p e below Φ T2 m 26 #[rv a, iv 1, rv b, iv 1, iv 3, iv 1, iv c1_] []
  refine os (fun _ z => XS.aloadN X2.here hx rfl (hb hby d5_26) rfl rfl z) ?_
  refine os (fun _ z => XS.iloadN X2.here hx rfl (hb hby d5_27) rfl z) ?_
  show OG p e below Φ T2 m 28 #[rv a, iv 1, rv b, iv 1, iv 3, iv 1, iv c1_] [(.int 1), (.ref b)]
  refine os (fun _ z => XS.iload X2.here hx rfl (hb hby d5_28) rfl z) ?_
  refine os (fun _ z => XT.i2b X2.here hx rfl (hb hby d5_30) rfl z) ?_
  show OG p e below Φ T2 m 31 #[rv a, iv 1, rv b, iv 1, iv 3, iv 1, iv c1_] [(.int (c1_.toInt8.toInt32)), (.int 1), (.ref b)]
  obtain ⟨cl5, Aq5, Cq5, S5, M5, H5, G5⟩ := id V2
  have in5 : ¬ ((1 : Int32) < 0 ∨ cl5.slots.size ≤ (1 : Int32).toNatClampNeg) := inb_of S5 ⟨by decide, by decide⟩
  obtain ⟨T5, h5, X5, e5, W5, st5⟩ := stB X2 hx hZ e2 Aq5 in5 (g := (mkF m 31 #[rv a, iv 1, rv b, iv 1, iv 3, iv 1, iv c1_] [(.int (c1_.toInt8.toInt32)), (.int 1), (.ref b)])) rfl rfl (hb hby d5_31)
  have W5 : Wr h2 h5 b (1 : Int32).toNatClampNeg (.int (nar .byte (c1_.toInt8.toInt32))) := W5
  have F6 := F3.other W5 nab
  have V5 : Arv Z h5 b cb .byte (3 : Int32) [(.int (nar .byte (c0_.toInt8.toInt32))), (.int (nar .byte (c1_.toInt8.toInt32))), (.int (0 : Int32))] (.int (0 : Int32)) := Arv.set Aq5 Cq5 S5 M5 H5 G5 (fits_nar_byte _) W5 1 (by decide) (by show 1 < 3; decide)
  have K5 := K2.wr W5 (Or.inl (List.mem_of_getElem? (i := 0) rfl))
  have N5 := Fr.snoc X5 N2 g_b
  have Zs5 : n0 ≤ h5.size := by rw [W5.size]; exact Zs2
  refine os st5 ?_
  show OG p e below Φ T5 m 32 #[rv a, iv 1, rv b, iv 1, iv 3, iv 1, iv c1_] []
  refine os (fun _ z => XS.iinc X5.here hx rfl (hb hby d5_32) rfl (l' := #[rv a, iv ((1 : Int32) + (1 : Int32)), rv b, iv 1, iv 3, iv 1, iv c1_]) rfl z) ?_
  show OG p e below Φ T5 m 35 #[rv a, iv 2, rv b, iv 1, iv 3, iv 1, iv c1_] []
  refine os (fun _ z => XS.iinc X5.here hx rfl (hb hby d5_35) rfl (l' := #[rv a, iv 2, rv b, iv ((1 : Int32) + (1 : Int32)), iv 3, iv 1, iv c1_]) rfl z) ?_
  show OG p e below Φ T5 m 38 #[rv a, iv 2, rv b, iv 2, iv 3, iv 1, iv c1_] []
  refine os (fun _ z => XS.iinc X5.here hx rfl (hb hby d5_38) rfl (l' := #[rv a, iv 2, rv b, iv 2, iv 3, iv ((1 : Int32) + (1 : Int32)), iv c1_]) rfl z) ?_
  show OG p e below Φ T5 m 41 #[rv a, iv 2, rv b, iv 2, iv 3, iv 2, iv c1_] []
  refine os (fun _ z => XS.goto X5.here hx rfl (pc0 := 41) (pc' := 3) rfl (hb hby d5_41) (by decide) (by decide) z) ?_
  show OG p e below Φ T5 m 3 #[rv a, iv 2, rv b, iv 2, iv 3, iv 2, iv c1_] []
  refine os (fun _ z => XS.iload X5.here hx rfl (hb hby d5_3) rfl z) ?_
  refine os (fun _ z => XS.iload X5.here hx rfl (hb hby d5_5) rfl z) ?_
  show OG p e below Φ T5 m 7 #[rv a, iv 2, rv b, iv 2, iv 3, iv 2, iv c1_] [(.int 3), (.int 2)]
  refine os (fun _ z => XS.icmpNo X5.here hx rfl (hb hby d5_7) rfl (XT.ii_ge_f (by decide)) z) ?_
  show OG p e below Φ T5 m 10 #[rv a, iv 2, rv b, iv 2, iv 3, iv 2, iv c1_] []
  refine os (fun _ z => XS.aloadN X5.here hx rfl (hb hby d5_10) rfl rfl z) ?_
  refine os (fun _ z => XS.iloadN X5.here hx rfl (hb hby d5_11) rfl z) ?_
  show OG p e below Φ T5 m 12 #[rv a, iv 2, rv b, iv 2, iv 3, iv 2, iv c1_] [(.int 2), (.ref a)]
  obtain ⟨cl7, Aq7, -, S7, M7, H7, -⟩ := id F6
  have in7 : ¬ ((2 : Int32) < 0 ∨ cl7.slots.size ≤ (2 : Int32).toNatClampNeg) := inb_of S7 ⟨by decide, by decide⟩
  have at7 : cl7.slots[(2 : Int32).toNatClampNeg]? = some (.int c2_) := H7.at in7 rfl
  refine os (fun _ z => X5.caload hx (by rw [e5]; exact Aq7.1) (oia hZ Aq7.2.1) Aq7.2.2 in7 at7 (g := (mkF m 12 #[rv a, iv 2, rv b, iv 2, iv 3, iv 2, iv c1_] [(.int 2), (.ref a)])) rfl rfl (hb hby d5_12) _ z) ?_
  show OG p e below Φ T5 m 13 #[rv a, iv 2, rv b, iv 2, iv 3, iv 2, iv c1_] [(.int c2_)]
  refine os (fun _ z => XS.istore X5.here hx rfl (hb hby d5_13) rfl (l' := #[rv a, iv 2, rv b, iv 2, iv 3, iv 2, iv c2_]) rfl z) ?_
  show OG p e below Φ T5 m 15 #[rv a, iv 2, rv b, iv 2, iv 3, iv 2, iv c2_] []
  refine os (fun _ z => XS.iload X5.here hx rfl (hb hby d5_15) rfl z) ?_
  refine os (fun _ z => XS.sipush X5.here hx rfl (hb hby d5_17) z) ?_
  show OG p e below Φ T5 m 20 #[rv a, iv 2, rv b, iv 2, iv 3, iv 2, iv c2_] [(.int 255), (.int c2_)]
  refine os (fun _ z => XS.icmpNo X5.here hx rfl (hb hby d5_20) rfl (XT.ii_le_f hb2) z) ?_
  show OG p e below Φ T5 m 23 #[rv a, iv 2, rv b, iv 2, iv 3, iv 2, iv c2_] []
  refine os (fun _ z => XS.iload X5.here hx rfl (hb hby d5_23) rfl z) ?_
  refine OGo.fin X5 hlk (v := (some (.int 2))) (fun h => by rw [hret] at h; cases h) (by decide) (by decide) (fun fs hr => X5.ireturnOut hx hret rfl (by simp) (hb hby d5_25) hr) fun U eU hF => hΦ _ _ _ ?_ hF
  rw [eU, e5]
  show Q_rsb3_2c2 Z a ca b cb c0_ c1_ c2_ h0 n0 _ _ _
  exact ⟨rfl, N5, K5⟩

theorem ef_rsb3_2gc (m : MethodId) (x0 : Addr) (x1 : Int32) : entryFrame m #[(.ref x0), (.int x1)] 2 = mkF m 0 #[.val (.ref x0), .val (.int x1)] [] := by first | (simp [entryFrame, mkF, argsToLocals, Value.category]; done) | rfl
def Q_rsb3_2gc (Z : State) (b : Addr) (cb : ClassId) (c0_ : Int32) (c1_ : Int32) (c2_ : Int32) (h0 : Heap) (n0 : Nat) (v : Option Value) (h : Heap) (L : List Loc) : Prop := v = some (.int c2_) ∧ Fr n0 L ∧ h = h0
set_option maxRecDepth 65536 in
set_option maxHeartbeats 40000000 in
theorem rsb3_2gc (l : Launch) (Z : State) (a0 : Array Value) (hw : ∀ d ∈ tables_1, d.before a0 Z = true) (ws : List Jvm.Cond) (b : Addr) (cb : ClassId) (c0_ : Int32) (c1_ : Int32) (c2_ : Int32) (h0 : Heap) (n0 : Nat) (Z0 : n0 ≤ h0.size) (V_b : Arv Z h0 b cb .byte (6 : Int32) [(.int (ohb c0_)), (.int (olb c0_)), (.int (ohb c1_)), (.int (olb c1_)), (.int (ohb c2_)), (.int (olb c2_))] (.int (0 : Int32))) (S_ad : Sta Z h0 "java/lang/StringUTF16" "$assertionsDisabled" "Z" (.int (1 : Int32))) (S_hb : Sta Z h0 "java/lang/StringUTF16" "HI_BYTE_SHIFT" "I" (.int (0 : Int32))) (S_lb : Sta Z h0 "java/lang/StringUTF16" "LO_BYTE_SHIFT" "I" (.int (8 : Int32))) (hr2 : nar .char c2_ = c2_) :
    OCon l Z (⟨"java/lang/StringUTF16", "getChar", "([BI)C"⟩ : MethodName) jdk_52_method_5_code 2 (some .char) ws ({ frames := 0, cells := 0, slots := 0, locals := 0 } : Room) #[(.ref b), (.int (2 : Int32))] h0 (Q_rsb3_2gc Z b cb c0_ c1_ c2_ h0 n0) := by
  refine OCon.of (plainFor_of_name pn1) ?_
  intro p e s m below meth c s₁ Φ X0 hx hby hml hown hnm hret hlk hZ e0 hΦ
  have N0 := Fr.nil n0
  refine os (fun _ z => castTop (ef_rsb3_2gc m b (2 : Int32)) z) ?_
  show OG p e below Φ s₁ m 0 #[rv b, iv 2] []
  obtain ⟨T1, X1, e1, st1⟩ := getS2 X0 hx hZ hown (host := "") (Or.inl (ow65 hw)) Via.refl e0 S_ad (g := (mkF m 0 #[rv b, iv 2] [])) rfl (hb hby d14_0)
  refine os st1 ?_
  show OG p e below Φ T1 m 3 #[rv b, iv 2] [(.int 1)]
  refine os (fun _ z => XS.ifYes X1.here hx rfl (pc0 := 3) (pc' := 28) rfl (hb hby d14_3) rfl (XT.i0_ne_t (by decide)) (by decide) (by decide) z) ?_
  show OG p e below Φ T1 m 28 #[rv b, iv 2] []
  refine os (fun _ z => XS.iloadN X1.here hx rfl (hb hby d14_28) rfl z) ?_
  refine os (fun _ z => XS.iconst X1.here hx rfl (hb hby d14_29) z) ?_
  show OG p e below Φ T1 m 30 #[rv b, iv 2] [(.int 1), (.int 2)]
  refine os (fun _ z => XT.ishl X1.here hx rfl (hb hby d14_30) rfl z) ?_
  show OG p e below Φ T1 m 31 #[rv b, iv 2] [(.int 4)]
  refine os (fun _ z => XS.istoreN X1.here hx rfl (hb hby d14_31) rfl (l' := #[rv b, iv 4]) rfl z) ?_
  show OG p e below Φ T1 m 32 #[rv b, iv 4] []
  refine os (fun _ z => XS.aloadN X1.here hx rfl (hb hby d14_32) rfl rfl z) ?_
  refine os (fun _ z => XS.iloadN X1.here hx rfl (hb hby d14_33) rfl z) ?_
  show OG p e below Φ T1 m 34 #[rv b, iv 4] [(.int 4), (.ref b)]
  refine os (fun _ z => XS.iinc X1.here hx rfl (hb hby d14_34) rfl (l' := #[rv b, iv ((4 : Int32) + (1 : Int32))]) rfl z) ?_
  show OG p e below Φ T1 m 37 #[rv b, iv 5] [(.int 4), (.ref b)]
  obtain ⟨cl2, Aq2, -, S2, M2, H2, -⟩ := id V_b
  have in2 : ¬ ((4 : Int32) < 0 ∨ cl2.slots.size ≤ (4 : Int32).toNatClampNeg) := inb_of S2 ⟨by decide, by decide⟩
  have at2 : cl2.slots[(4 : Int32).toNatClampNeg]? = some (.int (ohb c2_)) := H2.at in2 rfl
  refine os (fun _ z => X1.baloadBytes hx (by rw [e1]; exact Aq2.1) (oia hZ Aq2.2.1) Aq2.2.2 in2 at2 (g := (mkF m 37 #[rv b, iv 5] [(.int 4), (.ref b)])) rfl rfl (hb hby d14_37) _ z) ?_
  show OG p e below Φ T1 m 38 #[rv b, iv 5] [(.int (ohb c2_))]
  refine os (fun _ z => XS.sipush X1.here hx rfl (hb hby d14_38) z) ?_
  refine os (fun _ z => XS.iand X1.here hx rfl (hb hby d14_41) rfl z) ?_
  show OG p e below Φ T1 m 42 #[rv b, iv 5] [(.int ((ohb c2_) &&& (255 : Int32)))]
  obtain ⟨T3, X3, e3, st3⟩ := getS2 X1 hx hZ hown (host := "") (Or.inl (ow66 hw)) Via.refl e1 S_hb (g := (mkF m 42 #[rv b, iv 5] [(.int ((ohb c2_) &&& (255 : Int32)))])) rfl (hb hby d14_42)
  refine os st3 ?_
  show OG p e below Φ T3 m 45 #[rv b, iv 5] [(.int 0), (.int ((ohb c2_) &&& (255 : Int32)))]
  refine os (fun _ z => XT.ishl X3.here hx rfl (hb hby d14_45) rfl z) ?_
  show OG p e below Φ T3 m 46 #[rv b, iv 5] [(.int (((ohb c2_) &&& (255 : Int32)) <<< ((0 : Int32) &&& 31)))]
  refine os (fun _ z => XS.aloadN X3.here hx rfl (hb hby d14_46) rfl rfl z) ?_
  refine os (fun _ z => XS.iloadN X3.here hx rfl (hb hby d14_47) rfl z) ?_
  show OG p e below Φ T3 m 48 #[rv b, iv 5] [(.int 5), (.ref b), (.int (((ohb c2_) &&& (255 : Int32)) <<< ((0 : Int32) &&& 31)))]
  obtain ⟨cl4, Aq4, -, S4, M4, H4, -⟩ := id V_b
  have in4 : ¬ ((5 : Int32) < 0 ∨ cl4.slots.size ≤ (5 : Int32).toNatClampNeg) := inb_of S4 ⟨by decide, by decide⟩
  have at4 : cl4.slots[(5 : Int32).toNatClampNeg]? = some (.int (olb c2_)) := H4.at in4 rfl
  refine os (fun _ z => X3.baloadBytes hx (by rw [e3]; exact Aq4.1) (oia hZ Aq4.2.1) Aq4.2.2 in4 at4 (g := (mkF m 48 #[rv b, iv 5] [(.int 5), (.ref b), (.int (((ohb c2_) &&& (255 : Int32)) <<< ((0 : Int32) &&& 31)))])) rfl rfl (hb hby d14_48) _ z) ?_
  show OG p e below Φ T3 m 49 #[rv b, iv 5] [(.int (olb c2_)), (.int (((ohb c2_) &&& (255 : Int32)) <<< ((0 : Int32) &&& 31)))]
  refine os (fun _ z => XS.sipush X3.here hx rfl (hb hby d14_49) z) ?_
  refine os (fun _ z => XS.iand X3.here hx rfl (hb hby d14_52) rfl z) ?_
  show OG p e below Φ T3 m 53 #[rv b, iv 5] [(.int ((olb c2_) &&& (255 : Int32))), (.int (((ohb c2_) &&& (255 : Int32)) <<< ((0 : Int32) &&& 31)))]
  obtain ⟨T5, X5, e5, st5⟩ := getS2 X3 hx hZ hown (host := "") (Or.inl (ow67 hw)) Via.refl e3 S_lb (g := (mkF m 53 #[rv b, iv 5] [(.int ((olb c2_) &&& (255 : Int32))), (.int (((ohb c2_) &&& (255 : Int32)) <<< ((0 : Int32) &&& 31)))])) rfl (hb hby d14_53)
  refine os st5 ?_
  show OG p e below Φ T5 m 56 #[rv b, iv 5] [(.int 8), (.int ((olb c2_) &&& (255 : Int32))), (.int (((ohb c2_) &&& (255 : Int32)) <<< ((0 : Int32) &&& 31)))]
  refine os (fun _ z => XT.ishl X5.here hx rfl (hb hby d14_56) rfl z) ?_
  show OG p e below Φ T5 m 57 #[rv b, iv 5] [(.int (((olb c2_) &&& (255 : Int32)) <<< ((8 : Int32) &&& 31))), (.int (((ohb c2_) &&& (255 : Int32)) <<< ((0 : Int32) &&& 31)))]
  refine os (fun _ z => XT.ior X5.here hx rfl (hb hby d14_57) rfl z) ?_
  show OG p e below Φ T5 m 58 #[rv b, iv 5] [(.int ((((ohb c2_) &&& (255 : Int32)) <<< ((0 : Int32) &&& 31)) ||| (((olb c2_) &&& (255 : Int32)) <<< ((8 : Int32) &&& 31))))]
  refine os (fun _ z => XT.i2c X5.here hx rfl (hb hby d14_58) rfl z) ?_
  show OG p e below Φ T5 m 59 #[rv b, iv 5] [(.int (((((ohb c2_) &&& (255 : Int32)) <<< ((0 : Int32) &&& 31)) ||| (((olb c2_) &&& (255 : Int32)) <<< ((8 : Int32) &&& 31))).toUInt32.toUInt16.toUInt32.toInt32))]
  refine OGo.fin X5 hlk (v := (some (.int (((((ohb c2_) &&& (255 : Int32)) <<< ((0 : Int32) &&& 31)) ||| (((olb c2_) &&& (255 : Int32)) <<< ((8 : Int32) &&& 31))).toUInt32.toUInt16.toUInt32.toInt32)))) (fun h => by rw [hret] at h; cases h) (by decide) (by decide) (fun fs hr => X5.ireturnOut hx hret (XT.narrow_c _) (by simp) (hb hby d14_59) hr) fun U eU hF => hΦ _ _ _ ?_ hF
  rw [eU, e5]
  show Q_rsb3_2gc Z b cb c0_ c1_ c2_ h0 n0 _ _ _
  exact ⟨congrArg (fun z => some (Value.int z)) (own_gc' _ hr2), N0, rfl⟩

theorem ef_rsb3_2c3 (m : MethodId) (x0 : Addr) (x1 : Int32) (x2 : Int32) : entryFrame m #[(.ref x0), (.int x1), (.int x2)] 6 = mkF m 0 #[.val (.ref x0), .val (.int x1), .val (.int x2), .unset, .unset, .unset] [] := by first | (simp [entryFrame, mkF, argsToLocals, Value.category]; done) | rfl
def Q_rsb3_2c3 (Z : State) (a : Addr) (ca : ClassId) (c0_ : Int32) (c1_ : Int32) (c2_ : Int32) (h0 : Heap) (n0 : Nat) (v : Option Value) (h : Heap) (L : List Loc) : Prop := ∃ b cb, v = some (.ref b) ∧ Fr n0 L ∧ Keep h0 h [] ∧ Arv Z h b cb .byte (6 : Int32) [(.int (ohb c0_)), (.int (olb c0_)), (.int (ohb c1_)), (.int (olb c1_)), (.int (ohb c2_)), (.int (olb c2_))] (.int (0 : Int32)) ∧ h0.size ≤ b
set_option maxRecDepth 65536 in
set_option maxHeartbeats 40000000 in
theorem rsb3_2c3 (l : Launch) (Z : State) (a0 : Array Value) (hw : ∀ d ∈ tables_1, d.before a0 Z = true) (ws : List Jvm.Cond) (a : Addr) (ca : ClassId) (c0_ : Int32) (c1_ : Int32) (c2_ : Int32) (h0 : Heap) (n0 : Nat) (Z0 : n0 ≤ h0.size) (V_a : Arv Z h0 a ca .char (3 : Int32) [(.int c0_), (.int c1_), (.int c2_)] (.int (0 : Int32))) (O_0 : Old Z n0 h0) (S_ad : Sta Z Z.heap "java/lang/StringUTF16" "$assertionsDisabled" "Z" (.int (1 : Int32))) (S_hb : Sta Z Z.heap "java/lang/StringUTF16" "HI_BYTE_SHIFT" "I" (.int (0 : Int32))) (S_lb : Sta Z Z.heap "java/lang/StringUTF16" "LO_BYTE_SHIFT" "I" (.int (8 : Int32))) (hl0 : ¬ (255 : Int32) < c0_) (hl1 : ¬ (255 : Int32) < c1_) (hb2 : (255 : Int32) < c2_) (hr2 : nar .char c2_ = c2_) :
    OCon l Z (⟨"java/lang/StringUTF16", "compress", "([CII)[B"⟩ : MethodName) jdk_52_method_16_code 6 (some (.array .byte)) ws ({ frames := 3, cells := 2, slots := 9, locals := 40 } : Room) #[(.ref a), (.int (0 : Int32)), (.int (3 : Int32))] h0 (Q_rsb3_2c3 Z a ca c0_ c1_ c2_ h0 n0) := by
  refine OCon.of (plainFor_of_name pn1) ?_
  intro p e s m below meth c s₁ Φ X0 hx hby hml hown hnm hret hlk hZ e0 hΦ
  have N0 := Fr.nil n0
  refine os (fun _ z => castTop (ef_rsb3_2c3 m a (0 : Int32) (3 : Int32)) z) ?_
  have K0 := Keep.refl h0 []
  show OG p e below Φ s₁ m 0 #[rv a, iv 0, iv 3, .unset, .unset, .unset] []
  refine os (fun _ z => XS.iloadN X0.here hx rfl (hb hby d4_0) rfl z) ?_
  obtain ⟨T1, h1, c1, X1, e1, E1, Ar1, st1⟩ := newP (aty := .byte) X0 hx hZ (ow1 hw) e0 (g := (mkF m 1 #[rv a, iv 0, iv 3, .unset, .unset, .unset] [(.int 3)])) rfl (hb hby d4_1) rfl (by decide) (cap := 3) (by decide) (by decide) (by decide) (by decide)
  obtain ⟨b1, g1⟩ : ∃ z, z = h0.size := ⟨_, rfl⟩
  rw [← g1] at Ar1 st1
  have ne1_a : a ≠ b1 := by rw [g1]; exact Nat.ne_of_lt V_a.lt
  have F2 := V_a.ext E1
  have F3 := O_0.ext E1
  have gb1 : n0 ≤ b1 := Nat.le_trans Z0 (Nat.le_of_eq g1.symm)
  have sz1 : h0.size ≤ b1 := Nat.le_trans K0.1 (Nat.le_of_eq g1.symm)
  have K1 := K0.ext E1
  have Zs1 : n0 ≤ h1.size := Nat.le_trans Z0 E1.1
  have V1 : Arv Z h1 b1 c1 .byte (3 : Int32) [(.int (0 : Int32)), (.int (0 : Int32)), (.int (0 : Int32))] (.int (0 : Int32)) := (Arv.new Ar1 (by decide)).pad (pad_rep [] _ 3)
  refine os st1 ?_
  show OG p e below Φ T1 m 3 #[rv a, iv 0, iv 3, .unset, .unset, .unset] [(.ref b1)]
  refine os (fun _ z => XS.astoreN X1.here hx rfl (hb hby d4_3) rfl rfl (l' := #[rv a, iv 0, iv 3, rv b1, .unset, .unset]) rfl z) ?_
  show OG p e below Φ T1 m 4 #[rv a, iv 0, iv 3, rv b1, .unset, .unset] []
  refine os (fun _ z => XS.aloadN X1.here hx rfl (hb hby d4_4) rfl rfl z) ?_
  refine os (fun _ z => XS.iloadN X1.here hx rfl (hb hby d4_5) rfl z) ?_
  show OG p e below Φ T1 m 6 #[rv a, iv 0, iv 3, rv b1, .unset, .unset] [(.int 0), (.ref a)]
  refine os (fun _ z => XS.aloadN X1.here hx rfl (hb hby d4_6) rfl rfl z) ?_
  refine os (fun _ z => XS.iconst X1.here hx rfl (hb hby d4_7) z) ?_
  show OG p e below Φ T1 m 8 #[rv a, iv 0, iv 3, rv b1, .unset, .unset] [(.int 0), (.ref b1), (.int 0), (.ref a)]
  refine os (fun _ z => XS.iloadN X1.here hx rfl (hb hby d4_8) rfl z) ?_
  obtain ⟨_, T4, L4, X4, hQ4, st4⟩ := own_callSt X1 hx hZ hown (ow22 hw) (ow23 hw) (ow20 hw) (ow24 hw) (by decide) (rsb3_2c2 l Z a0 hw [] a ca b1 c1 c0_ c1_ c2_ h1 n0 Zs1 F2 V1 ne1_a gb1 hl0 hl1 hb2) e1 (W := 0) (by decide) (by decide) (by decide) (by decide) (pc := 9) (ls := #[rv a, iv 0, iv 3, rv b1, .unset, .unset]) (stk := [(.int 3), (.int 0), (.ref b1), (.int 0), (.ref a)]) (by rw [hml]; rfl) (argsL := [(.ref a), (.int 0), (.ref b1), (.int 0), (.int 3)]) (rest := []) (lenOf pd1 rfl) rfl rfl (Nat.le_of_eq rfl) (hb hby d4_9)
  obtain ⟨rfl, Nq4, Kq4⟩ := hQ4
  have N4 := Fr.app N0 Nq4
  have Zs4 : n0 ≤ T4.heap.size := Nat.le_trans Zs1 Kq4.1
  have F5 := F2.keep Kq4 (ninS ne1_a nin0)
  have F6 := F3.keep Kq4 (allS gb1 all0)
  have K4 := K1.trans Kq4 (allS (Or.inr sz1) all0)
  refine os st4 ?_
  show OG p e below Φ T4 m 12 #[rv a, iv 0, iv 3, rv b1, .unset, .unset] [(.int 2)]
  refine os (fun _ z => XS.istore X4.here hx rfl (hb hby d4_12) rfl (l' := #[rv a, iv 0, iv 3, rv b1, iv 2, .unset]) rfl z) ?_
  show OG p e below Φ T4 m 14 #[rv a, iv 0, iv 3, rv b1, iv 2, .unset] []
  refine os (fun _ z => XS.iload X4.here hx rfl (hb hby d4_14) rfl z) ?_
  refine os (fun _ z => XS.iloadN X4.here hx rfl (hb hby d4_16) rfl z) ?_
  show OG p e below Φ T4 m 17 #[rv a, iv 0, iv 3, rv b1, iv 2, .unset] [(.int 3), (.int 2)]
  refine os (fun _ z => XS.icmpNo X4.here hx rfl (hb hby d4_17) rfl (XT.ii_eq_f (by decide)) z) ?_
  show OG p e below Φ T4 m 20 #[rv a, iv 0, iv 3, rv b1, iv 2, .unset] []
  refine os (fun _ z => XS.aloadN X4.here hx rfl (hb hby d4_20) rfl rfl z) ?_
  refine os (fun _ z => XS.iloadN X4.here hx rfl (hb hby d4_21) rfl z) ?_
  show OG p e below Φ T4 m 22 #[rv a, iv 0, iv 3, rv b1, iv 2, .unset] [(.int 0), (.ref a)]
  refine os (fun _ z => XS.iloadN X4.here hx rfl (hb hby d4_22) rfl z) ?_
  obtain ⟨_, T7, L7, X7, hQ7, st7⟩ := own_callSt X4 hx hZ hown (ow52 hw) (ow53 hw) (ow20 hw) (ow54 hw) (by decide) (rsb3_0tb l Z a0 hw [] a ca c0_ c1_ c2_ T4.heap n0 Zs4 F5 F6 S_ad S_hb S_lb) rfl (W := 0) (by decide) (by decide) (by decide) (by decide) (pc := 23) (ls := #[rv a, iv 0, iv 3, rv b1, iv 2, .unset]) (stk := [(.int 3), (.int 0), (.ref a)]) (by rw [hml]; rfl) (argsL := [(.ref a), (.int 0), (.int 3)]) (rest := []) (lenOf pd2 rfl) rfl rfl (Nat.le_of_eq rfl) (hb hby d4_23)
  obtain ⟨b7, cb7, rfl, Nq7, Kq7, Vq7, hz7⟩ := hQ7
  have nq7_a : a ≠ b7 := Nat.ne_of_lt (Nat.lt_of_lt_of_le F5.lt hz7)
  have gq7 : n0 ≤ b7 := Nat.le_trans Zs4 hz7
  have sq7 : h0.size ≤ b7 := Nat.le_trans K4.1 hz7
  have N7 := Fr.app N4 Nq7
  have Zs7 : n0 ≤ T7.heap.size := Nat.le_trans Zs4 Kq7.1
  have F8 := F5.keep Kq7 nin0
  have F9 := F6.keep Kq7 all0
  have K7 := K4.trans Kq7 all0
  refine os st7 ?_
  show OG p e below Φ T7 m 26 #[rv a, iv 0, iv 3, rv b1, iv 2, .unset] [(.ref b7)]
  refine os (fun _ z => XS.astore X7.here hx rfl (hb hby d4_26) rfl rfl (l' := #[rv a, iv 0, iv 3, rv b1, iv 2, rv b7]) rfl z) ?_
  show OG p e below Φ T7 m 28 #[rv a, iv 0, iv 3, rv b1, iv 2, rv b7] []
  refine os (fun _ z => XS.aload X7.here hx rfl (hb hby d4_28) rfl rfl z) ?_
  refine os (fun _ z => XS.iload X7.here hx rfl (hb hby d4_30) rfl z) ?_
  show OG p e below Φ T7 m 32 #[rv a, iv 0, iv 3, rv b1, iv 2, rv b7] [(.int 2), (.ref b7)]
  obtain ⟨_, T10, L10, X10, hQ10, st10⟩ := own_callSt X7 hx hZ hown (ow68 hw) (ow69 hw) (ow20 hw) (ow70 hw) (by decide) (rsb3_2gc l Z a0 hw [] b7 cb7 c0_ c1_ c2_ T7.heap n0 Zs7 Vq7 (S_ad.ext F9.2) (S_hb.ext F9.2) (S_lb.ext F9.2) hr2) rfl (W := 0) (by decide) (by decide) (by decide) (by decide) (pc := 32) (ls := #[rv a, iv 0, iv 3, rv b1, iv 2, rv b7]) (stk := [(.int 2), (.ref b7)]) (by rw [hml]; rfl) (argsL := [(.ref b7), (.int 2)]) (rest := []) (lenOf pd7 rfl) rfl rfl (Nat.le_of_eq rfl) (hb hby d4_32)
  obtain ⟨rfl, Nq10, e10⟩ := hQ10
  have N10 := Fr.app N7 Nq10
  refine os st10 ?_
  show OG p e below Φ T10 m 35 #[rv a, iv 0, iv 3, rv b1, iv 2, rv b7] [(.int c2_)]
  refine os (fun _ z => XS.sipush X10.here hx rfl (hb hby d4_35) z) ?_
  refine os (fun _ z => XS.icmpYes X10.here hx rfl (pc0 := 38) (pc' := 54) rfl (hb hby d4_38) rfl (XT.ii_gt_t hb2) (by decide) (by decide) z) ?_
  show OG p e below Φ T10 m 54 #[rv a, iv 0, iv 3, rv b1, iv 2, rv b7] []
  refine os (fun _ z => XS.aload X10.here hx rfl (hb hby d4_54) rfl rfl z) ?_
  refine OGo.fin X10 hlk (v := (some (.ref b7))) (fun h => by rw [hret] at h; cases h) (by decide) (by decide) (fun fs hr => X10.areturnOut hx rfl hret rfl (hb hby d4_56) hr) fun U eU hF => hΦ _ _ _ ?_ hF
  rw [eU, e10]
  show Q_rsb3_2c3 Z a ca c0_ c1_ c2_ h0 n0 _ _ _
  exact ⟨_, _, rfl, N10, K7, Vq7, sq7⟩

theorem ef_rsb3_2i4 (m : MethodId) (x0 : Addr) (x1 : Addr) (x2 : Int32) (x3 : Int32) : entryFrame m #[(.ref x0), (.ref x1), (.int x2), (.int x3), .null] 6 = mkF m 0 #[.val (.ref x0), .val (.ref x1), .val (.int x2), .val (.int x3), .val .null, .unset] [] := by first | (simp [entryFrame, mkF, argsToLocals, Value.category]; done) | rfl
def Q_rsb3_2i4 (Z : State) (s_ : Addr) (a : Addr) (ca : ClassId) (qc : Int32) (c0_ : Int32) (c1_ : Int32) (c2_ : Int32) (h0 : Heap) (n0 : Nat) (v : Option Value) (h : Heap) (L : List Loc) : Prop := v = none ∧ Fr n0 L ∧ Keep h0 h [s_] ∧ Exa Z h s_ "java/lang/String" ∧ ∃ b cb, Fld Z h s_ "java/lang/String" "value" "[B" (.ref b) ∧ Fld Z h s_ "java/lang/String" "coder" "B" (.int (1 : Int32)) ∧ Arv Z h b cb .byte (6 : Int32) [(.int (ohb c0_)), (.int (olb c0_)), (.int (ohb c1_)), (.int (olb c1_)), (.int (ohb c2_)), (.int (olb c2_))] (.int (0 : Int32)) ∧ h0.size ≤ b
set_option maxRecDepth 65536 in
set_option maxHeartbeats 40000000 in
theorem rsb3_2i4 (l : Launch) (Z : State) (a0 : Array Value) (hw : ∀ d ∈ tables_1, d.before a0 Z = true) (ws : List Jvm.Cond) (s_ : Addr) (a : Addr) (ca : ClassId) (qc : Int32) (c0_ : Int32) (c1_ : Int32) (c2_ : Int32) (h0 : Heap) (n0 : Nat) (Z0 : n0 ≤ h0.size) (E_s : Exa Z h0 s_ "java/lang/String") (g_s : n0 ≤ s_) (F_v : Fld Z h0 s_ "java/lang/String" "value" "[B" .null) (F_c : Fld Z h0 s_ "java/lang/String" "coder" "B" (.int (0 : Int32))) (V_a : Arv Z h0 a ca .char (3 : Int32) [(.int c0_), (.int c1_), (.int c2_)] (.int (0 : Int32))) (nsa : s_ ≠ a) (S_cs : Sta Z Z.heap "java/lang/String" "COMPACT_STRINGS" "Z" (.int qc)) (hq : ¬ qc = 0) (O_0 : Old Z n0 h0) (S_ad : Sta Z Z.heap "java/lang/StringUTF16" "$assertionsDisabled" "Z" (.int (1 : Int32))) (S_hb : Sta Z Z.heap "java/lang/StringUTF16" "HI_BYTE_SHIFT" "I" (.int (0 : Int32))) (S_lb : Sta Z Z.heap "java/lang/StringUTF16" "LO_BYTE_SHIFT" "I" (.int (8 : Int32))) (hl0 : ¬ (255 : Int32) < c0_) (hl1 : ¬ (255 : Int32) < c1_) (hb2 : (255 : Int32) < c2_) (hr2 : nar .char c2_ = c2_) :
    OCon l Z (⟨"java/lang/String", "<init>", "([CIILjava/lang/Void;)V"⟩ : MethodName) jdk_42_method_149_code 6 none ws ({ frames := 4, cells := 2, slots := 9, locals := 57 } : Room) #[(.ref s_), (.ref a), (.int (0 : Int32)), (.int (3 : Int32)), .null] h0 (Q_rsb3_2i4 Z s_ a ca qc c0_ c1_ c2_ h0 n0) := by
  refine OCon.of (plainFor_of_name pn0) ?_
  intro p e s m below meth c s₁ Φ X0 hx hby hml hown hnm hret hlk hZ e0 hΦ
  have N0 := Fr.nil n0
  refine os (fun _ z => castTop (ef_rsb3_2i4 m s_ a (0 : Int32) (3 : Int32)) z) ?_
  have K0 := Keep.refl h0 [s_]
  show OG p e below Φ s₁ m 0 #[rv s_, rv a, iv 0, iv 3, .val .null, .unset] []
  refine os (fun _ z => XS.aloadN X0.here hx rfl (hb hby d2_0) rfl rfl z) ?_
  obtain ⟨T1, X1, e1, st1⟩ := initO X0 hx hZ hown (ow14 hw) (ow15 hw) (ow16 hw) e0 (g := (mkF m 1 #[rv s_, rv a, iv 0, iv 3, .val .null, .unset] [(.ref s_)])) rfl (by rw [hml]; rfl) rfl (hb hby d2_1) (by decide) (W := 0) (Nat.le_of_eq rfl) (by decide)
  refine os st1 ?_
  show OG p e below Φ T1 m 4 #[rv s_, rv a, iv 0, iv 3, .val .null, .unset] []
  refine os (fun _ z => XS.iloadN X1.here hx rfl (hb hby d2_4) rfl z) ?_
  refine os (fun _ z => XS.ifYes X1.here hx rfl (pc0 := 5) (pc' := 27) rfl (hb hby d2_5) rfl (XT.i0_ne_t (by decide)) (by decide) (by decide) z) ?_
  show OG p e below Φ T1 m 27 #[rv s_, rv a, iv 0, iv 3, .val .null, .unset] []
  have Sq := S_cs.ext O_0.2
  obtain ⟨T2, X2, e2, st2⟩ := getS2 X1 hx hZ hown (host := "") (Or.inl (ow17 hw)) Via.refl e1 Sq (g := (mkF m 27 #[rv s_, rv a, iv 0, iv 3, .val .null, .unset] [])) rfl (hb hby d2_27)
  refine os st2 ?_
  show OG p e below Φ T2 m 30 #[rv s_, rv a, iv 0, iv 3, .val .null, .unset] [(.int qc)]
  refine os (fun _ z => XS.ifNo X2.here hx rfl (hb hby d2_30) rfl (XT.i0_eq_f hq) z) ?_
  show OG p e below Φ T2 m 33 #[rv s_, rv a, iv 0, iv 3, .val .null, .unset] []
  refine os (fun _ z => XS.aloadN X2.here hx rfl (hb hby d2_33) rfl rfl z) ?_
  refine os (fun _ z => XS.iloadN X2.here hx rfl (hb hby d2_34) rfl z) ?_
  show OG p e below Φ T2 m 35 #[rv s_, rv a, iv 0, iv 3, .val .null, .unset] [(.int 0), (.ref a)]
  refine os (fun _ z => XS.iloadN X2.here hx rfl (hb hby d2_35) rfl z) ?_
  obtain ⟨_, T3, L3, X3, hQ3, st3⟩ := own_callSt X2 hx hZ hown (ow18 hw) (ow19 hw) (ow20 hw) (ow21 hw) (by decide) (rsb3_2c3 l Z a0 hw [] a ca c0_ c1_ c2_ h0 n0 Z0 V_a O_0 S_ad S_hb S_lb hl0 hl1 hb2 hr2) e2 (W := 0) (by decide) (by decide) (by decide) (by decide) (pc := 36) (ls := #[rv s_, rv a, iv 0, iv 3, .val .null, .unset]) (stk := [(.int 3), (.int 0), (.ref a)]) (by rw [hml]; rfl) (argsL := [(.ref a), (.int 0), (.int 3)]) (rest := []) (lenOf pd2 rfl) rfl rfl (Nat.le_of_eq rfl) (hb hby d2_36)
  obtain ⟨b3, cb3, rfl, Nq3, Kq3, Vq3, hz3⟩ := hQ3
  have nq3_a : a ≠ b3 := Nat.ne_of_lt (Nat.lt_of_lt_of_le V_a.lt hz3)
  have nq3_s_ : s_ ≠ b3 := Nat.ne_of_lt (Nat.lt_of_lt_of_le E_s.lt hz3)
  have gq3 : n0 ≤ b3 := Nat.le_trans Z0 hz3
  have sq3 : h0.size ≤ b3 := Nat.le_trans K0.1 hz3
  have N3 := Fr.app N0 Nq3
  have Zs3 : n0 ≤ T3.heap.size := Nat.le_trans Z0 Kq3.1
  have F4 := E_s.keep Kq3
  have F5 := F_v.keep Kq3 nin0
  have F6 := F_c.keep Kq3 nin0
  have F7 := V_a.keep Kq3 nin0
  have F8 := O_0.keep Kq3 all0
  have K3 := K0.trans Kq3 all0
  refine os st3 ?_
  show OG p e below Φ T3 m 39 #[rv s_, rv a, iv 0, iv 3, .val .null, .unset] [(.ref b3)]
  refine os (fun _ z => XS.astore X3.here hx rfl (hb hby d2_39) rfl rfl (l' := #[rv s_, rv a, iv 0, iv 3, .val .null, rv b3]) rfl z) ?_
  show OG p e below Φ T3 m 41 #[rv s_, rv a, iv 0, iv 3, .val .null, rv b3] []
  refine os (fun _ z => XS.aloadN X3.here hx rfl (hb hby d2_41) rfl rfl z) ?_
  refine os (fun _ z => XS.aload X3.here hx rfl (hb hby d2_42) rfl rfl z) ?_
  show OG p e below Φ T3 m 44 #[rv s_, rv a, iv 0, iv 3, .val .null, rv b3] [(.ref b3), (.ref s_)]
  refine os (fun _ z => XS.iloadN X3.here hx rfl (hb hby d2_44) rfl z) ?_
  obtain ⟨_, T9, L9, X9, hQ9, st9⟩ := own_callSt X3 hx hZ hown (ow25 hw) (ow26 hw) (ow20 hw) (ow27 hw) (by decide) (rsb3_0cf l Z a0 hw [] b3 cb3 c0_ c1_ c2_ T3.heap n0 Zs3 Vq3) rfl (W := 1) (by decide) (by decide) (by decide) (by decide) (pc := 45) (ls := #[rv s_, rv a, iv 0, iv 3, .val .null, rv b3]) (stk := [(.int 3), (.ref b3), (.ref s_)]) (by rw [hml]; rfl) (argsL := [(.ref b3), (.int 3)]) (rest := [(.ref s_)]) (lenOf pd3 rfl) rfl rfl (Nat.le_of_eq rfl) (hb hby d2_45)
  obtain ⟨rfl, Nq9, e9⟩ := hQ9
  have N9 := Fr.app N3 Nq9
  refine os st9 ?_
  show OG p e below Φ T9 m 48 #[rv s_, rv a, iv 0, iv 3, .val .null, rv b3] [(.int 1), (.ref s_)]
  obtain ⟨T10, h10, X10, e10, W10, st10⟩ := putF X9 hx hZ hown (host := "") (Or.inl (ow28 hw)) Via.refl e9 F6 F4 (Or.inr ⟨(ow29 hw), rfl, hnm⟩) (ow5 hw) (ty := .byte) (by decide) (by decide) (by decide) (g := (mkF m 48 #[rv s_, rv a, iv 0, iv 3, .val .null, rv b3] [(.int 1), (.ref s_)])) rfl rfl (hb hby d2_48)
  have F11 := F4.wr W10
  have F12 := F5.other W10 (Or.inr (slot_ne (Or.inr (ow31 hw)) (Or.inr (ow29 hw)) (by decide) (t := (.array .byte)) (t' := .byte) (by decide) (by decide)))
  have F13 := F6.same W10
  have F14 := F7.other W10 (Ne.symm nsa)
  have F15 := F8.wr W10 g_s
  have F16 := Vq3.other W10 (Ne.symm nq3_s_)
  have K10 := K3.wr W10 (Or.inl (List.mem_of_getElem? (i := 0) rfl))
  have N10 := Fr.snoc X10 N9 g_s
  have Zs10 : n0 ≤ h10.size := by rw [W10.size]; exact Zs3
  refine os st10 ?_
  show OG p e below Φ T10 m 51 #[rv s_, rv a, iv 0, iv 3, .val .null, rv b3] []
  refine os (fun _ z => XS.aloadN X10.here hx rfl (hb hby d2_51) rfl rfl z) ?_
  refine os (fun _ z => XS.aload X10.here hx rfl (hb hby d2_52) rfl rfl z) ?_
  show OG p e below Φ T10 m 54 #[rv s_, rv a, iv 0, iv 3, .val .null, rv b3] [(.ref b3), (.ref s_)]
  obtain ⟨T17, h17, X17, e17, W17, st17⟩ := putF X10 hx hZ hown (host := "") (Or.inl (ow30 hw)) Via.refl e10 F12 F11 (Or.inr ⟨(ow31 hw), rfl, hnm⟩) (ow5 hw) (ty := (.array .byte)) (by decide) rfl rfl (g := (mkF m 54 #[rv s_, rv a, iv 0, iv 3, .val .null, rv b3] [(.ref b3), (.ref s_)])) rfl rfl (hb hby d2_54)
  have F18 := F11.wr W17
  have F19 := F12.same W17
  have F20 := F13.other W17 (Or.inr (slot_ne (Or.inr (ow29 hw)) (Or.inr (ow31 hw)) (by decide) (t := .byte) (t' := (.array .byte)) (by decide) (by decide)))
  have F21 := F14.other W17 (Ne.symm nsa)
  have F22 := F15.wr W17 g_s
  have F23 := F16.other W17 (Ne.symm nq3_s_)
  have K17 := K10.wr W17 (Or.inl (List.mem_of_getElem? (i := 0) rfl))
  have N17 := Fr.snoc X17 N10 g_s
  have Zs17 : n0 ≤ h17.size := by rw [W17.size]; exact Zs10
  refine os st17 ?_
  show OG p e below Φ T17 m 57 #[rv s_, rv a, iv 0, iv 3, .val .null, rv b3] []
  refine OGo.fin X17 hlk (v := none) (fun _ => rfl) (by decide) (by decide) (fun fs hr => X17.returnOut hx hret (hb hby d2_57) hr) fun U eU hF => hΦ _ _ _ ?_ hF
  rw [eU, e17]
  show Q_rsb3_2i4 Z s_ a ca qc c0_ c1_ c2_ h0 n0 _ _ _
  exact ⟨rfl, N17, K17, F18, _, _, F19, F20, F23, sq3⟩

theorem ef_rsb3_2i1 (m : MethodId) (x0 : Addr) (x1 : Addr) : entryFrame m #[(.ref x0), (.ref x1)] 2 = mkF m 0 #[.val (.ref x0), .val (.ref x1)] [] := by first | (simp [entryFrame, mkF, argsToLocals, Value.category]; done) | rfl
def Q_rsb3_2i1 (Z : State) (s_ : Addr) (a : Addr) (ca : ClassId) (qc : Int32) (c0_ : Int32) (c1_ : Int32) (c2_ : Int32) (h0 : Heap) (n0 : Nat) (v : Option Value) (h : Heap) (L : List Loc) : Prop := v = none ∧ Fr n0 L ∧ Keep h0 h [s_] ∧ Exa Z h s_ "java/lang/String" ∧ ∃ b cb, Fld Z h s_ "java/lang/String" "value" "[B" (.ref b) ∧ Fld Z h s_ "java/lang/String" "coder" "B" (.int (1 : Int32)) ∧ Arv Z h b cb .byte (6 : Int32) [(.int (ohb c0_)), (.int (olb c0_)), (.int (ohb c1_)), (.int (olb c1_)), (.int (ohb c2_)), (.int (olb c2_))] (.int (0 : Int32)) ∧ h0.size ≤ b
set_option maxRecDepth 65536 in
set_option maxHeartbeats 40000000 in
theorem rsb3_2i1 (l : Launch) (Z : State) (a0 : Array Value) (hw : ∀ d ∈ tables_1, d.before a0 Z = true) (ws : List Jvm.Cond) (s_ : Addr) (a : Addr) (ca : ClassId) (qc : Int32) (c0_ : Int32) (c1_ : Int32) (c2_ : Int32) (h0 : Heap) (n0 : Nat) (Z0 : n0 ≤ h0.size) (E_s : Exa Z h0 s_ "java/lang/String") (g_s : n0 ≤ s_) (F_v : Fld Z h0 s_ "java/lang/String" "value" "[B" .null) (F_c : Fld Z h0 s_ "java/lang/String" "coder" "B" (.int (0 : Int32))) (V_a : Arv Z h0 a ca .char (3 : Int32) [(.int c0_), (.int c1_), (.int c2_)] (.int (0 : Int32))) (nsa : s_ ≠ a) (S_cs : Sta Z Z.heap "java/lang/String" "COMPACT_STRINGS" "Z" (.int qc)) (hq : ¬ qc = 0) (O_0 : Old Z n0 h0) (S_ad : Sta Z Z.heap "java/lang/StringUTF16" "$assertionsDisabled" "Z" (.int (1 : Int32))) (S_hb : Sta Z Z.heap "java/lang/StringUTF16" "HI_BYTE_SHIFT" "I" (.int (0 : Int32))) (S_lb : Sta Z Z.heap "java/lang/StringUTF16" "LO_BYTE_SHIFT" "I" (.int (8 : Int32))) (hl0 : ¬ (255 : Int32) < c0_) (hl1 : ¬ (255 : Int32) < c1_) (hb2 : (255 : Int32) < c2_) (hr2 : nar .char c2_ = c2_) :
    OCon l Z (⟨"java/lang/String", "<init>", "([C)V"⟩ : MethodName) jdk_42_method_3_code 2 none ws ({ frames := 5, cells := 2, slots := 9, locals := 74 } : Room) #[(.ref s_), (.ref a)] h0 (Q_rsb3_2i1 Z s_ a ca qc c0_ c1_ c2_ h0 n0) := by
  refine OCon.of (plainFor_of_name pn0) ?_
  intro p e s m below meth c s₁ Φ X0 hx hby hml hown hnm hret hlk hZ e0 hΦ
  have N0 := Fr.nil n0
  refine os (fun _ z => castTop (ef_rsb3_2i1 m s_ a) z) ?_
  have K0 := Keep.refl h0 [s_]
  show OG p e below Φ s₁ m 0 #[rv s_, rv a] []
  refine os (fun _ z => XS.aloadN X0.here hx rfl (hb hby d1_0) rfl rfl z) ?_
  refine os (fun _ z => XS.aloadN X0.here hx rfl (hb hby d1_1) rfl rfl z) ?_
  show OG p e below Φ s₁ m 2 #[rv s_, rv a] [(.ref a), (.ref s_)]
  refine os (fun _ z => XS.iconst X0.here hx rfl (hb hby d1_2) z) ?_
  refine os (fun _ z => XS.aloadN X0.here hx rfl (hb hby d1_3) rfl rfl z) ?_
  show OG p e below Φ s₁ m 4 #[rv s_, rv a] [(.ref a), (.int 0), (.ref a), (.ref s_)]
  obtain ⟨cl1, Aq1, -, S1, M1, -, -⟩ := id V_a
  refine os (fun _ z => X0.arraylength hx (by rw [e0]; exact Aq1.1) (oia hZ Aq1.2.1) (g := (mkF m 4 #[rv s_, rv a] [(.ref a), (.int 0), (.ref a), (.ref s_)])) rfl rfl (hb hby d1_4) _ z) ?_
  rw [len_of S1 M1]
  show OG p e below Φ s₁ m 5 #[rv s_, rv a] [(.int 3), (.int 0), (.ref a), (.ref s_)]
  refine os (fun _ z => XS.aconstNull X0.here hx rfl (hb hby d1_5) z) ?_
  obtain ⟨_, T2, L2, X2, hQ2, st2⟩ := own_callSp X0 hx hZ rfl hown (ow10 hw) (ow11 hw) (ow6 hw) (ow13 hw) (by decide) (rsb3_2i4 l Z a0 hw [] s_ a ca qc c0_ c1_ c2_ h0 n0 Z0 E_s g_s F_v F_c V_a nsa S_cs hq O_0 S_ad S_hb S_lb hl0 hl1 hb2 hr2) e0 (W := 0) (by decide) (by decide) (by decide) (by decide) (pc := 6) (ls := #[rv s_, rv a]) (stk := [.null, (.int 3), (.int 0), (.ref a), (.ref s_)]) (by rw [hml]; rfl) (a := s_) (argsL := [(.ref a), (.int 0), (.int 3), .null]) (rest := []) (lenOf pd0 rfl) rfl rfl (Nat.le_of_eq rfl) (hb hby d1_6)
  obtain ⟨rfl, Nq2, Kq2, Eq2, b2, cb2, Fv2, Fc2, Vq2, hz2⟩ := hQ2
  have nq2_a : a ≠ b2 := Nat.ne_of_lt (Nat.lt_of_lt_of_le V_a.lt hz2)
  have nq2_s_ : s_ ≠ b2 := Nat.ne_of_lt (Nat.lt_of_lt_of_le E_s.lt hz2)
  have gq2 : n0 ≤ b2 := Nat.le_trans Z0 hz2
  have sq2 : h0.size ≤ b2 := Nat.le_trans K0.1 hz2
  have N2 := Fr.app N0 Nq2
  have Zs2 : n0 ≤ T2.heap.size := Nat.le_trans Z0 Kq2.1
  have F3 := V_a.keep Kq2 (ninS (Ne.symm nsa) nin0)
  have F4 := O_0.keep Kq2 (allS g_s all0)
  have K2 := K0.trans Kq2 (allS (Or.inl (List.mem_of_getElem? (i := 0) rfl)) all0)
  refine os st2 ?_
  show OG p e below Φ T2 m 9 #[rv s_, rv a] []
  refine OGo.fin X2 hlk (v := none) (fun _ => rfl) (by decide) (by decide) (fun fs hr => X2.returnOut hx hret (hb hby d1_9) hr) fun U eU hF => hΦ _ _ _ ?_ hF
  rw [eU]
  show Q_rsb3_2i1 Z s_ a ca qc c0_ c1_ c2_ h0 n0 _ _ _
  exact ⟨rfl, N2, K2, Eq2, _, _, Fv2, Fc2, Vq2, sq2⟩

theorem ef_rsl4c2 (m : MethodId) (x0 : Addr) (x1 : Int32) (x2 : Addr) (x3 : Int32) (x4 : Int32) : entryFrame m #[(.ref x0), (.int x1), (.ref x2), (.int x3), (.int x4)] 7 = mkF m 0 #[.val (.ref x0), .val (.int x1), .val (.ref x2), .val (.int x3), .val (.int x4), .unset, .unset] [] := by first | (simp [entryFrame, mkF, argsToLocals, Value.category]; done) | rfl
def Q_rsl4c2 (Z : State) (a : Addr) (ca : ClassId) (b : Addr) (cb : ClassId) (c0_ : Int32) (c1_ : Int32) (c2_ : Int32) (c3_ : Int32) (h0 : Heap) (n0 : Nat) (v : Option Value) (h : Heap) (L : List Loc) : Prop := v = some (.int (4 : Int32)) ∧ Fr n0 L ∧ Keep h0 h [b] ∧ Arv Z h b cb .byte (4 : Int32) [(.int (nar .byte (c0_.toInt8.toInt32))), (.int (nar .byte (c1_.toInt8.toInt32))), (.int (nar .byte (c2_.toInt8.toInt32))), (.int (nar .byte (c3_.toInt8.toInt32)))] (.int (0 : Int32))
set_option maxRecDepth 65536 in
set_option maxHeartbeats 40000000 in
theorem rsl4c2 (l : Launch) (Z : State) (a0 : Array Value) (hw : ∀ d ∈ tables_1, d.before a0 Z = true) (ws : List Jvm.Cond) (a : Addr) (ca : ClassId) (b : Addr) (cb : ClassId) (c0_ : Int32) (c1_ : Int32) (c2_ : Int32) (c3_ : Int32) (h0 : Heap) (n0 : Nat) (Z0 : n0 ≤ h0.size) (V_a : Arv Z h0 a ca .char (4 : Int32) [(.int c0_), (.int c1_), (.int c2_), (.int c3_)] (.int (0 : Int32))) (V_b : Arv Z h0 b cb .byte (4 : Int32) [(.int (0 : Int32)), (.int (0 : Int32)), (.int (0 : Int32)), (.int (0 : Int32))] (.int (0 : Int32))) (nab : a ≠ b) (g_b : n0 ≤ b) (hl0 : ¬ (255 : Int32) < c0_) (hl1 : ¬ (255 : Int32) < c1_) (hl2 : ¬ (255 : Int32) < c2_) (hl3 : ¬ (255 : Int32) < c3_) :
    OCon l Z (⟨"java/lang/StringUTF16", "compress", "([CI[BII)I"⟩ : MethodName) jdk_52_method_21_code 7 (some .int) ws ({ frames := 0, cells := 0, slots := 0, locals := 0 } : Room) #[(.ref a), (.int (0 : Int32)), (.ref b), (.int (0 : Int32)), (.int (4 : Int32))] h0 (Q_rsl4c2 Z a ca b cb c0_ c1_ c2_ c3_ h0 n0) := by
  refine OCon.of (plainFor_of_name pn1) ?_
  intro p e s m below meth c s₁ Φ X0 hx hby hml hown hnm hret hlk hZ e0 hΦ
  have N0 := Fr.nil n0
  refine os (fun _ z => castTop (ef_rsl4c2 m a (0 : Int32) b (0 : Int32) (4 : Int32)) z) ?_
  have K0 := Keep.refl h0 [b]
  show OG p e below Φ s₁ m 0 #[rv a, iv 0, rv b, iv 0, iv 4, .unset, .unset] []
  refine os (fun _ z => XS.iconst X0.here hx rfl (hb hby d5_0) z) ?_
  refine os (fun _ z => XS.istore X0.here hx rfl (hb hby d5_1) rfl (l' := #[rv a, iv 0, rv b, iv 0, iv 4, iv 0, .unset]) rfl z) ?_
  show OG p e below Φ s₁ m 3 #[rv a, iv 0, rv b, iv 0, iv 4, iv 0, .unset] []
  refine os (fun _ z => XS.iload X0.here hx rfl (hb hby d5_3) rfl z) ?_
  refine os (fun _ z => XS.iload X0.here hx rfl (hb hby d5_5) rfl z) ?_
  show OG p e below Φ s₁ m 7 #[rv a, iv 0, rv b, iv 0, iv 4, iv 0, .unset] [(.int 4), (.int 0)]
  refine os (fun _ z => XS.icmpNo X0.here hx rfl (hb hby d5_7) rfl (XT.ii_ge_f (by decide)) z) ?_
  show OG p e below Φ s₁ m 10 #[rv a, iv 0, rv b, iv 0, iv 4, iv 0, .unset] []
  refine os (fun _ z => XS.aloadN X0.here hx rfl (hb hby d5_10) rfl rfl z) ?_
  refine os (fun _ z => XS.iloadN X0.here hx rfl (hb hby d5_11) rfl z) ?_
  show OG p e below Φ s₁ m 12 #[rv a, iv 0, rv b, iv 0, iv 4, iv 0, .unset] [(.int 0), (.ref a)]
  obtain ⟨cl1, Aq1, -, S1, M1, H1, -⟩ := id V_a
  have in1 : ¬ ((0 : Int32) < 0 ∨ cl1.slots.size ≤ (0 : Int32).toNatClampNeg) := inb_of S1 ⟨by decide, by decide⟩
  have at1 : cl1.slots[(0 : Int32).toNatClampNeg]? = some (.int c0_) := H1.at in1 rfl
  refine os (fun _ z => X0.caload hx (by rw [e0]; exact Aq1.1) (oia hZ Aq1.2.1) Aq1.2.2 in1 at1 (g := (mkF m 12 #[rv a, iv 0, rv b, iv 0, iv 4, iv 0, .unset] [(.int 0), (.ref a)])) rfl rfl (hb hby d5_12) _ z) ?_
  show OG p e below Φ s₁ m 13 #[rv a, iv 0, rv b, iv 0, iv 4, iv 0, .unset] [(.int c0_)]
  refine os (fun _ z => XS.istore X0.here hx rfl (hb hby d5_13) rfl (l' := #[rv a, iv 0, rv b, iv 0, iv 4, iv 0, iv c0_]) rfl z) ?_
  show OG p e below Φ s₁ m 15 #[rv a, iv 0, rv b, iv 0, iv 4, iv 0, iv c0_] []
  refine os (fun _ z => XS.iload X0.here hx rfl (hb hby d5_15) rfl z) ?_
  refine os (fun _ z => XS.sipush X0.here hx rfl (hb hby d5_17) z) ?_
  show OG p e below Φ s₁ m 20 #[rv a, iv 0, rv b, iv 0, iv 4, iv 0, iv c0_] [(.int 255), (.int c0_)]
  refine os (fun _ z => XS.icmpYes X0.here hx rfl (pc0 := 20) (pc' := 26) rfl (hb hby d5_20) rfl (XT.ii_le_t hl0) (by decide) (by decide) z) ?_
  show OG p e below Φ s₁ m 26 #[rv a, iv 0, rv b, iv 0, iv 4, iv 0, iv c0_] []
  refine os (fun _ z => XS.aloadN X0.here hx rfl (hb hby d5_26) rfl rfl z) ?_
  refine os (fun _ z => XS.iloadN X0.here hx rfl (hb hby d5_27) rfl z) ?_
  show OG p e below Φ s₁ m 28 #[rv a, iv 0, rv b, iv 0, iv 4, iv 0, iv c0_] [(.int 0), (.ref b)]
  refine os (fun _ z => XS.iload X0.here hx rfl (hb hby d5_28) rfl z) ?_
  refine os (fun _ z => XT.i2b X0.here hx rfl (hb hby d5_30) rfl z) ?_
  show OG p e below Φ s₁ m 31 #[rv a, iv 0, rv b, iv 0, iv 4, iv 0, iv c0_] [(.int (c0_.toInt8.toInt32)), (.int 0), (.ref b)]
  obtain ⟨cl2, Aq2, Cq2, S2, M2, H2, G2⟩ := id V_b
  have in2 : ¬ ((0 : Int32) < 0 ∨ cl2.slots.size ≤ (0 : Int32).toNatClampNeg) := inb_of S2 ⟨by decide, by decide⟩
  obtain ⟨T2, h2, X2, e2, W2, st2⟩ := stB X0 hx hZ e0 Aq2 in2 (g := (mkF m 31 #[rv a, iv 0, rv b, iv 0, iv 4, iv 0, iv c0_] [(.int (c0_.toInt8.toInt32)), (.int 0), (.ref b)])) rfl rfl (hb hby d5_31)
  have W2 : Wr h0 h2 b (0 : Int32).toNatClampNeg (.int (nar .byte (c0_.toInt8.toInt32))) := W2
  have F3 := V_a.other W2 nab
  have V2 : Arv Z h2 b cb .byte (4 : Int32) [(.int (nar .byte (c0_.toInt8.toInt32))), (.int (0 : Int32)), (.int (0 : Int32)), (.int (0 : Int32))] (.int (0 : Int32)) := Arv.set Aq2 Cq2 S2 M2 H2 G2 (fits_nar_byte _) W2 0 (by decide) (by show 0 < 4; decide)
  have K2 := K0.wr W2 (Or.inl (List.mem_of_getElem? (i := 0) rfl))
  have N2 := Fr.snoc X2 N0 g_b
  have Zs2 : n0 ≤ h2.size := by rw [W2.size]; exact Z0
  refine os st2 ?_
  show OG p e below Φ T2 m 32 #[rv a, iv 0, rv b, iv 0, iv 4, iv 0, iv c0_] []
  refine os (fun _ z => XS.iinc X2.here hx rfl (hb hby d5_32) rfl (l' := #[rv a, iv ((0 : Int32) + (1 : Int32)), rv b, iv 0, iv 4, iv 0, iv c0_]) rfl z) ?_
  show OG p e below Φ T2 m 35 #[rv a, iv 1, rv b, iv 0, iv 4, iv 0, iv c0_] []
  refine os (fun _ z => XS.iinc X2.here hx rfl (hb hby d5_35) rfl (l' := #[rv a, iv 1, rv b, iv ((0 : Int32) + (1 : Int32)), iv 4, iv 0, iv c0_]) rfl z) ?_
  show OG p e below Φ T2 m 38 #[rv a, iv 1, rv b, iv 1, iv 4, iv 0, iv c0_] []
  refine os (fun _ z => XS.iinc X2.here hx rfl (hb hby d5_38) rfl (l' := #[rv a, iv 1, rv b, iv 1, iv 4, iv ((0 : Int32) + (1 : Int32)), iv c0_]) rfl z) ?_
  show OG p e below Φ T2 m 41 #[rv a, iv 1, rv b, iv 1, iv 4, iv 1, iv c0_] []
  refine os (fun _ z => XS.goto X2.here hx rfl (pc0 := 41) (pc' := 3) rfl (hb hby d5_41) (by decide) (by decide) z) ?_
  show OG p e below Φ T2 m 3 #[rv a, iv 1, rv b, iv 1, iv 4, iv 1, iv c0_] []
  refine os (fun _ z => XS.iload X2.here hx rfl (hb hby d5_3) rfl z) ?_
  refine os (fun _ z => XS.iload X2.here hx rfl (hb hby d5_5) rfl z) ?_
  show OG p e below Φ T2 m 7 #[rv a, iv 1, rv b, iv 1, iv 4, iv 1, iv c0_] [(.int 4), (.int 1)]
  refine os (fun _ z => XS.icmpNo X2.here hx rfl (hb hby d5_7) rfl (XT.ii_ge_f (by decide)) z) ?_
  show OG p e below Φ T2 m 10 #[rv a, iv 1, rv b, iv 1, iv 4, iv 1, iv c0_] []
  refine os (fun _ z => XS.aloadN X2.here hx rfl (hb hby d5_10) rfl rfl z) ?_
  refine os (fun _ z => XS.iloadN X2.here hx rfl (hb hby d5_11) rfl z) ?_
  show OG p e below Φ T2 m 12 #[rv a, iv 1, rv b, iv 1, iv 4, iv 1, iv c0_] [(.int 1), (.ref a)]
  obtain ⟨cl4, Aq4, -, S4, M4, H4, -⟩ := id F3
  have in4 : ¬ ((1 : Int32) < 0 ∨ cl4.slots.size ≤ (1 : Int32).toNatClampNeg) := inb_of S4 ⟨by decide, by decide⟩
  have at4 : cl4.slots[(1 : Int32).toNatClampNeg]? = some (.int c1_) := H4.at in4 rfl
  refine os (fun _ z => X2.caload hx (by rw [e2]; exact Aq4.1) (oia hZ Aq4.2.1) Aq4.2.2 in4 at4 (g := (mkF m 12 #[rv a, iv 1, rv b, iv 1, iv 4, iv 1, iv c0_] [(.int 1), (.ref a)])) rfl rfl (hb hby d5_12) _ z) ?_
  show OG p e below Φ T2 m 13 #[rv a, iv 1, rv b, iv 1, iv 4, iv 1, iv c0_] [(.int c1_)]
  refine os (fun _ z => XS.istore X2.here hx rfl (hb hby d5_13) rfl (l' := #[rv a, iv 1, rv b, iv 1, iv 4, iv 1, iv c1_]) rfl z) ?_
  show OG p e below Φ T2 m 15 #[rv a, iv 1, rv b, iv 1, iv 4, iv 1, iv c1_] []
  refine os (fun _ z => XS.iload X2.here hx rfl (hb hby d5_15) rfl z) ?_
  refine os (fun _ z => XS.sipush X2.here hx rfl (hb hby d5_17) z) ?_
  show OG p e below Φ T2 m 20 #[rv a, iv 1, rv b, iv 1, iv 4, iv 1, iv c1_] [(.int 255), (.int c1_)]
  refine os (fun _ z => XS.icmpYes X2.here hx rfl (pc0 := 20) (pc' := 26) rfl (hb hby d5_20) rfl (XT.ii_le_t hl1) (by decide) (by decide) z) ?_
  show OG p e below Φ T2 m 26 #[rv a, iv 1, rv b, iv 1, iv 4, iv 1, iv c1_] []
  refine os (fun _ z => XS.aloadN X2.here hx rfl (hb hby d5_26) rfl rfl z) ?_
  refine os (fun _ z => XS.iloadN X2.here hx rfl (hb hby d5_27) rfl z) ?_
  show OG p e below Φ T2 m 28 #[rv a, iv 1, rv b, iv 1, iv 4, iv 1, iv c1_] [(.int 1), (.ref b)]
  refine os (fun _ z => XS.iload X2.here hx rfl (hb hby d5_28) rfl z) ?_
  refine os (fun _ z => XT.i2b X2.here hx rfl (hb hby d5_30) rfl z) ?_
  show OG p e below Φ T2 m 31 #[rv a, iv 1, rv b, iv 1, iv 4, iv 1, iv c1_] [(.int (c1_.toInt8.toInt32)), (.int 1), (.ref b)]
  obtain ⟨cl5, Aq5, Cq5, S5, M5, H5, G5⟩ := id V2
  have in5 : ¬ ((1 : Int32) < 0 ∨ cl5.slots.size ≤ (1 : Int32).toNatClampNeg) := inb_of S5 ⟨by decide, by decide⟩
  obtain ⟨T5, h5, X5, e5, W5, st5⟩ := stB X2 hx hZ e2 Aq5 in5 (g := (mkF m 31 #[rv a, iv 1, rv b, iv 1, iv 4, iv 1, iv c1_] [(.int (c1_.toInt8.toInt32)), (.int 1), (.ref b)])) rfl rfl (hb hby d5_31)
  have W5 : Wr h2 h5 b (1 : Int32).toNatClampNeg (.int (nar .byte (c1_.toInt8.toInt32))) := W5
  have F6 := F3.other W5 nab
  have V5 : Arv Z h5 b cb .byte (4 : Int32) [(.int (nar .byte (c0_.toInt8.toInt32))), (.int (nar .byte (c1_.toInt8.toInt32))), (.int (0 : Int32)), (.int (0 : Int32))] (.int (0 : Int32)) := Arv.set Aq5 Cq5 S5 M5 H5 G5 (fits_nar_byte _) W5 1 (by decide) (by show 1 < 4; decide)
  have K5 := K2.wr W5 (Or.inl (List.mem_of_getElem? (i := 0) rfl))
  have N5 := Fr.snoc X5 N2 g_b
  have Zs5 : n0 ≤ h5.size := by rw [W5.size]; exact Zs2
  refine os st5 ?_
  show OG p e below Φ T5 m 32 #[rv a, iv 1, rv b, iv 1, iv 4, iv 1, iv c1_] []
  refine os (fun _ z => XS.iinc X5.here hx rfl (hb hby d5_32) rfl (l' := #[rv a, iv ((1 : Int32) + (1 : Int32)), rv b, iv 1, iv 4, iv 1, iv c1_]) rfl z) ?_
  show OG p e below Φ T5 m 35 #[rv a, iv 2, rv b, iv 1, iv 4, iv 1, iv c1_] []
  refine os (fun _ z => XS.iinc X5.here hx rfl (hb hby d5_35) rfl (l' := #[rv a, iv 2, rv b, iv ((1 : Int32) + (1 : Int32)), iv 4, iv 1, iv c1_]) rfl z) ?_
  show OG p e below Φ T5 m 38 #[rv a, iv 2, rv b, iv 2, iv 4, iv 1, iv c1_] []
  refine os (fun _ z => XS.iinc X5.here hx rfl (hb hby d5_38) rfl (l' := #[rv a, iv 2, rv b, iv 2, iv 4, iv ((1 : Int32) + (1 : Int32)), iv c1_]) rfl z) ?_
  show OG p e below Φ T5 m 41 #[rv a, iv 2, rv b, iv 2, iv 4, iv 2, iv c1_] []
  refine os (fun _ z => XS.goto X5.here hx rfl (pc0 := 41) (pc' := 3) rfl (hb hby d5_41) (by decide) (by decide) z) ?_
  show OG p e below Φ T5 m 3 #[rv a, iv 2, rv b, iv 2, iv 4, iv 2, iv c1_] []
  refine os (fun _ z => XS.iload X5.here hx rfl (hb hby d5_3) rfl z) ?_
  refine os (fun _ z => XS.iload X5.here hx rfl (hb hby d5_5) rfl z) ?_
  show OG p e below Φ T5 m 7 #[rv a, iv 2, rv b, iv 2, iv 4, iv 2, iv c1_] [(.int 4), (.int 2)]
  refine os (fun _ z => XS.icmpNo X5.here hx rfl (hb hby d5_7) rfl (XT.ii_ge_f (by decide)) z) ?_
  show OG p e below Φ T5 m 10 #[rv a, iv 2, rv b, iv 2, iv 4, iv 2, iv c1_] []
  refine os (fun _ z => XS.aloadN X5.here hx rfl (hb hby d5_10) rfl rfl z) ?_
  refine os (fun _ z => XS.iloadN X5.here hx rfl (hb hby d5_11) rfl z) ?_
  show OG p e below Φ T5 m 12 #[rv a, iv 2, rv b, iv 2, iv 4, iv 2, iv c1_] [(.int 2), (.ref a)]
  obtain ⟨cl7, Aq7, -, S7, M7, H7, -⟩ := id F6
  have in7 : ¬ ((2 : Int32) < 0 ∨ cl7.slots.size ≤ (2 : Int32).toNatClampNeg) := inb_of S7 ⟨by decide, by decide⟩
  have at7 : cl7.slots[(2 : Int32).toNatClampNeg]? = some (.int c2_) := H7.at in7 rfl
  refine os (fun _ z => X5.caload hx (by rw [e5]; exact Aq7.1) (oia hZ Aq7.2.1) Aq7.2.2 in7 at7 (g := (mkF m 12 #[rv a, iv 2, rv b, iv 2, iv 4, iv 2, iv c1_] [(.int 2), (.ref a)])) rfl rfl (hb hby d5_12) _ z) ?_
  show OG p e below Φ T5 m 13 #[rv a, iv 2, rv b, iv 2, iv 4, iv 2, iv c1_] [(.int c2_)]
  refine os (fun _ z => XS.istore X5.here hx rfl (hb hby d5_13) rfl (l' := #[rv a, iv 2, rv b, iv 2, iv 4, iv 2, iv c2_]) rfl z) ?_
  show OG p e below Φ T5 m 15 #[rv a, iv 2, rv b, iv 2, iv 4, iv 2, iv c2_] []
  refine os (fun _ z => XS.iload X5.here hx rfl (hb hby d5_15) rfl z) ?_
  refine os (fun _ z => XS.sipush X5.here hx rfl (hb hby d5_17) z) ?_
  show OG p e below Φ T5 m 20 #[rv a, iv 2, rv b, iv 2, iv 4, iv 2, iv c2_] [(.int 255), (.int c2_)]
  refine os (fun _ z => XS.icmpYes X5.here hx rfl (pc0 := 20) (pc' := 26) rfl (hb hby d5_20) rfl (XT.ii_le_t hl2) (by decide) (by decide) z) ?_
  show OG p e below Φ T5 m 26 #[rv a, iv 2, rv b, iv 2, iv 4, iv 2, iv c2_] []
  refine os (fun _ z => XS.aloadN X5.here hx rfl (hb hby d5_26) rfl rfl z) ?_
  refine os (fun _ z => XS.iloadN X5.here hx rfl (hb hby d5_27) rfl z) ?_
  show OG p e below Φ T5 m 28 #[rv a, iv 2, rv b, iv 2, iv 4, iv 2, iv c2_] [(.int 2), (.ref b)]
  refine os (fun _ z => XS.iload X5.here hx rfl (hb hby d5_28) rfl z) ?_
  refine os (fun _ z => XT.i2b X5.here hx rfl (hb hby d5_30) rfl z) ?_
  show OG p e below Φ T5 m 31 #[rv a, iv 2, rv b, iv 2, iv 4, iv 2, iv c2_] [(.int (c2_.toInt8.toInt32)), (.int 2), (.ref b)]
  obtain ⟨cl8, Aq8, Cq8, S8, M8, H8, G8⟩ := id V5
  have in8 : ¬ ((2 : Int32) < 0 ∨ cl8.slots.size ≤ (2 : Int32).toNatClampNeg) := inb_of S8 ⟨by decide, by decide⟩
  obtain ⟨T8, h8, X8, e8, W8, st8⟩ := stB X5 hx hZ e5 Aq8 in8 (g := (mkF m 31 #[rv a, iv 2, rv b, iv 2, iv 4, iv 2, iv c2_] [(.int (c2_.toInt8.toInt32)), (.int 2), (.ref b)])) rfl rfl (hb hby d5_31)
  have W8 : Wr h5 h8 b (2 : Int32).toNatClampNeg (.int (nar .byte (c2_.toInt8.toInt32))) := W8
  have F9 := F6.other W8 nab
  have V8 : Arv Z h8 b cb .byte (4 : Int32) [(.int (nar .byte (c0_.toInt8.toInt32))), (.int (nar .byte (c1_.toInt8.toInt32))), (.int (nar .byte (c2_.toInt8.toInt32))), (.int (0 : Int32))] (.int (0 : Int32)) := Arv.set Aq8 Cq8 S8 M8 H8 G8 (fits_nar_byte _) W8 2 (by decide) (by show 2 < 4; decide)
  have K8 := K5.wr W8 (Or.inl (List.mem_of_getElem? (i := 0) rfl))
  have N8 := Fr.snoc X8 N5 g_b
  have Zs8 : n0 ≤ h8.size := by rw [W8.size]; exact Zs5
  refine os st8 ?_
  show OG p e below Φ T8 m 32 #[rv a, iv 2, rv b, iv 2, iv 4, iv 2, iv c2_] []
  refine os (fun _ z => XS.iinc X8.here hx rfl (hb hby d5_32) rfl (l' := #[rv a, iv ((2 : Int32) + (1 : Int32)), rv b, iv 2, iv 4, iv 2, iv c2_]) rfl z) ?_
  show OG p e below Φ T8 m 35 #[rv a, iv 3, rv b, iv 2, iv 4, iv 2, iv c2_] []
  refine os (fun _ z => XS.iinc X8.here hx rfl (hb hby d5_35) rfl (l' := #[rv a, iv 3, rv b, iv ((2 : Int32) + (1 : Int32)), iv 4, iv 2, iv c2_]) rfl z) ?_
  show OG p e below Φ T8 m 38 #[rv a, iv 3, rv b, iv 3, iv 4, iv 2, iv c2_] []
  refine os (fun _ z => XS.iinc X8.here hx rfl (hb hby d5_38) rfl (l' := #[rv a, iv 3, rv b, iv 3, iv 4, iv ((2 : Int32) + (1 : Int32)), iv c2_]) rfl z) ?_
  show OG p e below Φ T8 m 41 #[rv a, iv 3, rv b, iv 3, iv 4, iv 3, iv c2_] []
  refine os (fun _ z => XS.goto X8.here hx rfl (pc0 := 41) (pc' := 3) rfl (hb hby d5_41) (by decide) (by decide) z) ?_
  show OG p e below Φ T8 m 3 #[rv a, iv 3, rv b, iv 3, iv 4, iv 3, iv c2_] []
  refine os (fun _ z => XS.iload X8.here hx rfl (hb hby d5_3) rfl z) ?_
  refine os (fun _ z => XS.iload X8.here hx rfl (hb hby d5_5) rfl z) ?_
  show OG p e below Φ T8 m 7 #[rv a, iv 3, rv b, iv 3, iv 4, iv 3, iv c2_] [(.int 4), (.int 3)]
  refine os (fun _ z => XS.icmpNo X8.here hx rfl (hb hby d5_7) rfl (XT.ii_ge_f (by decide)) z) ?_
  show OG p e below Φ T8 m 10 #[rv a, iv 3, rv b, iv 3, iv 4, iv 3, iv c2_] []
  refine os (fun _ z => XS.aloadN X8.here hx rfl (hb hby d5_10) rfl rfl z) ?_
  refine os (fun _ z => XS.iloadN X8.here hx rfl (hb hby d5_11) rfl z) ?_
  show OG p e below Φ T8 m 12 #[rv a, iv 3, rv b, iv 3, iv 4, iv 3, iv c2_] [(.int 3), (.ref a)]
  obtain ⟨cl10, Aq10, -, S10, M10, H10, -⟩ := id F9
  have in10 : ¬ ((3 : Int32) < 0 ∨ cl10.slots.size ≤ (3 : Int32).toNatClampNeg) := inb_of S10 ⟨by decide, by decide⟩
  have at10 : cl10.slots[(3 : Int32).toNatClampNeg]? = some (.int c3_) := H10.at in10 rfl
  refine os (fun _ z => X8.caload hx (by rw [e8]; exact Aq10.1) (oia hZ Aq10.2.1) Aq10.2.2 in10 at10 (g := (mkF m 12 #[rv a, iv 3, rv b, iv 3, iv 4, iv 3, iv c2_] [(.int 3), (.ref a)])) rfl rfl (hb hby d5_12) _ z) ?_
  show OG p e below Φ T8 m 13 #[rv a, iv 3, rv b, iv 3, iv 4, iv 3, iv c2_] [(.int c3_)]
  refine os (fun _ z => XS.istore X8.here hx rfl (hb hby d5_13) rfl (l' := #[rv a, iv 3, rv b, iv 3, iv 4, iv 3, iv c3_]) rfl z) ?_
  show OG p e below Φ T8 m 15 #[rv a, iv 3, rv b, iv 3, iv 4, iv 3, iv c3_] []
  refine os (fun _ z => XS.iload X8.here hx rfl (hb hby d5_15) rfl z) ?_
  refine os (fun _ z => XS.sipush X8.here hx rfl (hb hby d5_17) z) ?_
  show OG p e below Φ T8 m 20 #[rv a, iv 3, rv b, iv 3, iv 4, iv 3, iv c3_] [(.int 255), (.int c3_)]
  refine os (fun _ z => XS.icmpYes X8.here hx rfl (pc0 := 20) (pc' := 26) rfl (hb hby d5_20) rfl (XT.ii_le_t hl3) (by decide) (by decide) z) ?_
  show OG p e below Φ T8 m 26 #[rv a, iv 3, rv b, iv 3, iv 4, iv 3, iv c3_] []
  refine os (fun _ z => XS.aloadN X8.here hx rfl (hb hby d5_26) rfl rfl z) ?_
  refine os (fun _ z => XS.iloadN X8.here hx rfl (hb hby d5_27) rfl z) ?_
  show OG p e below Φ T8 m 28 #[rv a, iv 3, rv b, iv 3, iv 4, iv 3, iv c3_] [(.int 3), (.ref b)]
  refine os (fun _ z => XS.iload X8.here hx rfl (hb hby d5_28) rfl z) ?_
  refine os (fun _ z => XT.i2b X8.here hx rfl (hb hby d5_30) rfl z) ?_
  show OG p e below Φ T8 m 31 #[rv a, iv 3, rv b, iv 3, iv 4, iv 3, iv c3_] [(.int (c3_.toInt8.toInt32)), (.int 3), (.ref b)]
  obtain ⟨cl11, Aq11, Cq11, S11, M11, H11, G11⟩ := id V8
  have in11 : ¬ ((3 : Int32) < 0 ∨ cl11.slots.size ≤ (3 : Int32).toNatClampNeg) := inb_of S11 ⟨by decide, by decide⟩
  obtain ⟨T11, h11, X11, e11, W11, st11⟩ := stB X8 hx hZ e8 Aq11 in11 (g := (mkF m 31 #[rv a, iv 3, rv b, iv 3, iv 4, iv 3, iv c3_] [(.int (c3_.toInt8.toInt32)), (.int 3), (.ref b)])) rfl rfl (hb hby d5_31)
  have W11 : Wr h8 h11 b (3 : Int32).toNatClampNeg (.int (nar .byte (c3_.toInt8.toInt32))) := W11
  have F12 := F9.other W11 nab
  have V11 : Arv Z h11 b cb .byte (4 : Int32) [(.int (nar .byte (c0_.toInt8.toInt32))), (.int (nar .byte (c1_.toInt8.toInt32))), (.int (nar .byte (c2_.toInt8.toInt32))), (.int (nar .byte (c3_.toInt8.toInt32)))] (.int (0 : Int32)) := Arv.set Aq11 Cq11 S11 M11 H11 G11 (fits_nar_byte _) W11 3 (by decide) (by show 3 < 4; decide)
  have K11 := K8.wr W11 (Or.inl (List.mem_of_getElem? (i := 0) rfl))
  have N11 := Fr.snoc X11 N8 g_b
  have Zs11 : n0 ≤ h11.size := by rw [W11.size]; exact Zs8
  refine os st11 ?_
  show OG p e below Φ T11 m 32 #[rv a, iv 3, rv b, iv 3, iv 4, iv 3, iv c3_] []
  refine os (fun _ z => XS.iinc X11.here hx rfl (hb hby d5_32) rfl (l' := #[rv a, iv ((3 : Int32) + (1 : Int32)), rv b, iv 3, iv 4, iv 3, iv c3_]) rfl z) ?_
  show OG p e below Φ T11 m 35 #[rv a, iv 4, rv b, iv 3, iv 4, iv 3, iv c3_] []
  refine os (fun _ z => XS.iinc X11.here hx rfl (hb hby d5_35) rfl (l' := #[rv a, iv 4, rv b, iv ((3 : Int32) + (1 : Int32)), iv 4, iv 3, iv c3_]) rfl z) ?_
  show OG p e below Φ T11 m 38 #[rv a, iv 4, rv b, iv 4, iv 4, iv 3, iv c3_] []
  refine os (fun _ z => XS.iinc X11.here hx rfl (hb hby d5_38) rfl (l' := #[rv a, iv 4, rv b, iv 4, iv 4, iv ((3 : Int32) + (1 : Int32)), iv c3_]) rfl z) ?_
  show OG p e below Φ T11 m 41 #[rv a, iv 4, rv b, iv 4, iv 4, iv 4, iv c3_] []
  refine os (fun _ z => XS.goto X11.here hx rfl (pc0 := 41) (pc' := 3) rfl (hb hby d5_41) (by decide) (by decide) z) ?_
  show OG p e below Φ T11 m 3 #[rv a, iv 4, rv b, iv 4, iv 4, iv 4, iv c3_] []
  refine os (fun _ z => XS.iload X11.here hx rfl (hb hby d5_3) rfl z) ?_
  refine os (fun _ z => XS.iload X11.here hx rfl (hb hby d5_5) rfl z) ?_
  show OG p e below Φ T11 m 7 #[rv a, iv 4, rv b, iv 4, iv 4, iv 4, iv c3_] [(.int 4), (.int 4)]
  refine os (fun _ z => XS.icmpYes X11.here hx rfl (pc0 := 7) (pc' := 44) rfl (hb hby d5_7) rfl (XT.ii_ge_t (by decide)) (by decide) (by decide) z) ?_
  show OG p e below Φ T11 m 44 #[rv a, iv 4, rv b, iv 4, iv 4, iv 4, iv c3_] []
  refine os (fun _ z => XS.iload X11.here hx rfl (hb hby d5_44) rfl z) ?_
  refine OGo.fin X11 hlk (v := (some (.int 4))) (fun h => by rw [hret] at h; cases h) (by decide) (by decide) (fun fs hr => X11.ireturnOut hx hret rfl (by simp) (hb hby d5_46) hr) fun U eU hF => hΦ _ _ _ ?_ hF
  rw [eU, e11]
  show Q_rsl4c2 Z a ca b cb c0_ c1_ c2_ c3_ h0 n0 _ _ _
  exact ⟨rfl, N11, K11, V11⟩

theorem ef_rsl4c3 (m : MethodId) (x0 : Addr) (x1 : Int32) (x2 : Int32) : entryFrame m #[(.ref x0), (.int x1), (.int x2)] 6 = mkF m 0 #[.val (.ref x0), .val (.int x1), .val (.int x2), .unset, .unset, .unset] [] := by first | (simp [entryFrame, mkF, argsToLocals, Value.category]; done) | rfl
def Q_rsl4c3 (Z : State) (a : Addr) (ca : ClassId) (c0_ : Int32) (c1_ : Int32) (c2_ : Int32) (c3_ : Int32) (h0 : Heap) (n0 : Nat) (v : Option Value) (h : Heap) (L : List Loc) : Prop := ∃ b cb, v = some (.ref b) ∧ Fr n0 L ∧ Keep h0 h [] ∧ Arv Z h b cb .byte (4 : Int32) [(.int (nar .byte (c0_.toInt8.toInt32))), (.int (nar .byte (c1_.toInt8.toInt32))), (.int (nar .byte (c2_.toInt8.toInt32))), (.int (nar .byte (c3_.toInt8.toInt32)))] (.int (0 : Int32)) ∧ h0.size ≤ b
set_option maxRecDepth 65536 in
set_option maxHeartbeats 40000000 in
theorem rsl4c3 (l : Launch) (Z : State) (a0 : Array Value) (hw : ∀ d ∈ tables_1, d.before a0 Z = true) (ws : List Jvm.Cond) (a : Addr) (ca : ClassId) (c0_ : Int32) (c1_ : Int32) (c2_ : Int32) (c3_ : Int32) (h0 : Heap) (n0 : Nat) (Z0 : n0 ≤ h0.size) (V_a : Arv Z h0 a ca .char (4 : Int32) [(.int c0_), (.int c1_), (.int c2_), (.int c3_)] (.int (0 : Int32))) (hl0 : ¬ (255 : Int32) < c0_) (hl1 : ¬ (255 : Int32) < c1_) (hl2 : ¬ (255 : Int32) < c2_) (hl3 : ¬ (255 : Int32) < c3_) :
    OCon l Z (⟨"java/lang/StringUTF16", "compress", "([CII)[B"⟩ : MethodName) jdk_52_method_16_code 6 (some (.array .byte)) ws ({ frames := 1, cells := 1, slots := 4, locals := 18 } : Room) #[(.ref a), (.int (0 : Int32)), (.int (4 : Int32))] h0 (Q_rsl4c3 Z a ca c0_ c1_ c2_ c3_ h0 n0) := by
  refine OCon.of (plainFor_of_name pn1) ?_
  intro p e s m below meth c s₁ Φ X0 hx hby hml hown hnm hret hlk hZ e0 hΦ
  have N0 := Fr.nil n0
  refine os (fun _ z => castTop (ef_rsl4c3 m a (0 : Int32) (4 : Int32)) z) ?_
  have K0 := Keep.refl h0 []
  show OG p e below Φ s₁ m 0 #[rv a, iv 0, iv 4, .unset, .unset, .unset] []
  refine os (fun _ z => XS.iloadN X0.here hx rfl (hb hby d4_0) rfl z) ?_
  obtain ⟨T1, h1, c1, X1, e1, E1, Ar1, st1⟩ := newP (aty := .byte) X0 hx hZ (ow1 hw) e0 (g := (mkF m 1 #[rv a, iv 0, iv 4, .unset, .unset, .unset] [(.int 4)])) rfl (hb hby d4_1) rfl (by decide) (cap := 4) (by decide) (by decide) (by decide) (by decide)
  obtain ⟨b1, g1⟩ : ∃ z, z = h0.size := ⟨_, rfl⟩
  rw [← g1] at Ar1 st1
  have ne1_a : a ≠ b1 := by rw [g1]; exact Nat.ne_of_lt V_a.lt
  have F2 := V_a.ext E1
  have gb1 : n0 ≤ b1 := Nat.le_trans Z0 (Nat.le_of_eq g1.symm)
  have sz1 : h0.size ≤ b1 := Nat.le_trans K0.1 (Nat.le_of_eq g1.symm)
  have K1 := K0.ext E1
  have Zs1 : n0 ≤ h1.size := Nat.le_trans Z0 E1.1
  have V1 : Arv Z h1 b1 c1 .byte (4 : Int32) [(.int (0 : Int32)), (.int (0 : Int32)), (.int (0 : Int32)), (.int (0 : Int32))] (.int (0 : Int32)) := (Arv.new Ar1 (by decide)).pad (pad_rep [] _ 4)
  refine os st1 ?_
  show OG p e below Φ T1 m 3 #[rv a, iv 0, iv 4, .unset, .unset, .unset] [(.ref b1)]
  refine os (fun _ z => XS.astoreN X1.here hx rfl (hb hby d4_3) rfl rfl (l' := #[rv a, iv 0, iv 4, rv b1, .unset, .unset]) rfl z) ?_
  show OG p e below Φ T1 m 4 #[rv a, iv 0, iv 4, rv b1, .unset, .unset] []
  refine os (fun _ z => XS.aloadN X1.here hx rfl (hb hby d4_4) rfl rfl z) ?_
  refine os (fun _ z => XS.iloadN X1.here hx rfl (hb hby d4_5) rfl z) ?_
  show OG p e below Φ T1 m 6 #[rv a, iv 0, iv 4, rv b1, .unset, .unset] [(.int 0), (.ref a)]
  refine os (fun _ z => XS.aloadN X1.here hx rfl (hb hby d4_6) rfl rfl z) ?_
  refine os (fun _ z => XS.iconst X1.here hx rfl (hb hby d4_7) z) ?_
  show OG p e below Φ T1 m 8 #[rv a, iv 0, iv 4, rv b1, .unset, .unset] [(.int 0), (.ref b1), (.int 0), (.ref a)]
  refine os (fun _ z => XS.iloadN X1.here hx rfl (hb hby d4_8) rfl z) ?_
  obtain ⟨_, T3, L3, X3, hQ3, st3⟩ := own_callSt X1 hx hZ hown (ow22 hw) (ow23 hw) (ow20 hw) (ow24 hw) (by decide) (rsl4c2 l Z a0 hw [] a ca b1 c1 c0_ c1_ c2_ c3_ h1 n0 Zs1 F2 V1 ne1_a gb1 hl0 hl1 hl2 hl3) e1 (W := 0) (by decide) (by decide) (by decide) (by decide) (pc := 9) (ls := #[rv a, iv 0, iv 4, rv b1, .unset, .unset]) (stk := [(.int 4), (.int 0), (.ref b1), (.int 0), (.ref a)]) (by rw [hml]; rfl) (argsL := [(.ref a), (.int 0), (.ref b1), (.int 0), (.int 4)]) (rest := []) (lenOf pd1 rfl) rfl rfl (Nat.le_of_eq rfl) (hb hby d4_9)
  obtain ⟨rfl, Nq3, Kq3, Vq3⟩ := hQ3
  have N3 := Fr.app N0 Nq3
  have Zs3 : n0 ≤ T3.heap.size := Nat.le_trans Zs1 Kq3.1
  have F4 := F2.keep Kq3 (ninS ne1_a nin0)
  have K3 := K1.trans Kq3 (allS (Or.inr sz1) all0)
  refine os st3 ?_
  show OG p e below Φ T3 m 12 #[rv a, iv 0, iv 4, rv b1, .unset, .unset] [(.int 4)]
  refine os (fun _ z => XS.istore X3.here hx rfl (hb hby d4_12) rfl (l' := #[rv a, iv 0, iv 4, rv b1, iv 4, .unset]) rfl z) ?_
  show OG p e below Φ T3 m 14 #[rv a, iv 0, iv 4, rv b1, iv 4, .unset] []
  refine os (fun _ z => XS.iload X3.here hx rfl (hb hby d4_14) rfl z) ?_
  refine os (fun _ z => XS.iloadN X3.here hx rfl (hb hby d4_16) rfl z) ?_
  show OG p e below Φ T3 m 17 #[rv a, iv 0, iv 4, rv b1, iv 4, .unset] [(.int 4), (.int 4)]
  refine os (fun _ z => XS.icmpYes X3.here hx rfl (pc0 := 17) (pc' := 57) rfl (hb hby d4_17) rfl (XT.ii_eq_t (by decide)) (by decide) (by decide) z) ?_
  show OG p e below Φ T3 m 57 #[rv a, iv 0, iv 4, rv b1, iv 4, .unset] []
  refine os (fun _ z => XS.aloadN X3.here hx rfl (hb hby d4_57) rfl rfl z) ?_
  refine OGo.fin X3 hlk (v := (some (.ref b1))) (fun h => by rw [hret] at h; cases h) (by decide) (by decide) (fun fs hr => X3.areturnOut hx rfl hret rfl (hb hby d4_58) hr) fun U eU hF => hΦ _ _ _ ?_ hF
  rw [eU]
  show Q_rsl4c3 Z a ca c0_ c1_ c2_ c3_ h0 n0 _ _ _
  exact ⟨_, _, rfl, N3, K3, Vq3, sz1⟩

theorem ef_rsl4cf (m : MethodId) (x0 : Addr) (x1 : Int32) : entryFrame m #[(.ref x0), (.int x1)] 2 = mkF m 0 #[.val (.ref x0), .val (.int x1)] [] := by first | (simp [entryFrame, mkF, argsToLocals, Value.category]; done) | rfl
def Q_rsl4cf (Z : State) (b : Addr) (cb : ClassId) (c0_ : Int32) (c1_ : Int32) (c2_ : Int32) (c3_ : Int32) (h0 : Heap) (n0 : Nat) (v : Option Value) (h : Heap) (L : List Loc) : Prop := v = some (.int (0 : Int32)) ∧ Fr n0 L ∧ h = h0
set_option maxRecDepth 65536 in
set_option maxHeartbeats 40000000 in
theorem rsl4cf (l : Launch) (Z : State) (a0 : Array Value) (hw : ∀ d ∈ tables_1, d.before a0 Z = true) (ws : List Jvm.Cond) (b : Addr) (cb : ClassId) (c0_ : Int32) (c1_ : Int32) (c2_ : Int32) (c3_ : Int32) (h0 : Heap) (n0 : Nat) (Z0 : n0 ≤ h0.size) (V_b : Arv Z h0 b cb .byte (4 : Int32) [(.int (nar .byte (c0_.toInt8.toInt32))), (.int (nar .byte (c1_.toInt8.toInt32))), (.int (nar .byte (c2_.toInt8.toInt32))), (.int (nar .byte (c3_.toInt8.toInt32)))] (.int (0 : Int32))) :
    OCon l Z (⟨"java/lang/StringUTF16", "coderFromArrayLen", "([BI)B"⟩ : MethodName) jdk_52_method_15_code 2 (some .byte) ws ({ frames := 0, cells := 0, slots := 0, locals := 0 } : Room) #[(.ref b), (.int (4 : Int32))] h0 (Q_rsl4cf Z b cb c0_ c1_ c2_ c3_ h0 n0) := by
  refine OCon.of (plainFor_of_name pn1) ?_
  intro p e s m below meth c s₁ Φ X0 hx hby hml hown hnm hret hlk hZ e0 hΦ
  have N0 := Fr.nil n0
  refine os (fun _ z => castTop (ef_rsl4cf m b (4 : Int32)) z) ?_
  show OG p e below Φ s₁ m 0 #[rv b, iv 4] []
  refine os (fun _ z => XS.iloadN X0.here hx rfl (hb hby d6_0) rfl z) ?_
  refine os (fun _ z => XS.aloadN X0.here hx rfl (hb hby d6_1) rfl rfl z) ?_
  show OG p e below Φ s₁ m 2 #[rv b, iv 4] [(.ref b), (.int 4)]
  obtain ⟨cl1, Aq1, -, S1, M1, -, -⟩ := id V_b
  refine os (fun _ z => X0.arraylength hx (by rw [e0]; exact Aq1.1) (oia hZ Aq1.2.1) (g := (mkF m 2 #[rv b, iv 4] [(.ref b), (.int 4)])) rfl rfl (hb hby d6_2) _ z) ?_
  rw [len_of S1 M1]
  show OG p e below Φ s₁ m 3 #[rv b, iv 4] [(.int 4), (.int 4)]
  refine os (fun _ z => XS.isub X0.here hx rfl (hb hby d6_3) rfl z) ?_
  show OG p e below Φ s₁ m 4 #[rv b, iv 4] [(.int 0)]
  refine os (fun _ z => XS.bipush X0.here hx rfl (hb hby d6_4) z) ?_
  refine os (fun _ z => XT.iushr X0.here hx rfl (hb hby d6_6) rfl z) ?_
  show OG p e below Φ s₁ m 7 #[rv b, iv 4] [(.int 0)]
  refine os (fun _ z => XT.i2b X0.here hx rfl (hb hby d6_7) rfl z) ?_
  show OG p e below Φ s₁ m 8 #[rv b, iv 4] [(.int 0)]
  refine OGo.fin X0 hlk (v := (some (.int 0))) (fun h => by rw [hret] at h; cases h) (by decide) (by decide) (fun fs hr => X0.ireturnOut hx hret rfl (by simp) (hb hby d6_8) hr) fun U eU hF => hΦ _ _ _ ?_ hF
  rw [eU, e0]
  show Q_rsl4cf Z b cb c0_ c1_ c2_ c3_ h0 n0 _ _ _
  exact ⟨rfl, N0, rfl⟩

theorem ef_rsl4i4 (m : MethodId) (x0 : Addr) (x1 : Addr) (x2 : Int32) (x3 : Int32) : entryFrame m #[(.ref x0), (.ref x1), (.int x2), (.int x3), .null] 6 = mkF m 0 #[.val (.ref x0), .val (.ref x1), .val (.int x2), .val (.int x3), .val .null, .unset] [] := by first | (simp [entryFrame, mkF, argsToLocals, Value.category]; done) | rfl
def Q_rsl4i4 (Z : State) (s_ : Addr) (a : Addr) (ca : ClassId) (qc : Int32) (c0_ : Int32) (c1_ : Int32) (c2_ : Int32) (c3_ : Int32) (h0 : Heap) (n0 : Nat) (v : Option Value) (h : Heap) (L : List Loc) : Prop := v = none ∧ Fr n0 L ∧ Keep h0 h [s_] ∧ Exa Z h s_ "java/lang/String" ∧ ∃ b cb, Fld Z h s_ "java/lang/String" "value" "[B" (.ref b) ∧ Fld Z h s_ "java/lang/String" "coder" "B" (.int (0 : Int32)) ∧ Arv Z h b cb .byte (4 : Int32) [(.int (nar .byte (c0_.toInt8.toInt32))), (.int (nar .byte (c1_.toInt8.toInt32))), (.int (nar .byte (c2_.toInt8.toInt32))), (.int (nar .byte (c3_.toInt8.toInt32)))] (.int (0 : Int32)) ∧ h0.size ≤ b
set_option maxRecDepth 65536 in
set_option maxHeartbeats 40000000 in
theorem rsl4i4 (l : Launch) (Z : State) (a0 : Array Value) (hw : ∀ d ∈ tables_1, d.before a0 Z = true) (ws : List Jvm.Cond) (s_ : Addr) (a : Addr) (ca : ClassId) (qc : Int32) (c0_ : Int32) (c1_ : Int32) (c2_ : Int32) (c3_ : Int32) (h0 : Heap) (n0 : Nat) (Z0 : n0 ≤ h0.size) (E_s : Exa Z h0 s_ "java/lang/String") (g_s : n0 ≤ s_) (F_v : Fld Z h0 s_ "java/lang/String" "value" "[B" .null) (F_c : Fld Z h0 s_ "java/lang/String" "coder" "B" (.int (0 : Int32))) (V_a : Arv Z h0 a ca .char (4 : Int32) [(.int c0_), (.int c1_), (.int c2_), (.int c3_)] (.int (0 : Int32))) (nsa : s_ ≠ a) (S_q : Sta Z h0 "java/lang/String" "COMPACT_STRINGS" "Z" (.int qc)) (hq : ¬ qc = 0) (hl0 : ¬ (255 : Int32) < c0_) (hl1 : ¬ (255 : Int32) < c1_) (hl2 : ¬ (255 : Int32) < c2_) (hl3 : ¬ (255 : Int32) < c3_) :
    OCon l Z (⟨"java/lang/String", "<init>", "([CIILjava/lang/Void;)V"⟩ : MethodName) jdk_42_method_149_code 6 none ws ({ frames := 2, cells := 1, slots := 4, locals := 35 } : Room) #[(.ref s_), (.ref a), (.int (0 : Int32)), (.int (4 : Int32)), .null] h0 (Q_rsl4i4 Z s_ a ca qc c0_ c1_ c2_ c3_ h0 n0) := by
  refine OCon.of (plainFor_of_name pn0) ?_
  intro p e s m below meth c s₁ Φ X0 hx hby hml hown hnm hret hlk hZ e0 hΦ
  have N0 := Fr.nil n0
  refine os (fun _ z => castTop (ef_rsl4i4 m s_ a (0 : Int32) (4 : Int32)) z) ?_
  have K0 := Keep.refl h0 [s_]
  show OG p e below Φ s₁ m 0 #[rv s_, rv a, iv 0, iv 4, .val .null, .unset] []
  refine os (fun _ z => XS.aloadN X0.here hx rfl (hb hby d2_0) rfl rfl z) ?_
  obtain ⟨T1, X1, e1, st1⟩ := initO X0 hx hZ hown (ow14 hw) (ow15 hw) (ow16 hw) e0 (g := (mkF m 1 #[rv s_, rv a, iv 0, iv 4, .val .null, .unset] [(.ref s_)])) rfl (by rw [hml]; rfl) rfl (hb hby d2_1) (by decide) (W := 0) (Nat.le_of_eq rfl) (by decide)
  refine os st1 ?_
  show OG p e below Φ T1 m 4 #[rv s_, rv a, iv 0, iv 4, .val .null, .unset] []
  refine os (fun _ z => XS.iloadN X1.here hx rfl (hb hby d2_4) rfl z) ?_
  refine os (fun _ z => XS.ifYes X1.here hx rfl (pc0 := 5) (pc' := 27) rfl (hb hby d2_5) rfl (XT.i0_ne_t (by decide)) (by decide) (by decide) z) ?_
  show OG p e below Φ T1 m 27 #[rv s_, rv a, iv 0, iv 4, .val .null, .unset] []
  obtain ⟨T2, X2, e2, st2⟩ := getS2 X1 hx hZ hown (host := "") (Or.inl (ow17 hw)) Via.refl e1 S_q (g := (mkF m 27 #[rv s_, rv a, iv 0, iv 4, .val .null, .unset] [])) rfl (hb hby d2_27)
  refine os st2 ?_
  show OG p e below Φ T2 m 30 #[rv s_, rv a, iv 0, iv 4, .val .null, .unset] [(.int qc)]
  refine os (fun _ z => XS.ifNo X2.here hx rfl (hb hby d2_30) rfl (XT.i0_eq_f hq) z) ?_
  show OG p e below Φ T2 m 33 #[rv s_, rv a, iv 0, iv 4, .val .null, .unset] []
  refine os (fun _ z => XS.aloadN X2.here hx rfl (hb hby d2_33) rfl rfl z) ?_
  refine os (fun _ z => XS.iloadN X2.here hx rfl (hb hby d2_34) rfl z) ?_
  show OG p e below Φ T2 m 35 #[rv s_, rv a, iv 0, iv 4, .val .null, .unset] [(.int 0), (.ref a)]
  refine os (fun _ z => XS.iloadN X2.here hx rfl (hb hby d2_35) rfl z) ?_
  obtain ⟨_, T3, L3, X3, hQ3, st3⟩ := own_callSt X2 hx hZ hown (ow18 hw) (ow19 hw) (ow20 hw) (ow21 hw) (by decide) (rsl4c3 l Z a0 hw [] a ca c0_ c1_ c2_ c3_ h0 n0 Z0 V_a hl0 hl1 hl2 hl3) e2 (W := 0) (by decide) (by decide) (by decide) (by decide) (pc := 36) (ls := #[rv s_, rv a, iv 0, iv 4, .val .null, .unset]) (stk := [(.int 4), (.int 0), (.ref a)]) (by rw [hml]; rfl) (argsL := [(.ref a), (.int 0), (.int 4)]) (rest := []) (lenOf pd2 rfl) rfl rfl (Nat.le_of_eq rfl) (hb hby d2_36)
  obtain ⟨b3, cb3, rfl, Nq3, Kq3, Vq3, hz3⟩ := hQ3
  have nq3_a : a ≠ b3 := Nat.ne_of_lt (Nat.lt_of_lt_of_le V_a.lt hz3)
  have nq3_s_ : s_ ≠ b3 := Nat.ne_of_lt (Nat.lt_of_lt_of_le E_s.lt hz3)
  have gq3 : n0 ≤ b3 := Nat.le_trans Z0 hz3
  have sq3 : h0.size ≤ b3 := Nat.le_trans K0.1 hz3
  have N3 := Fr.app N0 Nq3
  have Zs3 : n0 ≤ T3.heap.size := Nat.le_trans Z0 Kq3.1
  have F4 := E_s.keep Kq3
  have F5 := F_v.keep Kq3 nin0
  have F6 := F_c.keep Kq3 nin0
  have F7 := V_a.keep Kq3 nin0
  have K3 := K0.trans Kq3 all0
  refine os st3 ?_
  show OG p e below Φ T3 m 39 #[rv s_, rv a, iv 0, iv 4, .val .null, .unset] [(.ref b3)]
  refine os (fun _ z => XS.astore X3.here hx rfl (hb hby d2_39) rfl rfl (l' := #[rv s_, rv a, iv 0, iv 4, .val .null, rv b3]) rfl z) ?_
  show OG p e below Φ T3 m 41 #[rv s_, rv a, iv 0, iv 4, .val .null, rv b3] []
  refine os (fun _ z => XS.aloadN X3.here hx rfl (hb hby d2_41) rfl rfl z) ?_
  refine os (fun _ z => XS.aload X3.here hx rfl (hb hby d2_42) rfl rfl z) ?_
  show OG p e below Φ T3 m 44 #[rv s_, rv a, iv 0, iv 4, .val .null, rv b3] [(.ref b3), (.ref s_)]
  refine os (fun _ z => XS.iloadN X3.here hx rfl (hb hby d2_44) rfl z) ?_
  obtain ⟨_, T8, L8, X8, hQ8, st8⟩ := own_callSt X3 hx hZ hown (ow25 hw) (ow26 hw) (ow20 hw) (ow27 hw) (by decide) (rsl4cf l Z a0 hw [] b3 cb3 c0_ c1_ c2_ c3_ T3.heap n0 Zs3 Vq3) rfl (W := 1) (by decide) (by decide) (by decide) (by decide) (pc := 45) (ls := #[rv s_, rv a, iv 0, iv 4, .val .null, rv b3]) (stk := [(.int 4), (.ref b3), (.ref s_)]) (by rw [hml]; rfl) (argsL := [(.ref b3), (.int 4)]) (rest := [(.ref s_)]) (lenOf pd3 rfl) rfl rfl (Nat.le_of_eq rfl) (hb hby d2_45)
  obtain ⟨rfl, Nq8, e8⟩ := hQ8
  have N8 := Fr.app N3 Nq8
  refine os st8 ?_
  show OG p e below Φ T8 m 48 #[rv s_, rv a, iv 0, iv 4, .val .null, rv b3] [(.int 0), (.ref s_)]
  obtain ⟨T9, h9, X9, e9, W9, st9⟩ := putF X8 hx hZ hown (host := "") (Or.inl (ow28 hw)) Via.refl e8 F6 F4 (Or.inr ⟨(ow29 hw), rfl, hnm⟩) (ow5 hw) (ty := .byte) (by decide) (by decide) (by decide) (g := (mkF m 48 #[rv s_, rv a, iv 0, iv 4, .val .null, rv b3] [(.int 0), (.ref s_)])) rfl rfl (hb hby d2_48)
  have F10 := F4.wr W9
  have F11 := F5.other W9 (Or.inr (slot_ne (Or.inr (ow31 hw)) (Or.inr (ow29 hw)) (by decide) (t := (.array .byte)) (t' := .byte) (by decide) (by decide)))
  have F12 := F6.same W9
  have F13 := F7.other W9 (Ne.symm nsa)
  have F14 := Vq3.other W9 (Ne.symm nq3_s_)
  have K9 := K3.wr W9 (Or.inl (List.mem_of_getElem? (i := 0) rfl))
  have N9 := Fr.snoc X9 N8 g_s
  have Zs9 : n0 ≤ h9.size := by rw [W9.size]; exact Zs3
  refine os st9 ?_
  show OG p e below Φ T9 m 51 #[rv s_, rv a, iv 0, iv 4, .val .null, rv b3] []
  refine os (fun _ z => XS.aloadN X9.here hx rfl (hb hby d2_51) rfl rfl z) ?_
  refine os (fun _ z => XS.aload X9.here hx rfl (hb hby d2_52) rfl rfl z) ?_
  show OG p e below Φ T9 m 54 #[rv s_, rv a, iv 0, iv 4, .val .null, rv b3] [(.ref b3), (.ref s_)]
  obtain ⟨T15, h15, X15, e15, W15, st15⟩ := putF X9 hx hZ hown (host := "") (Or.inl (ow30 hw)) Via.refl e9 F11 F10 (Or.inr ⟨(ow31 hw), rfl, hnm⟩) (ow5 hw) (ty := (.array .byte)) (by decide) rfl rfl (g := (mkF m 54 #[rv s_, rv a, iv 0, iv 4, .val .null, rv b3] [(.ref b3), (.ref s_)])) rfl rfl (hb hby d2_54)
  have F16 := F10.wr W15
  have F17 := F11.same W15
  have F18 := F12.other W15 (Or.inr (slot_ne (Or.inr (ow29 hw)) (Or.inr (ow31 hw)) (by decide) (t := .byte) (t' := (.array .byte)) (by decide) (by decide)))
  have F19 := F13.other W15 (Ne.symm nsa)
  have F20 := F14.other W15 (Ne.symm nq3_s_)
  have K15 := K9.wr W15 (Or.inl (List.mem_of_getElem? (i := 0) rfl))
  have N15 := Fr.snoc X15 N9 g_s
  have Zs15 : n0 ≤ h15.size := by rw [W15.size]; exact Zs9
  refine os st15 ?_
  show OG p e below Φ T15 m 57 #[rv s_, rv a, iv 0, iv 4, .val .null, rv b3] []
  refine OGo.fin X15 hlk (v := none) (fun _ => rfl) (by decide) (by decide) (fun fs hr => X15.returnOut hx hret (hb hby d2_57) hr) fun U eU hF => hΦ _ _ _ ?_ hF
  rw [eU, e15]
  show Q_rsl4i4 Z s_ a ca qc c0_ c1_ c2_ c3_ h0 n0 _ _ _
  exact ⟨rfl, N15, K15, F16, _, _, F17, F18, F20, sq3⟩

theorem ef_rsl4i1 (m : MethodId) (x0 : Addr) (x1 : Addr) : entryFrame m #[(.ref x0), (.ref x1)] 2 = mkF m 0 #[.val (.ref x0), .val (.ref x1)] [] := by first | (simp [entryFrame, mkF, argsToLocals, Value.category]; done) | rfl
def Q_rsl4i1 (Z : State) (s_ : Addr) (a : Addr) (ca : ClassId) (qc : Int32) (c0_ : Int32) (c1_ : Int32) (c2_ : Int32) (c3_ : Int32) (h0 : Heap) (n0 : Nat) (v : Option Value) (h : Heap) (L : List Loc) : Prop := v = none ∧ Fr n0 L ∧ Keep h0 h [s_] ∧ Exa Z h s_ "java/lang/String" ∧ ∃ b cb, Fld Z h s_ "java/lang/String" "value" "[B" (.ref b) ∧ Fld Z h s_ "java/lang/String" "coder" "B" (.int (0 : Int32)) ∧ Arv Z h b cb .byte (4 : Int32) [(.int (nar .byte (c0_.toInt8.toInt32))), (.int (nar .byte (c1_.toInt8.toInt32))), (.int (nar .byte (c2_.toInt8.toInt32))), (.int (nar .byte (c3_.toInt8.toInt32)))] (.int (0 : Int32)) ∧ h0.size ≤ b
set_option maxRecDepth 65536 in
set_option maxHeartbeats 40000000 in
theorem rsl4i1 (l : Launch) (Z : State) (a0 : Array Value) (hw : ∀ d ∈ tables_1, d.before a0 Z = true) (ws : List Jvm.Cond) (s_ : Addr) (a : Addr) (ca : ClassId) (qc : Int32) (c0_ : Int32) (c1_ : Int32) (c2_ : Int32) (c3_ : Int32) (h0 : Heap) (n0 : Nat) (Z0 : n0 ≤ h0.size) (E_s : Exa Z h0 s_ "java/lang/String") (g_s : n0 ≤ s_) (F_v : Fld Z h0 s_ "java/lang/String" "value" "[B" .null) (F_c : Fld Z h0 s_ "java/lang/String" "coder" "B" (.int (0 : Int32))) (V_a : Arv Z h0 a ca .char (4 : Int32) [(.int c0_), (.int c1_), (.int c2_), (.int c3_)] (.int (0 : Int32))) (nsa : s_ ≠ a) (S_q : Sta Z h0 "java/lang/String" "COMPACT_STRINGS" "Z" (.int qc)) (hq : ¬ qc = 0) (hl0 : ¬ (255 : Int32) < c0_) (hl1 : ¬ (255 : Int32) < c1_) (hl2 : ¬ (255 : Int32) < c2_) (hl3 : ¬ (255 : Int32) < c3_) :
    OCon l Z (⟨"java/lang/String", "<init>", "([C)V"⟩ : MethodName) jdk_42_method_3_code 2 none ws ({ frames := 3, cells := 1, slots := 4, locals := 52 } : Room) #[(.ref s_), (.ref a)] h0 (Q_rsl4i1 Z s_ a ca qc c0_ c1_ c2_ c3_ h0 n0) := by
  refine OCon.of (plainFor_of_name pn0) ?_
  intro p e s m below meth c s₁ Φ X0 hx hby hml hown hnm hret hlk hZ e0 hΦ
  have N0 := Fr.nil n0
  refine os (fun _ z => castTop (ef_rsl4i1 m s_ a) z) ?_
  have K0 := Keep.refl h0 [s_]
  show OG p e below Φ s₁ m 0 #[rv s_, rv a] []
  refine os (fun _ z => XS.aloadN X0.here hx rfl (hb hby d1_0) rfl rfl z) ?_
  refine os (fun _ z => XS.aloadN X0.here hx rfl (hb hby d1_1) rfl rfl z) ?_
  show OG p e below Φ s₁ m 2 #[rv s_, rv a] [(.ref a), (.ref s_)]
  refine os (fun _ z => XS.iconst X0.here hx rfl (hb hby d1_2) z) ?_
  refine os (fun _ z => XS.aloadN X0.here hx rfl (hb hby d1_3) rfl rfl z) ?_
  show OG p e below Φ s₁ m 4 #[rv s_, rv a] [(.ref a), (.int 0), (.ref a), (.ref s_)]
  obtain ⟨cl1, Aq1, -, S1, M1, -, -⟩ := id V_a
  refine os (fun _ z => X0.arraylength hx (by rw [e0]; exact Aq1.1) (oia hZ Aq1.2.1) (g := (mkF m 4 #[rv s_, rv a] [(.ref a), (.int 0), (.ref a), (.ref s_)])) rfl rfl (hb hby d1_4) _ z) ?_
  rw [len_of S1 M1]
  show OG p e below Φ s₁ m 5 #[rv s_, rv a] [(.int 4), (.int 0), (.ref a), (.ref s_)]
  refine os (fun _ z => XS.aconstNull X0.here hx rfl (hb hby d1_5) z) ?_
  obtain ⟨_, T2, L2, X2, hQ2, st2⟩ := own_callSp X0 hx hZ rfl hown (ow10 hw) (ow11 hw) (ow6 hw) (ow13 hw) (by decide) (rsl4i4 l Z a0 hw [] s_ a ca qc c0_ c1_ c2_ c3_ h0 n0 Z0 E_s g_s F_v F_c V_a nsa S_q hq hl0 hl1 hl2 hl3) e0 (W := 0) (by decide) (by decide) (by decide) (by decide) (pc := 6) (ls := #[rv s_, rv a]) (stk := [.null, (.int 4), (.int 0), (.ref a), (.ref s_)]) (by rw [hml]; rfl) (a := s_) (argsL := [(.ref a), (.int 0), (.int 4), .null]) (rest := []) (lenOf pd0 rfl) rfl rfl (Nat.le_of_eq rfl) (hb hby d1_6)
  obtain ⟨rfl, Nq2, Kq2, Eq2, b2, cb2, Fv2, Fc2, Vq2, hz2⟩ := hQ2
  have nq2_a : a ≠ b2 := Nat.ne_of_lt (Nat.lt_of_lt_of_le V_a.lt hz2)
  have nq2_s_ : s_ ≠ b2 := Nat.ne_of_lt (Nat.lt_of_lt_of_le E_s.lt hz2)
  have gq2 : n0 ≤ b2 := Nat.le_trans Z0 hz2
  have sq2 : h0.size ≤ b2 := Nat.le_trans K0.1 hz2
  have N2 := Fr.app N0 Nq2
  have Zs2 : n0 ≤ T2.heap.size := Nat.le_trans Z0 Kq2.1
  have F3 := V_a.keep Kq2 (ninS (Ne.symm nsa) nin0)
  have K2 := K0.trans Kq2 (allS (Or.inl (List.mem_of_getElem? (i := 0) rfl)) all0)
  refine os st2 ?_
  show OG p e below Φ T2 m 9 #[rv s_, rv a] []
  refine OGo.fin X2 hlk (v := none) (fun _ => rfl) (by decide) (by decide) (fun fs hr => X2.returnOut hx hret (hb hby d1_9) hr) fun U eU hF => hΦ _ _ _ ?_ hF
  rw [eU]
  show Q_rsl4i1 Z s_ a ca qc c0_ c1_ c2_ c3_ h0 n0 _ _ _
  exact ⟨rfl, N2, K2, Eq2, _, _, Fv2, Fc2, Vq2, sq2⟩

theorem ef_rsb4_0c2 (m : MethodId) (x0 : Addr) (x1 : Int32) (x2 : Addr) (x3 : Int32) (x4 : Int32) : entryFrame m #[(.ref x0), (.int x1), (.ref x2), (.int x3), (.int x4)] 7 = mkF m 0 #[.val (.ref x0), .val (.int x1), .val (.ref x2), .val (.int x3), .val (.int x4), .unset, .unset] [] := by first | (simp [entryFrame, mkF, argsToLocals, Value.category]; done) | rfl
def Q_rsb4_0c2 (Z : State) (a : Addr) (ca : ClassId) (b : Addr) (cb : ClassId) (c0_ : Int32) (c1_ : Int32) (c2_ : Int32) (c3_ : Int32) (h0 : Heap) (n0 : Nat) (v : Option Value) (h : Heap) (L : List Loc) : Prop := v = some (.int (0 : Int32)) ∧ Fr n0 L ∧ Keep h0 h [b]
set_option maxRecDepth 65536 in
set_option maxHeartbeats 40000000 in
theorem rsb4_0c2 (l : Launch) (Z : State) (a0 : Array Value) (hw : ∀ d ∈ tables_1, d.before a0 Z = true) (ws : List Jvm.Cond) (a : Addr) (ca : ClassId) (b : Addr) (cb : ClassId) (c0_ : Int32) (c1_ : Int32) (c2_ : Int32) (c3_ : Int32) (h0 : Heap) (n0 : Nat) (Z0 : n0 ≤ h0.size) (V_a : Arv Z h0 a ca .char (4 : Int32) [(.int c0_), (.int c1_), (.int c2_), (.int c3_)] (.int (0 : Int32))) (V_b : Arv Z h0 b cb .byte (4 : Int32) [(.int (0 : Int32)), (.int (0 : Int32)), (.int (0 : Int32)), (.int (0 : Int32))] (.int (0 : Int32))) (nab : a ≠ b) (g_b : n0 ≤ b) (hb0 : (255 : Int32) < c0_) :
    OCon l Z (⟨"java/lang/StringUTF16", "compress", "([CI[BII)I"⟩ : MethodName) jdk_52_method_21_code 7 (some .int) ws ({ frames := 0, cells := 0, slots := 0, locals := 0 } : Room) #[(.ref a), (.int (0 : Int32)), (.ref b), (.int (0 : Int32)), (.int (4 : Int32))] h0 (Q_rsb4_0c2 Z a ca b cb c0_ c1_ c2_ c3_ h0 n0) := by
  refine OCon.of (plainFor_of_name pn1) ?_
  intro p e s m below meth c s₁ Φ X0 hx hby hml hown hnm hret hlk hZ e0 hΦ
  have N0 := Fr.nil n0
  refine os (fun _ z => castTop (ef_rsb4_0c2 m a (0 : Int32) b (0 : Int32) (4 : Int32)) z) ?_
  have K0 := Keep.refl h0 [b]
  show OG p e below Φ s₁ m 0 #[rv a, iv 0, rv b, iv 0, iv 4, .unset, .unset] []
  refine os (fun _ z => XS.iconst X0.here hx rfl (hb hby d5_0) z) ?_
  refine os (fun _ z => XS.istore X0.here hx rfl (hb hby d5_1) rfl (l' := #[rv a, iv 0, rv b, iv 0, iv 4, iv 0, .unset]) rfl z) ?_
  show OG p e below Φ s₁ m 3 #[rv a, iv 0, rv b, iv 0, iv 4, iv 0, .unset] []
  refine os (fun _ z => XS.iload X0.here hx rfl (hb hby d5_3) rfl z) ?_
  refine os (fun _ z => XS.iload X0.here hx rfl (hb hby d5_5) rfl z) ?_
  show OG p e below Φ s₁ m 7 #[rv a, iv 0, rv b, iv 0, iv 4, iv 0, .unset] [(.int 4), (.int 0)]
  refine os (fun _ z => XS.icmpNo X0.here hx rfl (hb hby d5_7) rfl (XT.ii_ge_f (by decide)) z) ?_
  show OG p e below Φ s₁ m 10 #[rv a, iv 0, rv b, iv 0, iv 4, iv 0, .unset] []
  refine os (fun _ z => XS.aloadN X0.here hx rfl (hb hby d5_10) rfl rfl z) ?_
  refine os (fun _ z => XS.iloadN X0.here hx rfl (hb hby d5_11) rfl z) ?_
  show OG p e below Φ s₁ m 12 #[rv a, iv 0, rv b, iv 0, iv 4, iv 0, .unset] [(.int 0), (.ref a)]
  obtain ⟨cl1, Aq1, -, S1, M1, H1, -⟩ := id V_a
  have in1 : ¬ ((0 : Int32) < 0 ∨ cl1.slots.size ≤ (0 : Int32).toNatClampNeg) := inb_of S1 ⟨by decide, by decide⟩
  have at1 : cl1.slots[(0 : Int32).toNatClampNeg]? = some (.int c0_) := H1.at in1 rfl
  refine os (fun _ z => X0.caload hx (by rw [e0]; exact Aq1.1) (oia hZ Aq1.2.1) Aq1.2.2 in1 at1 (g := (mkF m 12 #[rv a, iv 0, rv b, iv 0, iv 4, iv 0, .unset] [(.int 0), (.ref a)])) rfl rfl (hb hby d5_12) _ z) ?_
  show OG p e below Φ s₁ m 13 #[rv a, iv 0, rv b, iv 0, iv 4, iv 0, .unset] [(.int c0_)]
  refine os (fun _ z => XS.istore X0.here hx rfl (hb hby d5_13) rfl (l' := #[rv a, iv 0, rv b, iv 0, iv 4, iv 0, iv c0_]) rfl z) ?_
  show OG p e below Φ s₁ m 15 #[rv a, iv 0, rv b, iv 0, iv 4, iv 0, iv c0_] []
  refine os (fun _ z => XS.iload X0.here hx rfl (hb hby d5_15) rfl z) ?_
  refine os (fun _ z => XS.sipush X0.here hx rfl (hb hby d5_17) z) ?_
  show OG p e below Φ s₁ m 20 #[rv a, iv 0, rv b, iv 0, iv 4, iv 0, iv c0_] [(.int 255), (.int c0_)]
  refine os (fun _ z => XS.icmpNo X0.here hx rfl (hb hby d5_20) rfl (XT.ii_le_f hb0) z) ?_
  show OG p e below Φ s₁ m 23 #[rv a, iv 0, rv b, iv 0, iv 4, iv 0, iv c0_] []
  refine os (fun _ z => XS.iload X0.here hx rfl (hb hby d5_23) rfl z) ?_
  refine OGo.fin X0 hlk (v := (some (.int 0))) (fun h => by rw [hret] at h; cases h) (by decide) (by decide) (fun fs hr => X0.ireturnOut hx hret rfl (by simp) (hb hby d5_25) hr) fun U eU hF => hΦ _ _ _ ?_ hF
  rw [eU, e0]
  show Q_rsb4_0c2 Z a ca b cb c0_ c1_ c2_ c3_ h0 n0 _ _ _
  exact ⟨rfl, N0, K0⟩

theorem ef_rsb4_0nl (m : MethodId) (x0 : Int32) : entryFrame m #[(.int x0)] 1 = mkF m 0 #[.val (.int x0)] [] := by first | (simp [entryFrame, mkF, argsToLocals, Value.category]; done) | rfl
def Q_rsb4_0nl (Z : State)  (h0 : Heap) (n0 : Nat) (v : Option Value) (h : Heap) (L : List Loc) : Prop := v = some (.int (8 : Int32)) ∧ Fr n0 L ∧ h = h0
set_option maxRecDepth 65536 in
set_option maxHeartbeats 40000000 in
theorem rsb4_0nl (l : Launch) (Z : State) (a0 : Array Value) (hw : ∀ d ∈ tables_1, d.before a0 Z = true) (ws : List Jvm.Cond)  (h0 : Heap) (n0 : Nat) (Z0 : n0 ≤ h0.size)  :
    OCon l Z (⟨"java/lang/StringUTF16", "newBytesLength", "(I)I"⟩ : MethodName) jdk_52_method_3_code 1 (some .int) ws ({ frames := 0, cells := 0, slots := 0, locals := 0 } : Room) #[(.int (4 : Int32))] h0 (Q_rsb4_0nl Z  h0 n0) := by
  refine OCon.of (plainFor_of_name pn1) ?_
  intro p e s m below meth c s₁ Φ X0 hx hby hml hown hnm hret hlk hZ e0 hΦ
  have N0 := Fr.nil n0
  refine os (fun _ z => castTop (ef_rsb4_0nl m (4 : Int32)) z) ?_
  show OG p e below Φ s₁ m 0 #[iv 4] []
  refine os (fun _ z => XS.iloadN X0.here hx rfl (hb hby d12_0) rfl z) ?_
  refine os (fun _ z => XS.ifYes X0.here hx rfl (pc0 := 1) (pc' := 12) rfl (hb hby d12_1) rfl (XT.i0_ge_t (by decide)) (by decide) (by decide) z) ?_
  show OG p e below Φ s₁ m 12 #[iv 4] []
  refine os (fun _ z => XS.iloadN X0.here hx rfl (hb hby d12_12) rfl z) ?_
  refine os (fun _ z => X0.ldcI hx hown (mvT hZ (ow61 hw)) rfl (hb hby d12_13) z) ?_
  show OG p e below Φ s₁ m 15 #[iv 4] [(.int 1073741823), (.int 4)]
  refine os (fun _ z => XS.icmpYes X0.here hx rfl (pc0 := 15) (pc' := 55) rfl (hb hby d12_15) rfl (XT.ii_lt_t (by decide)) (by decide) (by decide) z) ?_
  show OG p e below Φ s₁ m 55 #[iv 4] []
  refine os (fun _ z => XS.iloadN X0.here hx rfl (hb hby d12_55) rfl z) ?_
  refine os (fun _ z => XS.iconst X0.here hx rfl (hb hby d12_56) z) ?_
  show OG p e below Φ s₁ m 57 #[iv 4] [(.int 1), (.int 4)]
  refine os (fun _ z => XT.ishl X0.here hx rfl (hb hby d12_57) rfl z) ?_
  show OG p e below Φ s₁ m 58 #[iv 4] [(.int 8)]
  refine OGo.fin X0 hlk (v := (some (.int 8))) (fun h => by rw [hret] at h; cases h) (by decide) (by decide) (fun fs hr => X0.ireturnOut hx hret rfl (by simp) (hb hby d12_58) hr) fun U eU hF => hΦ _ _ _ ?_ hF
  rw [eU, e0]
  show Q_rsb4_0nl Z  h0 n0 _ _ _
  exact ⟨rfl, N0, rfl⟩

theorem ef_rsb4_0nf (m : MethodId) (x0 : Int32) : entryFrame m #[(.int x0)] 1 = mkF m 0 #[.val (.int x0)] [] := by first | (simp [entryFrame, mkF, argsToLocals, Value.category]; done) | rfl
def Q_rsb4_0nf (Z : State)  (h0 : Heap) (n0 : Nat) (v : Option Value) (h : Heap) (L : List Loc) : Prop := ∃ b cb, v = some (.ref b) ∧ Fr n0 L ∧ Keep h0 h [] ∧ Arv Z h b cb .byte (8 : Int32) [(.int (0 : Int32)), (.int (0 : Int32)), (.int (0 : Int32)), (.int (0 : Int32)), (.int (0 : Int32)), (.int (0 : Int32)), (.int (0 : Int32)), (.int (0 : Int32))] (.int (0 : Int32)) ∧ h0.size ≤ b
set_option maxRecDepth 65536 in
set_option maxHeartbeats 40000000 in
theorem rsb4_0nf (l : Launch) (Z : State) (a0 : Array Value) (hw : ∀ d ∈ tables_1, d.before a0 Z = true) (ws : List Jvm.Cond)  (h0 : Heap) (n0 : Nat) (Z0 : n0 ≤ h0.size)  :
    OCon l Z (⟨"java/lang/StringUTF16", "newBytesFor", "(I)[B"⟩ : MethodName) jdk_52_method_2_code 1 (some (.array .byte)) ws ({ frames := 1, cells := 1, slots := 8, locals := 12 } : Room) #[(.int (4 : Int32))] h0 (Q_rsb4_0nf Z  h0 n0) := by
  refine OCon.of (plainFor_of_name pn1) ?_
  intro p e s m below meth c s₁ Φ X0 hx hby hml hown hnm hret hlk hZ e0 hΦ
  have N0 := Fr.nil n0
  refine os (fun _ z => castTop (ef_rsb4_0nf m (4 : Int32)) z) ?_
  have K0 := Keep.refl h0 []
  show OG p e below Φ s₁ m 0 #[iv 4] []
  refine os (fun _ z => XS.iloadN X0.here hx rfl (hb hby d11_0) rfl z) ?_
  obtain ⟨_, T1, L1, X1, hQ1, st1⟩ := own_callSt X0 hx hZ hown (ow58 hw) (ow59 hw) (ow20 hw) (ow60 hw) (by decide) (rsb4_0nl l Z a0 hw []  h0 n0 Z0 ) e0 (W := 0) (by decide) (by decide) (by decide) (by decide) (pc := 1) (ls := #[iv 4]) (stk := [(.int 4)]) (by rw [hml]; rfl) (argsL := [(.int 4)]) (rest := []) (lenOf pd4 rfl) rfl rfl (Nat.le_of_eq rfl) (hb hby d11_1)
  obtain ⟨rfl, Nq1, e1⟩ := hQ1
  have N1 := Fr.app N0 Nq1
  refine os st1 ?_
  show OG p e below Φ T1 m 4 #[iv 4] [(.int 8)]
  obtain ⟨T2, h2, c2, X2, e2, E2, Ar2, st2⟩ := newP (aty := .byte) X1 hx hZ (ow1 hw) e1 (g := (mkF m 4 #[iv 4] [(.int 8)])) rfl (hb hby d11_4) rfl (by decide) (cap := 8) (by decide) (by decide) (by decide) (by decide)
  obtain ⟨b2, g2⟩ : ∃ z, z = h0.size := ⟨_, rfl⟩
  rw [← g2] at Ar2 st2
  have gb2 : n0 ≤ b2 := Nat.le_trans Z0 (Nat.le_of_eq g2.symm)
  have sz2 : h0.size ≤ b2 := Nat.le_trans K0.1 (Nat.le_of_eq g2.symm)
  have K2 := K0.ext E2
  have Zs2 : n0 ≤ h2.size := Nat.le_trans Z0 E2.1
  have V2 : Arv Z h2 b2 c2 .byte (8 : Int32) [(.int (0 : Int32)), (.int (0 : Int32)), (.int (0 : Int32)), (.int (0 : Int32)), (.int (0 : Int32)), (.int (0 : Int32)), (.int (0 : Int32)), (.int (0 : Int32))] (.int (0 : Int32)) := (Arv.new Ar2 (by decide)).pad (pad_rep [] _ 8)
  refine os st2 ?_
  show OG p e below Φ T2 m 6 #[iv 4] [(.ref b2)]
  refine OGo.fin X2 hlk (v := (some (.ref b2))) (fun h => by rw [hret] at h; cases h) (by decide) (by decide) (fun fs hr => X2.areturnOut hx rfl hret rfl (hb hby d11_6) hr) fun U eU hF => hΦ _ _ _ ?_ hF
  rw [eU, e2]
  show Q_rsb4_0nf Z  h0 n0 _ _ _
  exact ⟨_, _, rfl, N1, K2, V2, sz2⟩

theorem ef_rsb4_0pc0 (m : MethodId) (x0 : Addr) (x1 : Int32) (x2 : Int32) : entryFrame m #[(.ref x0), (.int x1), (.int x2)] 3 = mkF m 0 #[.val (.ref x0), .val (.int x1), .val (.int x2)] [] := by first | (simp [entryFrame, mkF, argsToLocals, Value.category]; done) | rfl
def Q_rsb4_0pc0 (Z : State) (b : Addr) (cb : ClassId) (c0_ : Int32) (c1_ : Int32) (c2_ : Int32) (c3_ : Int32) (h0 : Heap) (n0 : Nat) (v : Option Value) (h : Heap) (L : List Loc) : Prop := v = none ∧ Fr n0 L ∧ Keep h0 h [b] ∧ Arv Z h b cb .byte (8 : Int32) [(.int (ohb c0_)), (.int (olb c0_)), (.int (0 : Int32)), (.int (0 : Int32)), (.int (0 : Int32)), (.int (0 : Int32)), (.int (0 : Int32)), (.int (0 : Int32))] (.int (0 : Int32))
set_option maxRecDepth 65536 in
set_option maxHeartbeats 40000000 in
theorem rsb4_0pc0 (l : Launch) (Z : State) (a0 : Array Value) (hw : ∀ d ∈ tables_1, d.before a0 Z = true) (ws : List Jvm.Cond) (b : Addr) (cb : ClassId) (c0_ : Int32) (c1_ : Int32) (c2_ : Int32) (c3_ : Int32) (h0 : Heap) (n0 : Nat) (Z0 : n0 ≤ h0.size) (V_b : Arv Z h0 b cb .byte (8 : Int32) [(.int (0 : Int32)), (.int (0 : Int32)), (.int (0 : Int32)), (.int (0 : Int32)), (.int (0 : Int32)), (.int (0 : Int32)), (.int (0 : Int32)), (.int (0 : Int32))] (.int (0 : Int32))) (g_b : n0 ≤ b) (S_ad : Sta Z h0 "java/lang/StringUTF16" "$assertionsDisabled" "Z" (.int (1 : Int32))) (S_hb : Sta Z h0 "java/lang/StringUTF16" "HI_BYTE_SHIFT" "I" (.int (0 : Int32))) (S_lb : Sta Z h0 "java/lang/StringUTF16" "LO_BYTE_SHIFT" "I" (.int (8 : Int32))) :
    OCon l Z (⟨"java/lang/StringUTF16", "putChar", "([BII)V"⟩ : MethodName) jdk_52_method_4_code 3 none ws ({ frames := 0, cells := 0, slots := 0, locals := 0 } : Room) #[(.ref b), (.int (0 : Int32)), (.int c0_)] h0 (Q_rsb4_0pc0 Z b cb c0_ c1_ c2_ c3_ h0 n0) := by
  refine OCon.of (plainFor_of_name pn1) ?_
  intro p e s m below meth c s₁ Φ X0 hx hby hml hown hnm hret hlk hZ e0 hΦ
  have N0 := Fr.nil n0
  refine os (fun _ z => castTop (ef_rsb4_0pc0 m b (0 : Int32) c0_) z) ?_
  have K0 := Keep.refl h0 [b]
  show OG p e below Φ s₁ m 0 #[rv b, iv 0, iv c0_] []
  obtain ⟨T1, X1, e1, st1⟩ := getS2 X0 hx hZ hown (host := "") (Or.inl (ow65 hw)) Via.refl e0 S_ad (g := (mkF m 0 #[rv b, iv 0, iv c0_] [])) rfl (hb hby d13_0)
  refine os st1 ?_
  show OG p e below Φ T1 m 3 #[rv b, iv 0, iv c0_] [(.int 1)]
  refine os (fun _ z => XS.ifYes X1.here hx rfl (pc0 := 3) (pc' := 28) rfl (hb hby d13_3) rfl (XT.i0_ne_t (by decide)) (by decide) (by decide) z) ?_
  show OG p e below Φ T1 m 28 #[rv b, iv 0, iv c0_] []
  refine os (fun _ z => XS.iloadN X1.here hx rfl (hb hby d13_28) rfl z) ?_
  refine os (fun _ z => XS.iconst X1.here hx rfl (hb hby d13_29) z) ?_
  show OG p e below Φ T1 m 30 #[rv b, iv 0, iv c0_] [(.int 1), (.int 0)]
  refine os (fun _ z => XT.ishl X1.here hx rfl (hb hby d13_30) rfl z) ?_
  show OG p e below Φ T1 m 31 #[rv b, iv 0, iv c0_] [(.int 0)]
  refine os (fun _ z => XS.istoreN X1.here hx rfl (hb hby d13_31) rfl (l' := #[rv b, iv 0, iv c0_]) rfl z) ?_
  show OG p e below Φ T1 m 32 #[rv b, iv 0, iv c0_] []
  refine os (fun _ z => XS.aloadN X1.here hx rfl (hb hby d13_32) rfl rfl z) ?_
  refine os (fun _ z => XS.iloadN X1.here hx rfl (hb hby d13_33) rfl z) ?_
  show OG p e below Φ T1 m 34 #[rv b, iv 0, iv c0_] [(.int 0), (.ref b)]
  refine os (fun _ z => XS.iinc X1.here hx rfl (hb hby d13_34) rfl (l' := #[rv b, iv ((0 : Int32) + (1 : Int32)), iv c0_]) rfl z) ?_
  show OG p e below Φ T1 m 37 #[rv b, iv 1, iv c0_] [(.int 0), (.ref b)]
  refine os (fun _ z => XS.iloadN X1.here hx rfl (hb hby d13_37) rfl z) ?_
  obtain ⟨T2, X2, e2, st2⟩ := getS2 X1 hx hZ hown (host := "") (Or.inl (ow66 hw)) Via.refl e1 S_hb (g := (mkF m 38 #[rv b, iv 1, iv c0_] [(.int c0_), (.int 0), (.ref b)])) rfl (hb hby d13_38)
  refine os st2 ?_
  show OG p e below Φ T2 m 41 #[rv b, iv 1, iv c0_] [(.int 0), (.int c0_), (.int 0), (.ref b)]
  refine os (fun _ z => XT.ishr X2.here hx rfl (hb hby d13_41) rfl z) ?_
  show OG p e below Φ T2 m 42 #[rv b, iv 1, iv c0_] [(.int (c0_ >>> ((0 : Int32) &&& 31))), (.int 0), (.ref b)]
  refine os (fun _ z => XT.i2b X2.here hx rfl (hb hby d13_42) rfl z) ?_
  show OG p e below Φ T2 m 43 #[rv b, iv 1, iv c0_] [(.int ((c0_ >>> ((0 : Int32) &&& 31)).toInt8.toInt32)), (.int 0), (.ref b)]
  obtain ⟨cl3, Aq3, Cq3, S3, M3, H3, G3⟩ := id V_b
  have in3 : ¬ ((0 : Int32) < 0 ∨ cl3.slots.size ≤ (0 : Int32).toNatClampNeg) := inb_of S3 ⟨by decide, by decide⟩
  obtain ⟨T3, h3, X3, e3, W3, st3⟩ := stB X2 hx hZ e2 Aq3 in3 (g := (mkF m 43 #[rv b, iv 1, iv c0_] [(.int ((c0_ >>> ((0 : Int32) &&& 31)).toInt8.toInt32)), (.int 0), (.ref b)])) rfl rfl (hb hby d13_43)
  have W3 : Wr h0 h3 b (0 : Int32).toNatClampNeg (.int (nar .byte ((c0_ >>> ((0 : Int32) &&& 31)).toInt8.toInt32))) := W3
  have F4 := S_ad.wr W3
  have F5 := S_hb.wr W3
  have F6 := S_lb.wr W3
  have V3 : Arv Z h3 b cb .byte (8 : Int32) [(.int (nar .byte ((c0_ >>> ((0 : Int32) &&& 31)).toInt8.toInt32))), (.int (0 : Int32)), (.int (0 : Int32)), (.int (0 : Int32)), (.int (0 : Int32)), (.int (0 : Int32)), (.int (0 : Int32)), (.int (0 : Int32))] (.int (0 : Int32)) := Arv.set Aq3 Cq3 S3 M3 H3 G3 (fits_nar_byte _) W3 0 (by decide) (by show 0 < 8; decide)
  have K3 := K0.wr W3 (Or.inl (List.mem_of_getElem? (i := 0) rfl))
  have N3 := Fr.snoc X3 N0 g_b
  have Zs3 : n0 ≤ h3.size := by rw [W3.size]; exact Z0
  refine os st3 ?_
  show OG p e below Φ T3 m 44 #[rv b, iv 1, iv c0_] []
  refine os (fun _ z => XS.aloadN X3.here hx rfl (hb hby d13_44) rfl rfl z) ?_
  refine os (fun _ z => XS.iloadN X3.here hx rfl (hb hby d13_45) rfl z) ?_
  show OG p e below Φ T3 m 46 #[rv b, iv 1, iv c0_] [(.int 1), (.ref b)]
  refine os (fun _ z => XS.iloadN X3.here hx rfl (hb hby d13_46) rfl z) ?_
  obtain ⟨T7, X7, e7, st7⟩ := getS2 X3 hx hZ hown (host := "") (Or.inl (ow67 hw)) Via.refl e3 F6 (g := (mkF m 47 #[rv b, iv 1, iv c0_] [(.int c0_), (.int 1), (.ref b)])) rfl (hb hby d13_47)
  refine os st7 ?_
  show OG p e below Φ T7 m 50 #[rv b, iv 1, iv c0_] [(.int 8), (.int c0_), (.int 1), (.ref b)]
  refine os (fun _ z => XT.ishr X7.here hx rfl (hb hby d13_50) rfl z) ?_
  show OG p e below Φ T7 m 51 #[rv b, iv 1, iv c0_] [(.int (c0_ >>> ((8 : Int32) &&& 31))), (.int 1), (.ref b)]
  refine os (fun _ z => XT.i2b X7.here hx rfl (hb hby d13_51) rfl z) ?_
  show OG p e below Φ T7 m 52 #[rv b, iv 1, iv c0_] [(.int ((c0_ >>> ((8 : Int32) &&& 31)).toInt8.toInt32)), (.int 1), (.ref b)]
  obtain ⟨cl8, Aq8, Cq8, S8, M8, H8, G8⟩ := id V3
  have in8 : ¬ ((1 : Int32) < 0 ∨ cl8.slots.size ≤ (1 : Int32).toNatClampNeg) := inb_of S8 ⟨by decide, by decide⟩
  obtain ⟨T8, h8, X8, e8, W8, st8⟩ := stB X7 hx hZ e7 Aq8 in8 (g := (mkF m 52 #[rv b, iv 1, iv c0_] [(.int ((c0_ >>> ((8 : Int32) &&& 31)).toInt8.toInt32)), (.int 1), (.ref b)])) rfl rfl (hb hby d13_52)
  have W8 : Wr h3 h8 b (1 : Int32).toNatClampNeg (.int (nar .byte ((c0_ >>> ((8 : Int32) &&& 31)).toInt8.toInt32))) := W8
  have F9 := F4.wr W8
  have F10 := F5.wr W8
  have F11 := F6.wr W8
  have V8 : Arv Z h8 b cb .byte (8 : Int32) [(.int (nar .byte ((c0_ >>> ((0 : Int32) &&& 31)).toInt8.toInt32))), (.int (nar .byte ((c0_ >>> ((8 : Int32) &&& 31)).toInt8.toInt32))), (.int (0 : Int32)), (.int (0 : Int32)), (.int (0 : Int32)), (.int (0 : Int32)), (.int (0 : Int32)), (.int (0 : Int32))] (.int (0 : Int32)) := Arv.set Aq8 Cq8 S8 M8 H8 G8 (fits_nar_byte _) W8 1 (by decide) (by show 1 < 8; decide)
  have K8 := K3.wr W8 (Or.inl (List.mem_of_getElem? (i := 0) rfl))
  have N8 := Fr.snoc X8 N3 g_b
  have Zs8 : n0 ≤ h8.size := by rw [W8.size]; exact Zs3
  refine os st8 ?_
  show OG p e below Φ T8 m 53 #[rv b, iv 1, iv c0_] []
  refine OGo.fin X8 hlk (v := none) (fun _ => rfl) (by decide) (by decide) (fun fs hr => X8.returnOut hx hret (hb hby d13_53) hr) fun U eU hF => hΦ _ _ _ ?_ hF
  rw [eU, e8]
  show Q_rsb4_0pc0 Z b cb c0_ c1_ c2_ c3_ h0 n0 _ _ _
  exact ⟨rfl, N8, K8, V8⟩

theorem ef_rsb4_0pc1 (m : MethodId) (x0 : Addr) (x1 : Int32) (x2 : Int32) : entryFrame m #[(.ref x0), (.int x1), (.int x2)] 3 = mkF m 0 #[.val (.ref x0), .val (.int x1), .val (.int x2)] [] := by first | (simp [entryFrame, mkF, argsToLocals, Value.category]; done) | rfl
def Q_rsb4_0pc1 (Z : State) (b : Addr) (cb : ClassId) (c0_ : Int32) (c1_ : Int32) (c2_ : Int32) (c3_ : Int32) (h0 : Heap) (n0 : Nat) (v : Option Value) (h : Heap) (L : List Loc) : Prop := v = none ∧ Fr n0 L ∧ Keep h0 h [b] ∧ Arv Z h b cb .byte (8 : Int32) [(.int (ohb c0_)), (.int (olb c0_)), (.int (ohb c1_)), (.int (olb c1_)), (.int (0 : Int32)), (.int (0 : Int32)), (.int (0 : Int32)), (.int (0 : Int32))] (.int (0 : Int32))
set_option maxRecDepth 65536 in
set_option maxHeartbeats 40000000 in
theorem rsb4_0pc1 (l : Launch) (Z : State) (a0 : Array Value) (hw : ∀ d ∈ tables_1, d.before a0 Z = true) (ws : List Jvm.Cond) (b : Addr) (cb : ClassId) (c0_ : Int32) (c1_ : Int32) (c2_ : Int32) (c3_ : Int32) (h0 : Heap) (n0 : Nat) (Z0 : n0 ≤ h0.size) (V_b : Arv Z h0 b cb .byte (8 : Int32) [(.int (ohb c0_)), (.int (olb c0_)), (.int (0 : Int32)), (.int (0 : Int32)), (.int (0 : Int32)), (.int (0 : Int32)), (.int (0 : Int32)), (.int (0 : Int32))] (.int (0 : Int32))) (g_b : n0 ≤ b) (S_ad : Sta Z h0 "java/lang/StringUTF16" "$assertionsDisabled" "Z" (.int (1 : Int32))) (S_hb : Sta Z h0 "java/lang/StringUTF16" "HI_BYTE_SHIFT" "I" (.int (0 : Int32))) (S_lb : Sta Z h0 "java/lang/StringUTF16" "LO_BYTE_SHIFT" "I" (.int (8 : Int32))) :
    OCon l Z (⟨"java/lang/StringUTF16", "putChar", "([BII)V"⟩ : MethodName) jdk_52_method_4_code 3 none ws ({ frames := 0, cells := 0, slots := 0, locals := 0 } : Room) #[(.ref b), (.int (1 : Int32)), (.int c1_)] h0 (Q_rsb4_0pc1 Z b cb c0_ c1_ c2_ c3_ h0 n0) := by
  refine OCon.of (plainFor_of_name pn1) ?_
  intro p e s m below meth c s₁ Φ X0 hx hby hml hown hnm hret hlk hZ e0 hΦ
  have N0 := Fr.nil n0
  refine os (fun _ z => castTop (ef_rsb4_0pc1 m b (1 : Int32) c1_) z) ?_
  have K0 := Keep.refl h0 [b]
  show OG p e below Φ s₁ m 0 #[rv b, iv 1, iv c1_] []
  obtain ⟨T1, X1, e1, st1⟩ := getS2 X0 hx hZ hown (host := "") (Or.inl (ow65 hw)) Via.refl e0 S_ad (g := (mkF m 0 #[rv b, iv 1, iv c1_] [])) rfl (hb hby d13_0)
  refine os st1 ?_
  show OG p e below Φ T1 m 3 #[rv b, iv 1, iv c1_] [(.int 1)]
  refine os (fun _ z => XS.ifYes X1.here hx rfl (pc0 := 3) (pc' := 28) rfl (hb hby d13_3) rfl (XT.i0_ne_t (by decide)) (by decide) (by decide) z) ?_
  show OG p e below Φ T1 m 28 #[rv b, iv 1, iv c1_] []
  refine os (fun _ z => XS.iloadN X1.here hx rfl (hb hby d13_28) rfl z) ?_
  refine os (fun _ z => XS.iconst X1.here hx rfl (hb hby d13_29) z) ?_
  show OG p e below Φ T1 m 30 #[rv b, iv 1, iv c1_] [(.int 1), (.int 1)]
  refine os (fun _ z => XT.ishl X1.here hx rfl (hb hby d13_30) rfl z) ?_
  show OG p e below Φ T1 m 31 #[rv b, iv 1, iv c1_] [(.int 2)]
  refine os (fun _ z => XS.istoreN X1.here hx rfl (hb hby d13_31) rfl (l' := #[rv b, iv 2, iv c1_]) rfl z) ?_
  show OG p e below Φ T1 m 32 #[rv b, iv 2, iv c1_] []
  refine os (fun _ z => XS.aloadN X1.here hx rfl (hb hby d13_32) rfl rfl z) ?_
  refine os (fun _ z => XS.iloadN X1.here hx rfl (hb hby d13_33) rfl z) ?_
  show OG p e below Φ T1 m 34 #[rv b, iv 2, iv c1_] [(.int 2), (.ref b)]
  refine os (fun _ z => XS.iinc X1.here hx rfl (hb hby d13_34) rfl (l' := #[rv b, iv ((2 : Int32) + (1 : Int32)), iv c1_]) rfl z) ?_
  show OG p e below Φ T1 m 37 #[rv b, iv 3, iv c1_] [(.int 2), (.ref b)]
  refine os (fun _ z => XS.iloadN X1.here hx rfl (hb hby d13_37) rfl z) ?_
  obtain ⟨T2, X2, e2, st2⟩ := getS2 X1 hx hZ hown (host := "") (Or.inl (ow66 hw)) Via.refl e1 S_hb (g := (mkF m 38 #[rv b, iv 3, iv c1_] [(.int c1_), (.int 2), (.ref b)])) rfl (hb hby d13_38)
  refine os st2 ?_
  show OG p e below Φ T2 m 41 #[rv b, iv 3, iv c1_] [(.int 0), (.int c1_), (.int 2), (.ref b)]
  refine os (fun _ z => XT.ishr X2.here hx rfl (hb hby d13_41) rfl z) ?_
  show OG p e below Φ T2 m 42 #[rv b, iv 3, iv c1_] [(.int (c1_ >>> ((0 : Int32) &&& 31))), (.int 2), (.ref b)]
  refine os (fun _ z => XT.i2b X2.here hx rfl (hb hby d13_42) rfl z) ?_
  show OG p e below Φ T2 m 43 #[rv b, iv 3, iv c1_] [(.int ((c1_ >>> ((0 : Int32) &&& 31)).toInt8.toInt32)), (.int 2), (.ref b)]
  obtain ⟨cl3, Aq3, Cq3, S3, M3, H3, G3⟩ := id V_b
  have in3 : ¬ ((2 : Int32) < 0 ∨ cl3.slots.size ≤ (2 : Int32).toNatClampNeg) := inb_of S3 ⟨by decide, by decide⟩
  obtain ⟨T3, h3, X3, e3, W3, st3⟩ := stB X2 hx hZ e2 Aq3 in3 (g := (mkF m 43 #[rv b, iv 3, iv c1_] [(.int ((c1_ >>> ((0 : Int32) &&& 31)).toInt8.toInt32)), (.int 2), (.ref b)])) rfl rfl (hb hby d13_43)
  have W3 : Wr h0 h3 b (2 : Int32).toNatClampNeg (.int (nar .byte ((c1_ >>> ((0 : Int32) &&& 31)).toInt8.toInt32))) := W3
  have F4 := S_ad.wr W3
  have F5 := S_hb.wr W3
  have F6 := S_lb.wr W3
  have V3 : Arv Z h3 b cb .byte (8 : Int32) [(.int (ohb c0_)), (.int (olb c0_)), (.int (nar .byte ((c1_ >>> ((0 : Int32) &&& 31)).toInt8.toInt32))), (.int (0 : Int32)), (.int (0 : Int32)), (.int (0 : Int32)), (.int (0 : Int32)), (.int (0 : Int32))] (.int (0 : Int32)) := Arv.set Aq3 Cq3 S3 M3 H3 G3 (fits_nar_byte _) W3 2 (by decide) (by show 2 < 8; decide)
  have K3 := K0.wr W3 (Or.inl (List.mem_of_getElem? (i := 0) rfl))
  have N3 := Fr.snoc X3 N0 g_b
  have Zs3 : n0 ≤ h3.size := by rw [W3.size]; exact Z0
  refine os st3 ?_
  show OG p e below Φ T3 m 44 #[rv b, iv 3, iv c1_] []
  refine os (fun _ z => XS.aloadN X3.here hx rfl (hb hby d13_44) rfl rfl z) ?_
  refine os (fun _ z => XS.iloadN X3.here hx rfl (hb hby d13_45) rfl z) ?_
  show OG p e below Φ T3 m 46 #[rv b, iv 3, iv c1_] [(.int 3), (.ref b)]
  refine os (fun _ z => XS.iloadN X3.here hx rfl (hb hby d13_46) rfl z) ?_
  obtain ⟨T7, X7, e7, st7⟩ := getS2 X3 hx hZ hown (host := "") (Or.inl (ow67 hw)) Via.refl e3 F6 (g := (mkF m 47 #[rv b, iv 3, iv c1_] [(.int c1_), (.int 3), (.ref b)])) rfl (hb hby d13_47)
  refine os st7 ?_
  show OG p e below Φ T7 m 50 #[rv b, iv 3, iv c1_] [(.int 8), (.int c1_), (.int 3), (.ref b)]
  refine os (fun _ z => XT.ishr X7.here hx rfl (hb hby d13_50) rfl z) ?_
  show OG p e below Φ T7 m 51 #[rv b, iv 3, iv c1_] [(.int (c1_ >>> ((8 : Int32) &&& 31))), (.int 3), (.ref b)]
  refine os (fun _ z => XT.i2b X7.here hx rfl (hb hby d13_51) rfl z) ?_
  show OG p e below Φ T7 m 52 #[rv b, iv 3, iv c1_] [(.int ((c1_ >>> ((8 : Int32) &&& 31)).toInt8.toInt32)), (.int 3), (.ref b)]
  obtain ⟨cl8, Aq8, Cq8, S8, M8, H8, G8⟩ := id V3
  have in8 : ¬ ((3 : Int32) < 0 ∨ cl8.slots.size ≤ (3 : Int32).toNatClampNeg) := inb_of S8 ⟨by decide, by decide⟩
  obtain ⟨T8, h8, X8, e8, W8, st8⟩ := stB X7 hx hZ e7 Aq8 in8 (g := (mkF m 52 #[rv b, iv 3, iv c1_] [(.int ((c1_ >>> ((8 : Int32) &&& 31)).toInt8.toInt32)), (.int 3), (.ref b)])) rfl rfl (hb hby d13_52)
  have W8 : Wr h3 h8 b (3 : Int32).toNatClampNeg (.int (nar .byte ((c1_ >>> ((8 : Int32) &&& 31)).toInt8.toInt32))) := W8
  have F9 := F4.wr W8
  have F10 := F5.wr W8
  have F11 := F6.wr W8
  have V8 : Arv Z h8 b cb .byte (8 : Int32) [(.int (ohb c0_)), (.int (olb c0_)), (.int (nar .byte ((c1_ >>> ((0 : Int32) &&& 31)).toInt8.toInt32))), (.int (nar .byte ((c1_ >>> ((8 : Int32) &&& 31)).toInt8.toInt32))), (.int (0 : Int32)), (.int (0 : Int32)), (.int (0 : Int32)), (.int (0 : Int32))] (.int (0 : Int32)) := Arv.set Aq8 Cq8 S8 M8 H8 G8 (fits_nar_byte _) W8 3 (by decide) (by show 3 < 8; decide)
  have K8 := K3.wr W8 (Or.inl (List.mem_of_getElem? (i := 0) rfl))
  have N8 := Fr.snoc X8 N3 g_b
  have Zs8 : n0 ≤ h8.size := by rw [W8.size]; exact Zs3
  refine os st8 ?_
  show OG p e below Φ T8 m 53 #[rv b, iv 3, iv c1_] []
  refine OGo.fin X8 hlk (v := none) (fun _ => rfl) (by decide) (by decide) (fun fs hr => X8.returnOut hx hret (hb hby d13_53) hr) fun U eU hF => hΦ _ _ _ ?_ hF
  rw [eU, e8]
  show Q_rsb4_0pc1 Z b cb c0_ c1_ c2_ c3_ h0 n0 _ _ _
  exact ⟨rfl, N8, K8, V8⟩

theorem ef_rsb4_0pc2 (m : MethodId) (x0 : Addr) (x1 : Int32) (x2 : Int32) : entryFrame m #[(.ref x0), (.int x1), (.int x2)] 3 = mkF m 0 #[.val (.ref x0), .val (.int x1), .val (.int x2)] [] := by first | (simp [entryFrame, mkF, argsToLocals, Value.category]; done) | rfl
def Q_rsb4_0pc2 (Z : State) (b : Addr) (cb : ClassId) (c0_ : Int32) (c1_ : Int32) (c2_ : Int32) (c3_ : Int32) (h0 : Heap) (n0 : Nat) (v : Option Value) (h : Heap) (L : List Loc) : Prop := v = none ∧ Fr n0 L ∧ Keep h0 h [b] ∧ Arv Z h b cb .byte (8 : Int32) [(.int (ohb c0_)), (.int (olb c0_)), (.int (ohb c1_)), (.int (olb c1_)), (.int (ohb c2_)), (.int (olb c2_)), (.int (0 : Int32)), (.int (0 : Int32))] (.int (0 : Int32))
set_option maxRecDepth 65536 in
set_option maxHeartbeats 40000000 in
theorem rsb4_0pc2 (l : Launch) (Z : State) (a0 : Array Value) (hw : ∀ d ∈ tables_1, d.before a0 Z = true) (ws : List Jvm.Cond) (b : Addr) (cb : ClassId) (c0_ : Int32) (c1_ : Int32) (c2_ : Int32) (c3_ : Int32) (h0 : Heap) (n0 : Nat) (Z0 : n0 ≤ h0.size) (V_b : Arv Z h0 b cb .byte (8 : Int32) [(.int (ohb c0_)), (.int (olb c0_)), (.int (ohb c1_)), (.int (olb c1_)), (.int (0 : Int32)), (.int (0 : Int32)), (.int (0 : Int32)), (.int (0 : Int32))] (.int (0 : Int32))) (g_b : n0 ≤ b) (S_ad : Sta Z h0 "java/lang/StringUTF16" "$assertionsDisabled" "Z" (.int (1 : Int32))) (S_hb : Sta Z h0 "java/lang/StringUTF16" "HI_BYTE_SHIFT" "I" (.int (0 : Int32))) (S_lb : Sta Z h0 "java/lang/StringUTF16" "LO_BYTE_SHIFT" "I" (.int (8 : Int32))) :
    OCon l Z (⟨"java/lang/StringUTF16", "putChar", "([BII)V"⟩ : MethodName) jdk_52_method_4_code 3 none ws ({ frames := 0, cells := 0, slots := 0, locals := 0 } : Room) #[(.ref b), (.int (2 : Int32)), (.int c2_)] h0 (Q_rsb4_0pc2 Z b cb c0_ c1_ c2_ c3_ h0 n0) := by
  refine OCon.of (plainFor_of_name pn1) ?_
  intro p e s m below meth c s₁ Φ X0 hx hby hml hown hnm hret hlk hZ e0 hΦ
  have N0 := Fr.nil n0
  refine os (fun _ z => castTop (ef_rsb4_0pc2 m b (2 : Int32) c2_) z) ?_
  have K0 := Keep.refl h0 [b]
  show OG p e below Φ s₁ m 0 #[rv b, iv 2, iv c2_] []
  obtain ⟨T1, X1, e1, st1⟩ := getS2 X0 hx hZ hown (host := "") (Or.inl (ow65 hw)) Via.refl e0 S_ad (g := (mkF m 0 #[rv b, iv 2, iv c2_] [])) rfl (hb hby d13_0)
  refine os st1 ?_
  show OG p e below Φ T1 m 3 #[rv b, iv 2, iv c2_] [(.int 1)]
  refine os (fun _ z => XS.ifYes X1.here hx rfl (pc0 := 3) (pc' := 28) rfl (hb hby d13_3) rfl (XT.i0_ne_t (by decide)) (by decide) (by decide) z) ?_
  show OG p e below Φ T1 m 28 #[rv b, iv 2, iv c2_] []
  refine os (fun _ z => XS.iloadN X1.here hx rfl (hb hby d13_28) rfl z) ?_
  refine os (fun _ z => XS.iconst X1.here hx rfl (hb hby d13_29) z) ?_
  show OG p e below Φ T1 m 30 #[rv b, iv 2, iv c2_] [(.int 1), (.int 2)]
  refine os (fun _ z => XT.ishl X1.here hx rfl (hb hby d13_30) rfl z) ?_
  show OG p e below Φ T1 m 31 #[rv b, iv 2, iv c2_] [(.int 4)]
  refine os (fun _ z => XS.istoreN X1.here hx rfl (hb hby d13_31) rfl (l' := #[rv b, iv 4, iv c2_]) rfl z) ?_
  show OG p e below Φ T1 m 32 #[rv b, iv 4, iv c2_] []
  refine os (fun _ z => XS.aloadN X1.here hx rfl (hb hby d13_32) rfl rfl z) ?_
  refine os (fun _ z => XS.iloadN X1.here hx rfl (hb hby d13_33) rfl z) ?_
  show OG p e below Φ T1 m 34 #[rv b, iv 4, iv c2_] [(.int 4), (.ref b)]
  refine os (fun _ z => XS.iinc X1.here hx rfl (hb hby d13_34) rfl (l' := #[rv b, iv ((4 : Int32) + (1 : Int32)), iv c2_]) rfl z) ?_
  show OG p e below Φ T1 m 37 #[rv b, iv 5, iv c2_] [(.int 4), (.ref b)]
  refine os (fun _ z => XS.iloadN X1.here hx rfl (hb hby d13_37) rfl z) ?_
  obtain ⟨T2, X2, e2, st2⟩ := getS2 X1 hx hZ hown (host := "") (Or.inl (ow66 hw)) Via.refl e1 S_hb (g := (mkF m 38 #[rv b, iv 5, iv c2_] [(.int c2_), (.int 4), (.ref b)])) rfl (hb hby d13_38)
  refine os st2 ?_
  show OG p e below Φ T2 m 41 #[rv b, iv 5, iv c2_] [(.int 0), (.int c2_), (.int 4), (.ref b)]
  refine os (fun _ z => XT.ishr X2.here hx rfl (hb hby d13_41) rfl z) ?_
  show OG p e below Φ T2 m 42 #[rv b, iv 5, iv c2_] [(.int (c2_ >>> ((0 : Int32) &&& 31))), (.int 4), (.ref b)]
  refine os (fun _ z => XT.i2b X2.here hx rfl (hb hby d13_42) rfl z) ?_
  show OG p e below Φ T2 m 43 #[rv b, iv 5, iv c2_] [(.int ((c2_ >>> ((0 : Int32) &&& 31)).toInt8.toInt32)), (.int 4), (.ref b)]
  obtain ⟨cl3, Aq3, Cq3, S3, M3, H3, G3⟩ := id V_b
  have in3 : ¬ ((4 : Int32) < 0 ∨ cl3.slots.size ≤ (4 : Int32).toNatClampNeg) := inb_of S3 ⟨by decide, by decide⟩
  obtain ⟨T3, h3, X3, e3, W3, st3⟩ := stB X2 hx hZ e2 Aq3 in3 (g := (mkF m 43 #[rv b, iv 5, iv c2_] [(.int ((c2_ >>> ((0 : Int32) &&& 31)).toInt8.toInt32)), (.int 4), (.ref b)])) rfl rfl (hb hby d13_43)
  have W3 : Wr h0 h3 b (4 : Int32).toNatClampNeg (.int (nar .byte ((c2_ >>> ((0 : Int32) &&& 31)).toInt8.toInt32))) := W3
  have F4 := S_ad.wr W3
  have F5 := S_hb.wr W3
  have F6 := S_lb.wr W3
  have V3 : Arv Z h3 b cb .byte (8 : Int32) [(.int (ohb c0_)), (.int (olb c0_)), (.int (ohb c1_)), (.int (olb c1_)), (.int (nar .byte ((c2_ >>> ((0 : Int32) &&& 31)).toInt8.toInt32))), (.int (0 : Int32)), (.int (0 : Int32)), (.int (0 : Int32))] (.int (0 : Int32)) := Arv.set Aq3 Cq3 S3 M3 H3 G3 (fits_nar_byte _) W3 4 (by decide) (by show 4 < 8; decide)
  have K3 := K0.wr W3 (Or.inl (List.mem_of_getElem? (i := 0) rfl))
  have N3 := Fr.snoc X3 N0 g_b
  have Zs3 : n0 ≤ h3.size := by rw [W3.size]; exact Z0
  refine os st3 ?_
  show OG p e below Φ T3 m 44 #[rv b, iv 5, iv c2_] []
  refine os (fun _ z => XS.aloadN X3.here hx rfl (hb hby d13_44) rfl rfl z) ?_
  refine os (fun _ z => XS.iloadN X3.here hx rfl (hb hby d13_45) rfl z) ?_
  show OG p e below Φ T3 m 46 #[rv b, iv 5, iv c2_] [(.int 5), (.ref b)]
  refine os (fun _ z => XS.iloadN X3.here hx rfl (hb hby d13_46) rfl z) ?_
  obtain ⟨T7, X7, e7, st7⟩ := getS2 X3 hx hZ hown (host := "") (Or.inl (ow67 hw)) Via.refl e3 F6 (g := (mkF m 47 #[rv b, iv 5, iv c2_] [(.int c2_), (.int 5), (.ref b)])) rfl (hb hby d13_47)
  refine os st7 ?_
  show OG p e below Φ T7 m 50 #[rv b, iv 5, iv c2_] [(.int 8), (.int c2_), (.int 5), (.ref b)]
  refine os (fun _ z => XT.ishr X7.here hx rfl (hb hby d13_50) rfl z) ?_
  show OG p e below Φ T7 m 51 #[rv b, iv 5, iv c2_] [(.int (c2_ >>> ((8 : Int32) &&& 31))), (.int 5), (.ref b)]
  refine os (fun _ z => XT.i2b X7.here hx rfl (hb hby d13_51) rfl z) ?_
  show OG p e below Φ T7 m 52 #[rv b, iv 5, iv c2_] [(.int ((c2_ >>> ((8 : Int32) &&& 31)).toInt8.toInt32)), (.int 5), (.ref b)]
  obtain ⟨cl8, Aq8, Cq8, S8, M8, H8, G8⟩ := id V3
  have in8 : ¬ ((5 : Int32) < 0 ∨ cl8.slots.size ≤ (5 : Int32).toNatClampNeg) := inb_of S8 ⟨by decide, by decide⟩
  obtain ⟨T8, h8, X8, e8, W8, st8⟩ := stB X7 hx hZ e7 Aq8 in8 (g := (mkF m 52 #[rv b, iv 5, iv c2_] [(.int ((c2_ >>> ((8 : Int32) &&& 31)).toInt8.toInt32)), (.int 5), (.ref b)])) rfl rfl (hb hby d13_52)
  have W8 : Wr h3 h8 b (5 : Int32).toNatClampNeg (.int (nar .byte ((c2_ >>> ((8 : Int32) &&& 31)).toInt8.toInt32))) := W8
  have F9 := F4.wr W8
  have F10 := F5.wr W8
  have F11 := F6.wr W8
  have V8 : Arv Z h8 b cb .byte (8 : Int32) [(.int (ohb c0_)), (.int (olb c0_)), (.int (ohb c1_)), (.int (olb c1_)), (.int (nar .byte ((c2_ >>> ((0 : Int32) &&& 31)).toInt8.toInt32))), (.int (nar .byte ((c2_ >>> ((8 : Int32) &&& 31)).toInt8.toInt32))), (.int (0 : Int32)), (.int (0 : Int32))] (.int (0 : Int32)) := Arv.set Aq8 Cq8 S8 M8 H8 G8 (fits_nar_byte _) W8 5 (by decide) (by show 5 < 8; decide)
  have K8 := K3.wr W8 (Or.inl (List.mem_of_getElem? (i := 0) rfl))
  have N8 := Fr.snoc X8 N3 g_b
  have Zs8 : n0 ≤ h8.size := by rw [W8.size]; exact Zs3
  refine os st8 ?_
  show OG p e below Φ T8 m 53 #[rv b, iv 5, iv c2_] []
  refine OGo.fin X8 hlk (v := none) (fun _ => rfl) (by decide) (by decide) (fun fs hr => X8.returnOut hx hret (hb hby d13_53) hr) fun U eU hF => hΦ _ _ _ ?_ hF
  rw [eU, e8]
  show Q_rsb4_0pc2 Z b cb c0_ c1_ c2_ c3_ h0 n0 _ _ _
  exact ⟨rfl, N8, K8, V8⟩

theorem ef_rsb4_0pc3 (m : MethodId) (x0 : Addr) (x1 : Int32) (x2 : Int32) : entryFrame m #[(.ref x0), (.int x1), (.int x2)] 3 = mkF m 0 #[.val (.ref x0), .val (.int x1), .val (.int x2)] [] := by first | (simp [entryFrame, mkF, argsToLocals, Value.category]; done) | rfl
def Q_rsb4_0pc3 (Z : State) (b : Addr) (cb : ClassId) (c0_ : Int32) (c1_ : Int32) (c2_ : Int32) (c3_ : Int32) (h0 : Heap) (n0 : Nat) (v : Option Value) (h : Heap) (L : List Loc) : Prop := v = none ∧ Fr n0 L ∧ Keep h0 h [b] ∧ Arv Z h b cb .byte (8 : Int32) [(.int (ohb c0_)), (.int (olb c0_)), (.int (ohb c1_)), (.int (olb c1_)), (.int (ohb c2_)), (.int (olb c2_)), (.int (ohb c3_)), (.int (olb c3_))] (.int (0 : Int32))
set_option maxRecDepth 65536 in
set_option maxHeartbeats 40000000 in
theorem rsb4_0pc3 (l : Launch) (Z : State) (a0 : Array Value) (hw : ∀ d ∈ tables_1, d.before a0 Z = true) (ws : List Jvm.Cond) (b : Addr) (cb : ClassId) (c0_ : Int32) (c1_ : Int32) (c2_ : Int32) (c3_ : Int32) (h0 : Heap) (n0 : Nat) (Z0 : n0 ≤ h0.size) (V_b : Arv Z h0 b cb .byte (8 : Int32) [(.int (ohb c0_)), (.int (olb c0_)), (.int (ohb c1_)), (.int (olb c1_)), (.int (ohb c2_)), (.int (olb c2_)), (.int (0 : Int32)), (.int (0 : Int32))] (.int (0 : Int32))) (g_b : n0 ≤ b) (S_ad : Sta Z h0 "java/lang/StringUTF16" "$assertionsDisabled" "Z" (.int (1 : Int32))) (S_hb : Sta Z h0 "java/lang/StringUTF16" "HI_BYTE_SHIFT" "I" (.int (0 : Int32))) (S_lb : Sta Z h0 "java/lang/StringUTF16" "LO_BYTE_SHIFT" "I" (.int (8 : Int32))) :
    OCon l Z (⟨"java/lang/StringUTF16", "putChar", "([BII)V"⟩ : MethodName) jdk_52_method_4_code 3 none ws ({ frames := 0, cells := 0, slots := 0, locals := 0 } : Room) #[(.ref b), (.int (3 : Int32)), (.int c3_)] h0 (Q_rsb4_0pc3 Z b cb c0_ c1_ c2_ c3_ h0 n0) := by
  refine OCon.of (plainFor_of_name pn1) ?_
  intro p e s m below meth c s₁ Φ X0 hx hby hml hown hnm hret hlk hZ e0 hΦ
  have N0 := Fr.nil n0
  refine os (fun _ z => castTop (ef_rsb4_0pc3 m b (3 : Int32) c3_) z) ?_
  have K0 := Keep.refl h0 [b]
  show OG p e below Φ s₁ m 0 #[rv b, iv 3, iv c3_] []
  obtain ⟨T1, X1, e1, st1⟩ := getS2 X0 hx hZ hown (host := "") (Or.inl (ow65 hw)) Via.refl e0 S_ad (g := (mkF m 0 #[rv b, iv 3, iv c3_] [])) rfl (hb hby d13_0)
  refine os st1 ?_
  show OG p e below Φ T1 m 3 #[rv b, iv 3, iv c3_] [(.int 1)]
  refine os (fun _ z => XS.ifYes X1.here hx rfl (pc0 := 3) (pc' := 28) rfl (hb hby d13_3) rfl (XT.i0_ne_t (by decide)) (by decide) (by decide) z) ?_
  show OG p e below Φ T1 m 28 #[rv b, iv 3, iv c3_] []
  refine os (fun _ z => XS.iloadN X1.here hx rfl (hb hby d13_28) rfl z) ?_
  refine os (fun _ z => XS.iconst X1.here hx rfl (hb hby d13_29) z) ?_
  show OG p e below Φ T1 m 30 #[rv b, iv 3, iv c3_] [(.int 1), (.int 3)]
  refine os (fun _ z => XT.ishl X1.here hx rfl (hb hby d13_30) rfl z) ?_
  show OG p e below Φ T1 m 31 #[rv b, iv 3, iv c3_] [(.int 6)]
  refine os (fun _ z => XS.istoreN X1.here hx rfl (hb hby d13_31) rfl (l' := #[rv b, iv 6, iv c3_]) rfl z) ?_
  show OG p e below Φ T1 m 32 #[rv b, iv 6, iv c3_] []
  refine os (fun _ z => XS.aloadN X1.here hx rfl (hb hby d13_32) rfl rfl z) ?_
  refine os (fun _ z => XS.iloadN X1.here hx rfl (hb hby d13_33) rfl z) ?_
  show OG p e below Φ T1 m 34 #[rv b, iv 6, iv c3_] [(.int 6), (.ref b)]
  refine os (fun _ z => XS.iinc X1.here hx rfl (hb hby d13_34) rfl (l' := #[rv b, iv ((6 : Int32) + (1 : Int32)), iv c3_]) rfl z) ?_
  show OG p e below Φ T1 m 37 #[rv b, iv 7, iv c3_] [(.int 6), (.ref b)]
  refine os (fun _ z => XS.iloadN X1.here hx rfl (hb hby d13_37) rfl z) ?_
  obtain ⟨T2, X2, e2, st2⟩ := getS2 X1 hx hZ hown (host := "") (Or.inl (ow66 hw)) Via.refl e1 S_hb (g := (mkF m 38 #[rv b, iv 7, iv c3_] [(.int c3_), (.int 6), (.ref b)])) rfl (hb hby d13_38)
  refine os st2 ?_
  show OG p e below Φ T2 m 41 #[rv b, iv 7, iv c3_] [(.int 0), (.int c3_), (.int 6), (.ref b)]
  refine os (fun _ z => XT.ishr X2.here hx rfl (hb hby d13_41) rfl z) ?_
  show OG p e below Φ T2 m 42 #[rv b, iv 7, iv c3_] [(.int (c3_ >>> ((0 : Int32) &&& 31))), (.int 6), (.ref b)]
  refine os (fun _ z => XT.i2b X2.here hx rfl (hb hby d13_42) rfl z) ?_
  show OG p e below Φ T2 m 43 #[rv b, iv 7, iv c3_] [(.int ((c3_ >>> ((0 : Int32) &&& 31)).toInt8.toInt32)), (.int 6), (.ref b)]
  obtain ⟨cl3, Aq3, Cq3, S3, M3, H3, G3⟩ := id V_b
  have in3 : ¬ ((6 : Int32) < 0 ∨ cl3.slots.size ≤ (6 : Int32).toNatClampNeg) := inb_of S3 ⟨by decide, by decide⟩
  obtain ⟨T3, h3, X3, e3, W3, st3⟩ := stB X2 hx hZ e2 Aq3 in3 (g := (mkF m 43 #[rv b, iv 7, iv c3_] [(.int ((c3_ >>> ((0 : Int32) &&& 31)).toInt8.toInt32)), (.int 6), (.ref b)])) rfl rfl (hb hby d13_43)
  have W3 : Wr h0 h3 b (6 : Int32).toNatClampNeg (.int (nar .byte ((c3_ >>> ((0 : Int32) &&& 31)).toInt8.toInt32))) := W3
  have F4 := S_ad.wr W3
  have F5 := S_hb.wr W3
  have F6 := S_lb.wr W3
  have V3 : Arv Z h3 b cb .byte (8 : Int32) [(.int (ohb c0_)), (.int (olb c0_)), (.int (ohb c1_)), (.int (olb c1_)), (.int (ohb c2_)), (.int (olb c2_)), (.int (nar .byte ((c3_ >>> ((0 : Int32) &&& 31)).toInt8.toInt32))), (.int (0 : Int32))] (.int (0 : Int32)) := Arv.set Aq3 Cq3 S3 M3 H3 G3 (fits_nar_byte _) W3 6 (by decide) (by show 6 < 8; decide)
  have K3 := K0.wr W3 (Or.inl (List.mem_of_getElem? (i := 0) rfl))
  have N3 := Fr.snoc X3 N0 g_b
  have Zs3 : n0 ≤ h3.size := by rw [W3.size]; exact Z0
  refine os st3 ?_
  show OG p e below Φ T3 m 44 #[rv b, iv 7, iv c3_] []
  refine os (fun _ z => XS.aloadN X3.here hx rfl (hb hby d13_44) rfl rfl z) ?_
  refine os (fun _ z => XS.iloadN X3.here hx rfl (hb hby d13_45) rfl z) ?_
  show OG p e below Φ T3 m 46 #[rv b, iv 7, iv c3_] [(.int 7), (.ref b)]
  refine os (fun _ z => XS.iloadN X3.here hx rfl (hb hby d13_46) rfl z) ?_
  obtain ⟨T7, X7, e7, st7⟩ := getS2 X3 hx hZ hown (host := "") (Or.inl (ow67 hw)) Via.refl e3 F6 (g := (mkF m 47 #[rv b, iv 7, iv c3_] [(.int c3_), (.int 7), (.ref b)])) rfl (hb hby d13_47)
  refine os st7 ?_
  show OG p e below Φ T7 m 50 #[rv b, iv 7, iv c3_] [(.int 8), (.int c3_), (.int 7), (.ref b)]
  refine os (fun _ z => XT.ishr X7.here hx rfl (hb hby d13_50) rfl z) ?_
  show OG p e below Φ T7 m 51 #[rv b, iv 7, iv c3_] [(.int (c3_ >>> ((8 : Int32) &&& 31))), (.int 7), (.ref b)]
  refine os (fun _ z => XT.i2b X7.here hx rfl (hb hby d13_51) rfl z) ?_
  show OG p e below Φ T7 m 52 #[rv b, iv 7, iv c3_] [(.int ((c3_ >>> ((8 : Int32) &&& 31)).toInt8.toInt32)), (.int 7), (.ref b)]
  obtain ⟨cl8, Aq8, Cq8, S8, M8, H8, G8⟩ := id V3
  have in8 : ¬ ((7 : Int32) < 0 ∨ cl8.slots.size ≤ (7 : Int32).toNatClampNeg) := inb_of S8 ⟨by decide, by decide⟩
  obtain ⟨T8, h8, X8, e8, W8, st8⟩ := stB X7 hx hZ e7 Aq8 in8 (g := (mkF m 52 #[rv b, iv 7, iv c3_] [(.int ((c3_ >>> ((8 : Int32) &&& 31)).toInt8.toInt32)), (.int 7), (.ref b)])) rfl rfl (hb hby d13_52)
  have W8 : Wr h3 h8 b (7 : Int32).toNatClampNeg (.int (nar .byte ((c3_ >>> ((8 : Int32) &&& 31)).toInt8.toInt32))) := W8
  have F9 := F4.wr W8
  have F10 := F5.wr W8
  have F11 := F6.wr W8
  have V8 : Arv Z h8 b cb .byte (8 : Int32) [(.int (ohb c0_)), (.int (olb c0_)), (.int (ohb c1_)), (.int (olb c1_)), (.int (ohb c2_)), (.int (olb c2_)), (.int (nar .byte ((c3_ >>> ((0 : Int32) &&& 31)).toInt8.toInt32))), (.int (nar .byte ((c3_ >>> ((8 : Int32) &&& 31)).toInt8.toInt32)))] (.int (0 : Int32)) := Arv.set Aq8 Cq8 S8 M8 H8 G8 (fits_nar_byte _) W8 7 (by decide) (by show 7 < 8; decide)
  have K8 := K3.wr W8 (Or.inl (List.mem_of_getElem? (i := 0) rfl))
  have N8 := Fr.snoc X8 N3 g_b
  have Zs8 : n0 ≤ h8.size := by rw [W8.size]; exact Zs3
  refine os st8 ?_
  show OG p e below Φ T8 m 53 #[rv b, iv 7, iv c3_] []
  refine OGo.fin X8 hlk (v := none) (fun _ => rfl) (by decide) (by decide) (fun fs hr => X8.returnOut hx hret (hb hby d13_53) hr) fun U eU hF => hΦ _ _ _ ?_ hF
  rw [eU, e8]
  show Q_rsb4_0pc3 Z b cb c0_ c1_ c2_ c3_ h0 n0 _ _ _
  exact ⟨rfl, N8, K8, V8⟩

theorem ef_rsb4_0tb (m : MethodId) (x0 : Addr) (x1 : Int32) (x2 : Int32) : entryFrame m #[(.ref x0), (.int x1), (.int x2)] 5 = mkF m 0 #[.val (.ref x0), .val (.int x1), .val (.int x2), .unset, .unset] [] := by first | (simp [entryFrame, mkF, argsToLocals, Value.category]; done) | rfl
def Q_rsb4_0tb (Z : State) (a : Addr) (ca : ClassId) (c0_ : Int32) (c1_ : Int32) (c2_ : Int32) (c3_ : Int32) (h0 : Heap) (n0 : Nat) (v : Option Value) (h : Heap) (L : List Loc) : Prop := ∃ b cb, v = some (.ref b) ∧ Fr n0 L ∧ Keep h0 h [] ∧ Arv Z h b cb .byte (8 : Int32) [(.int (ohb c0_)), (.int (olb c0_)), (.int (ohb c1_)), (.int (olb c1_)), (.int (ohb c2_)), (.int (olb c2_)), (.int (ohb c3_)), (.int (olb c3_))] (.int (0 : Int32)) ∧ h0.size ≤ b
set_option maxRecDepth 65536 in
set_option maxHeartbeats 40000000 in
theorem rsb4_0tb (l : Launch) (Z : State) (a0 : Array Value) (hw : ∀ d ∈ tables_1, d.before a0 Z = true) (ws : List Jvm.Cond) (a : Addr) (ca : ClassId) (c0_ : Int32) (c1_ : Int32) (c2_ : Int32) (c3_ : Int32) (h0 : Heap) (n0 : Nat) (Z0 : n0 ≤ h0.size) (V_a : Arv Z h0 a ca .char (4 : Int32) [(.int c0_), (.int c1_), (.int c2_), (.int c3_)] (.int (0 : Int32))) (O_0 : Old Z n0 h0) (S_ad : Sta Z Z.heap "java/lang/StringUTF16" "$assertionsDisabled" "Z" (.int (1 : Int32))) (S_hb : Sta Z Z.heap "java/lang/StringUTF16" "HI_BYTE_SHIFT" "I" (.int (0 : Int32))) (S_lb : Sta Z Z.heap "java/lang/StringUTF16" "LO_BYTE_SHIFT" "I" (.int (8 : Int32))) :
    OCon l Z (⟨"java/lang/StringUTF16", "toBytes", "([CII)[B"⟩ : MethodName) jdk_52_method_14_code 5 (some (.array .byte)) ws ({ frames := 2, cells := 1, slots := 8, locals := 24 } : Room) #[(.ref a), (.int (0 : Int32)), (.int (4 : Int32))] h0 (Q_rsb4_0tb Z a ca c0_ c1_ c2_ c3_ h0 n0) := by
  refine OCon.of (plainFor_of_name pn1) ?_
  intro p e s m below meth c s₁ Φ X0 hx hby hml hown hnm hret hlk hZ e0 hΦ
  have N0 := Fr.nil n0
  refine os (fun _ z => castTop (ef_rsb4_0tb m a (0 : Int32) (4 : Int32)) z) ?_
  have K0 := Keep.refl h0 []
  show OG p e below Φ s₁ m 0 #[rv a, iv 0, iv 4, .unset, .unset] []
  refine os (fun _ z => XS.iloadN X0.here hx rfl (hb hby d10_0) rfl z) ?_
  obtain ⟨_, T1, L1, X1, hQ1, st1⟩ := own_callSt X0 hx hZ hown (ow55 hw) (ow56 hw) (ow20 hw) (ow57 hw) (by decide) (rsb4_0nf l Z a0 hw []  h0 n0 Z0 ) e0 (W := 0) (by decide) (by decide) (by decide) (by decide) (pc := 1) (ls := #[rv a, iv 0, iv 4, .unset, .unset]) (stk := [(.int 4)]) (by rw [hml]; rfl) (argsL := [(.int 4)]) (rest := []) (lenOf pd5 rfl) rfl rfl (Nat.le_of_eq rfl) (hb hby d10_1)
  obtain ⟨b1, cb1, rfl, Nq1, Kq1, Vq1, hz1⟩ := hQ1
  have nq1_a : a ≠ b1 := Nat.ne_of_lt (Nat.lt_of_lt_of_le V_a.lt hz1)
  have gq1 : n0 ≤ b1 := Nat.le_trans Z0 hz1
  have sq1 : h0.size ≤ b1 := Nat.le_trans K0.1 hz1
  have N1 := Fr.app N0 Nq1
  have Zs1 : n0 ≤ T1.heap.size := Nat.le_trans Z0 Kq1.1
  have F2 := V_a.keep Kq1 nin0
  have F3 := O_0.keep Kq1 all0
  have K1 := K0.trans Kq1 all0
  refine os st1 ?_
  show OG p e below Φ T1 m 4 #[rv a, iv 0, iv 4, .unset, .unset] [(.ref b1)]
  refine os (fun _ z => XS.astoreN X1.here hx rfl (hb hby d10_4) rfl rfl (l' := #[rv a, iv 0, iv 4, rv b1, .unset]) rfl z) ?_
  show OG p e below Φ T1 m 5 #[rv a, iv 0, iv 4, rv b1, .unset] []
  refine os (fun _ z => XS.iconst X1.here hx rfl (hb hby d10_5) z) ?_
  refine os (fun _ z => XS.istore X1.here hx rfl (hb hby d10_6) rfl (l' := #[rv a, iv 0, iv 4, rv b1, iv 0]) rfl z) ?_
  show OG p e below Φ T1 m 8 #[rv a, iv 0, iv 4, rv b1, iv 0] []
  refine os (fun _ z => XS.iload X1.here hx rfl (hb hby d10_8) rfl z) ?_
  refine os (fun _ z => XS.iloadN X1.here hx rfl (hb hby d10_10) rfl z) ?_
  show OG p e below Φ T1 m 11 #[rv a, iv 0, iv 4, rv b1, iv 0] [(.int 4), (.int 0)]
  refine os (fun _ z => XS.icmpNo X1.here hx rfl (hb hby d10_11) rfl (XT.ii_ge_f (by decide)) z) ?_
  show OG p e below Φ T1 m 14 #[rv a, iv 0, iv 4, rv b1, iv 0] []
  refine os (fun _ z => XS.aloadN X1.here hx rfl (hb hby d10_14) rfl rfl z) ?_
  refine os (fun _ z => XS.iload X1.here hx rfl (hb hby d10_15) rfl z) ?_
  show OG p e below Φ T1 m 17 #[rv a, iv 0, iv 4, rv b1, iv 0] [(.int 0), (.ref b1)]
  refine os (fun _ z => XS.aloadN X1.here hx rfl (hb hby d10_17) rfl rfl z) ?_
  refine os (fun _ z => XS.iloadN X1.here hx rfl (hb hby d10_18) rfl z) ?_
  show OG p e below Φ T1 m 19 #[rv a, iv 0, iv 4, rv b1, iv 0] [(.int 0), (.ref a), (.int 0), (.ref b1)]
  obtain ⟨cl4, Aq4, -, S4, M4, H4, -⟩ := id F2
  have in4 : ¬ ((0 : Int32) < 0 ∨ cl4.slots.size ≤ (0 : Int32).toNatClampNeg) := inb_of S4 ⟨by decide, by decide⟩
  have at4 : cl4.slots[(0 : Int32).toNatClampNeg]? = some (.int c0_) := H4.at in4 rfl
  refine os (fun _ z => X1.caload hx Aq4.1 (oia hZ Aq4.2.1) Aq4.2.2 in4 at4 (g := (mkF m 19 #[rv a, iv 0, iv 4, rv b1, iv 0] [(.int 0), (.ref a), (.int 0), (.ref b1)])) rfl rfl (hb hby d10_19) _ z) ?_
  show OG p e below Φ T1 m 20 #[rv a, iv 0, iv 4, rv b1, iv 0] [(.int c0_), (.int 0), (.ref b1)]
  obtain ⟨_, T5, L5, X5, hQ5, st5⟩ := own_callSt X1 hx hZ hown (ow62 hw) (ow63 hw) (ow20 hw) (ow64 hw) (by decide) (rsb4_0pc0 l Z a0 hw [] b1 cb1 c0_ c1_ c2_ c3_ T1.heap n0 Zs1 Vq1 gq1 (S_ad.ext F3.2) (S_hb.ext F3.2) (S_lb.ext F3.2)) rfl (W := 0) (by decide) (by decide) (by decide) (by decide) (pc := 20) (ls := #[rv a, iv 0, iv 4, rv b1, iv 0]) (stk := [(.int c0_), (.int 0), (.ref b1)]) (by rw [hml]; rfl) (argsL := [(.ref b1), (.int 0), (.int c0_)]) (rest := []) (lenOf pd6 rfl) rfl rfl (Nat.le_of_eq rfl) (hb hby d10_20)
  obtain ⟨rfl, Nq5, Kq5, Vq5⟩ := hQ5
  have N5 := Fr.app N1 Nq5
  have Zs5 : n0 ≤ T5.heap.size := Nat.le_trans Zs1 Kq5.1
  have F6 := F2.keep Kq5 (ninS nq1_a nin0)
  have F7 := F3.keep Kq5 (allS gq1 all0)
  have K5 := K1.trans Kq5 (allS (Or.inr sq1) all0)
  refine os st5 ?_
  show OG p e below Φ T5 m 23 #[rv a, iv 0, iv 4, rv b1, iv 0] []
  refine os (fun _ z => XS.iinc X5.here hx rfl (hb hby d10_23) rfl (l' := #[rv a, iv ((0 : Int32) + (1 : Int32)), iv 4, rv b1, iv 0]) rfl z) ?_
  show OG p e below Φ T5 m 26 #[rv a, iv 1, iv 4, rv b1, iv 0] []
  refine os (fun _ z => XS.iinc X5.here hx rfl (hb hby d10_26) rfl (l' := #[rv a, iv 1, iv 4, rv b1, iv ((0 : Int32) + (1 : Int32))]) rfl z) ?_
  show OG p e below Φ T5 m 29 #[rv a, iv 1, iv 4, rv b1, iv 1] []
  refine os (fun _ z => XS.goto X5.here hx rfl (pc0 := 29) (pc' := 8) rfl (hb hby d10_29) (by decide) (by decide) z) ?_
  show OG p e below Φ T5 m 8 #[rv a, iv 1, iv 4, rv b1, iv 1] []
  refine os (fun _ z => XS.iload X5.here hx rfl (hb hby d10_8) rfl z) ?_
  refine os (fun _ z => XS.iloadN X5.here hx rfl (hb hby d10_10) rfl z) ?_
  show OG p e below Φ T5 m 11 #[rv a, iv 1, iv 4, rv b1, iv 1] [(.int 4), (.int 1)]
  refine os (fun _ z => XS.icmpNo X5.here hx rfl (hb hby d10_11) rfl (XT.ii_ge_f (by decide)) z) ?_
  show OG p e below Φ T5 m 14 #[rv a, iv 1, iv 4, rv b1, iv 1] []
  refine os (fun _ z => XS.aloadN X5.here hx rfl (hb hby d10_14) rfl rfl z) ?_
  refine os (fun _ z => XS.iload X5.here hx rfl (hb hby d10_15) rfl z) ?_
  show OG p e below Φ T5 m 17 #[rv a, iv 1, iv 4, rv b1, iv 1] [(.int 1), (.ref b1)]
  refine os (fun _ z => XS.aloadN X5.here hx rfl (hb hby d10_17) rfl rfl z) ?_
  refine os (fun _ z => XS.iloadN X5.here hx rfl (hb hby d10_18) rfl z) ?_
  show OG p e below Φ T5 m 19 #[rv a, iv 1, iv 4, rv b1, iv 1] [(.int 1), (.ref a), (.int 1), (.ref b1)]
  obtain ⟨cl8, Aq8, -, S8, M8, H8, -⟩ := id F6
  have in8 : ¬ ((1 : Int32) < 0 ∨ cl8.slots.size ≤ (1 : Int32).toNatClampNeg) := inb_of S8 ⟨by decide, by decide⟩
  have at8 : cl8.slots[(1 : Int32).toNatClampNeg]? = some (.int c1_) := H8.at in8 rfl
  refine os (fun _ z => X5.caload hx Aq8.1 (oia hZ Aq8.2.1) Aq8.2.2 in8 at8 (g := (mkF m 19 #[rv a, iv 1, iv 4, rv b1, iv 1] [(.int 1), (.ref a), (.int 1), (.ref b1)])) rfl rfl (hb hby d10_19) _ z) ?_
  show OG p e below Φ T5 m 20 #[rv a, iv 1, iv 4, rv b1, iv 1] [(.int c1_), (.int 1), (.ref b1)]
  obtain ⟨_, T9, L9, X9, hQ9, st9⟩ := own_callSt X5 hx hZ hown (ow62 hw) (ow63 hw) (ow20 hw) (ow64 hw) (by decide) (rsb4_0pc1 l Z a0 hw [] b1 cb1 c0_ c1_ c2_ c3_ T5.heap n0 Zs5 Vq5 gq1 (S_ad.ext F7.2) (S_hb.ext F7.2) (S_lb.ext F7.2)) rfl (W := 0) (by decide) (by decide) (by decide) (by decide) (pc := 20) (ls := #[rv a, iv 1, iv 4, rv b1, iv 1]) (stk := [(.int c1_), (.int 1), (.ref b1)]) (by rw [hml]; rfl) (argsL := [(.ref b1), (.int 1), (.int c1_)]) (rest := []) (lenOf pd6 rfl) rfl rfl (Nat.le_of_eq rfl) (hb hby d10_20)
  obtain ⟨rfl, Nq9, Kq9, Vq9⟩ := hQ9
  have N9 := Fr.app N5 Nq9
  have Zs9 : n0 ≤ T9.heap.size := Nat.le_trans Zs5 Kq9.1
  have F10 := F6.keep Kq9 (ninS nq1_a nin0)
  have F11 := F7.keep Kq9 (allS gq1 all0)
  have K9 := K5.trans Kq9 (allS (Or.inr sq1) all0)
  refine os st9 ?_
  show OG p e below Φ T9 m 23 #[rv a, iv 1, iv 4, rv b1, iv 1] []
  refine os (fun _ z => XS.iinc X9.here hx rfl (hb hby d10_23) rfl (l' := #[rv a, iv ((1 : Int32) + (1 : Int32)), iv 4, rv b1, iv 1]) rfl z) ?_
  show OG p e below Φ T9 m 26 #[rv a, iv 2, iv 4, rv b1, iv 1] []
  refine os (fun _ z => XS.iinc X9.here hx rfl (hb hby d10_26) rfl (l' := #[rv a, iv 2, iv 4, rv b1, iv ((1 : Int32) + (1 : Int32))]) rfl z) ?_
  show OG p e below Φ T9 m 29 #[rv a, iv 2, iv 4, rv b1, iv 2] []
  refine os (fun _ z => XS.goto X9.here hx rfl (pc0 := 29) (pc' := 8) rfl (hb hby d10_29) (by decide) (by decide) z) ?_
  show OG p e below Φ T9 m 8 #[rv a, iv 2, iv 4, rv b1, iv 2] []
  refine os (fun _ z => XS.iload X9.here hx rfl (hb hby d10_8) rfl z) ?_
  refine os (fun _ z => XS.iloadN X9.here hx rfl (hb hby d10_10) rfl z) ?_
  show OG p e below Φ T9 m 11 #[rv a, iv 2, iv 4, rv b1, iv 2] [(.int 4), (.int 2)]
  refine os (fun _ z => XS.icmpNo X9.here hx rfl (hb hby d10_11) rfl (XT.ii_ge_f (by decide)) z) ?_
  show OG p e below Φ T9 m 14 #[rv a, iv 2, iv 4, rv b1, iv 2] []
  refine os (fun _ z => XS.aloadN X9.here hx rfl (hb hby d10_14) rfl rfl z) ?_
  refine os (fun _ z => XS.iload X9.here hx rfl (hb hby d10_15) rfl z) ?_
  show OG p e below Φ T9 m 17 #[rv a, iv 2, iv 4, rv b1, iv 2] [(.int 2), (.ref b1)]
  refine os (fun _ z => XS.aloadN X9.here hx rfl (hb hby d10_17) rfl rfl z) ?_
  refine os (fun _ z => XS.iloadN X9.here hx rfl (hb hby d10_18) rfl z) ?_
  show OG p e below Φ T9 m 19 #[rv a, iv 2, iv 4, rv b1, iv 2] [(.int 2), (.ref a), (.int 2), (.ref b1)]
  obtain ⟨cl12, Aq12, -, S12, M12, H12, -⟩ := id F10
  have in12 : ¬ ((2 : Int32) < 0 ∨ cl12.slots.size ≤ (2 : Int32).toNatClampNeg) := inb_of S12 ⟨by decide, by decide⟩
  have at12 : cl12.slots[(2 : Int32).toNatClampNeg]? = some (.int c2_) := H12.at in12 rfl
  refine os (fun _ z => X9.caload hx Aq12.1 (oia hZ Aq12.2.1) Aq12.2.2 in12 at12 (g := (mkF m 19 #[rv a, iv 2, iv 4, rv b1, iv 2] [(.int 2), (.ref a), (.int 2), (.ref b1)])) rfl rfl (hb hby d10_19) _ z) ?_
  show OG p e below Φ T9 m 20 #[rv a, iv 2, iv 4, rv b1, iv 2] [(.int c2_), (.int 2), (.ref b1)]
  obtain ⟨_, T13, L13, X13, hQ13, st13⟩ := own_callSt X9 hx hZ hown (ow62 hw) (ow63 hw) (ow20 hw) (ow64 hw) (by decide) (rsb4_0pc2 l Z a0 hw [] b1 cb1 c0_ c1_ c2_ c3_ T9.heap n0 Zs9 Vq9 gq1 (S_ad.ext F11.2) (S_hb.ext F11.2) (S_lb.ext F11.2)) rfl (W := 0) (by decide) (by decide) (by decide) (by decide) (pc := 20) (ls := #[rv a, iv 2, iv 4, rv b1, iv 2]) (stk := [(.int c2_), (.int 2), (.ref b1)]) (by rw [hml]; rfl) (argsL := [(.ref b1), (.int 2), (.int c2_)]) (rest := []) (lenOf pd6 rfl) rfl rfl (Nat.le_of_eq rfl) (hb hby d10_20)
  obtain ⟨rfl, Nq13, Kq13, Vq13⟩ := hQ13
  have N13 := Fr.app N9 Nq13
  have Zs13 : n0 ≤ T13.heap.size := Nat.le_trans Zs9 Kq13.1
  have F14 := F10.keep Kq13 (ninS nq1_a nin0)
  have F15 := F11.keep Kq13 (allS gq1 all0)
  have K13 := K9.trans Kq13 (allS (Or.inr sq1) all0)
  refine os st13 ?_
  show OG p e below Φ T13 m 23 #[rv a, iv 2, iv 4, rv b1, iv 2] []
  refine os (fun _ z => XS.iinc X13.here hx rfl (hb hby d10_23) rfl (l' := #[rv a, iv ((2 : Int32) + (1 : Int32)), iv 4, rv b1, iv 2]) rfl z) ?_
  show OG p e below Φ T13 m 26 #[rv a, iv 3, iv 4, rv b1, iv 2] []
  refine os (fun _ z => XS.iinc X13.here hx rfl (hb hby d10_26) rfl (l' := #[rv a, iv 3, iv 4, rv b1, iv ((2 : Int32) + (1 : Int32))]) rfl z) ?_
  show OG p e below Φ T13 m 29 #[rv a, iv 3, iv 4, rv b1, iv 3] []
  refine os (fun _ z => XS.goto X13.here hx rfl (pc0 := 29) (pc' := 8) rfl (hb hby d10_29) (by decide) (by decide) z) ?_
  show OG p e below Φ T13 m 8 #[rv a, iv 3, iv 4, rv b1, iv 3] []
  refine os (fun _ z => XS.iload X13.here hx rfl (hb hby d10_8) rfl z) ?_
  refine os (fun _ z => XS.iloadN X13.here hx rfl (hb hby d10_10) rfl z) ?_
  show OG p e below Φ T13 m 11 #[rv a, iv 3, iv 4, rv b1, iv 3] [(.int 4), (.int 3)]
  refine os (fun _ z => XS.icmpNo X13.here hx rfl (hb hby d10_11) rfl (XT.ii_ge_f (by decide)) z) ?_
  show OG p e below Φ T13 m 14 #[rv a, iv 3, iv 4, rv b1, iv 3] []
  refine os (fun _ z => XS.aloadN X13.here hx rfl (hb hby d10_14) rfl rfl z) ?_
  refine os (fun _ z => XS.iload X13.here hx rfl (hb hby d10_15) rfl z) ?_
  show OG p e below Φ T13 m 17 #[rv a, iv 3, iv 4, rv b1, iv 3] [(.int 3), (.ref b1)]
  refine os (fun _ z => XS.aloadN X13.here hx rfl (hb hby d10_17) rfl rfl z) ?_
  refine os (fun _ z => XS.iloadN X13.here hx rfl (hb hby d10_18) rfl z) ?_
  show OG p e below Φ T13 m 19 #[rv a, iv 3, iv 4, rv b1, iv 3] [(.int 3), (.ref a), (.int 3), (.ref b1)]
  obtain ⟨cl16, Aq16, -, S16, M16, H16, -⟩ := id F14
  have in16 : ¬ ((3 : Int32) < 0 ∨ cl16.slots.size ≤ (3 : Int32).toNatClampNeg) := inb_of S16 ⟨by decide, by decide⟩
  have at16 : cl16.slots[(3 : Int32).toNatClampNeg]? = some (.int c3_) := H16.at in16 rfl
  refine os (fun _ z => X13.caload hx Aq16.1 (oia hZ Aq16.2.1) Aq16.2.2 in16 at16 (g := (mkF m 19 #[rv a, iv 3, iv 4, rv b1, iv 3] [(.int 3), (.ref a), (.int 3), (.ref b1)])) rfl rfl (hb hby d10_19) _ z) ?_
  show OG p e below Φ T13 m 20 #[rv a, iv 3, iv 4, rv b1, iv 3] [(.int c3_), (.int 3), (.ref b1)]
  obtain ⟨_, T17, L17, X17, hQ17, st17⟩ := own_callSt X13 hx hZ hown (ow62 hw) (ow63 hw) (ow20 hw) (ow64 hw) (by decide) (rsb4_0pc3 l Z a0 hw [] b1 cb1 c0_ c1_ c2_ c3_ T13.heap n0 Zs13 Vq13 gq1 (S_ad.ext F15.2) (S_hb.ext F15.2) (S_lb.ext F15.2)) rfl (W := 0) (by decide) (by decide) (by decide) (by decide) (pc := 20) (ls := #[rv a, iv 3, iv 4, rv b1, iv 3]) (stk := [(.int c3_), (.int 3), (.ref b1)]) (by rw [hml]; rfl) (argsL := [(.ref b1), (.int 3), (.int c3_)]) (rest := []) (lenOf pd6 rfl) rfl rfl (Nat.le_of_eq rfl) (hb hby d10_20)
  obtain ⟨rfl, Nq17, Kq17, Vq17⟩ := hQ17
  have N17 := Fr.app N13 Nq17
  have Zs17 : n0 ≤ T17.heap.size := Nat.le_trans Zs13 Kq17.1
  have F18 := F14.keep Kq17 (ninS nq1_a nin0)
  have F19 := F15.keep Kq17 (allS gq1 all0)
  have K17 := K13.trans Kq17 (allS (Or.inr sq1) all0)
  refine os st17 ?_
  show OG p e below Φ T17 m 23 #[rv a, iv 3, iv 4, rv b1, iv 3] []
  refine os (fun _ z => XS.iinc X17.here hx rfl (hb hby d10_23) rfl (l' := #[rv a, iv ((3 : Int32) + (1 : Int32)), iv 4, rv b1, iv 3]) rfl z) ?_
  show OG p e below Φ T17 m 26 #[rv a, iv 4, iv 4, rv b1, iv 3] []
  refine os (fun _ z => XS.iinc X17.here hx rfl (hb hby d10_26) rfl (l' := #[rv a, iv 4, iv 4, rv b1, iv ((3 : Int32) + (1 : Int32))]) rfl z) ?_
  show OG p e below Φ T17 m 29 #[rv a, iv 4, iv 4, rv b1, iv 4] []
  refine os (fun _ z => XS.goto X17.here hx rfl (pc0 := 29) (pc' := 8) rfl (hb hby d10_29) (by decide) (by decide) z) ?_
  show OG p e below Φ T17 m 8 #[rv a, iv 4, iv 4, rv b1, iv 4] []
  refine os (fun _ z => XS.iload X17.here hx rfl (hb hby d10_8) rfl z) ?_
  refine os (fun _ z => XS.iloadN X17.here hx rfl (hb hby d10_10) rfl z) ?_
  show OG p e below Φ T17 m 11 #[rv a, iv 4, iv 4, rv b1, iv 4] [(.int 4), (.int 4)]
  refine os (fun _ z => XS.icmpYes X17.here hx rfl (pc0 := 11) (pc' := 32) rfl (hb hby d10_11) rfl (XT.ii_ge_t (by decide)) (by decide) (by decide) z) ?_
  show OG p e below Φ T17 m 32 #[rv a, iv 4, iv 4, rv b1, iv 4] []
  refine os (fun _ z => XS.aloadN X17.here hx rfl (hb hby d10_32) rfl rfl z) ?_
  refine OGo.fin X17 hlk (v := (some (.ref b1))) (fun h => by rw [hret] at h; cases h) (by decide) (by decide) (fun fs hr => X17.areturnOut hx rfl hret rfl (hb hby d10_33) hr) fun U eU hF => hΦ _ _ _ ?_ hF
  rw [eU]
  show Q_rsb4_0tb Z a ca c0_ c1_ c2_ c3_ h0 n0 _ _ _
  exact ⟨_, _, rfl, N17, K17, Vq17, sq1⟩

theorem ef_rsb4_0gc (m : MethodId) (x0 : Addr) (x1 : Int32) : entryFrame m #[(.ref x0), (.int x1)] 2 = mkF m 0 #[.val (.ref x0), .val (.int x1)] [] := by first | (simp [entryFrame, mkF, argsToLocals, Value.category]; done) | rfl
def Q_rsb4_0gc (Z : State) (b : Addr) (cb : ClassId) (c0_ : Int32) (c1_ : Int32) (c2_ : Int32) (c3_ : Int32) (h0 : Heap) (n0 : Nat) (v : Option Value) (h : Heap) (L : List Loc) : Prop := v = some (.int c0_) ∧ Fr n0 L ∧ h = h0
set_option maxRecDepth 65536 in
set_option maxHeartbeats 40000000 in
theorem rsb4_0gc (l : Launch) (Z : State) (a0 : Array Value) (hw : ∀ d ∈ tables_1, d.before a0 Z = true) (ws : List Jvm.Cond) (b : Addr) (cb : ClassId) (c0_ : Int32) (c1_ : Int32) (c2_ : Int32) (c3_ : Int32) (h0 : Heap) (n0 : Nat) (Z0 : n0 ≤ h0.size) (V_b : Arv Z h0 b cb .byte (8 : Int32) [(.int (ohb c0_)), (.int (olb c0_)), (.int (ohb c1_)), (.int (olb c1_)), (.int (ohb c2_)), (.int (olb c2_)), (.int (ohb c3_)), (.int (olb c3_))] (.int (0 : Int32))) (S_ad : Sta Z h0 "java/lang/StringUTF16" "$assertionsDisabled" "Z" (.int (1 : Int32))) (S_hb : Sta Z h0 "java/lang/StringUTF16" "HI_BYTE_SHIFT" "I" (.int (0 : Int32))) (S_lb : Sta Z h0 "java/lang/StringUTF16" "LO_BYTE_SHIFT" "I" (.int (8 : Int32))) (hr0 : nar .char c0_ = c0_) :
    OCon l Z (⟨"java/lang/StringUTF16", "getChar", "([BI)C"⟩ : MethodName) jdk_52_method_5_code 2 (some .char) ws ({ frames := 0, cells := 0, slots := 0, locals := 0 } : Room) #[(.ref b), (.int (0 : Int32))] h0 (Q_rsb4_0gc Z b cb c0_ c1_ c2_ c3_ h0 n0) := by
  refine OCon.of (plainFor_of_name pn1) ?_
  intro p e s m below meth c s₁ Φ X0 hx hby hml hown hnm hret hlk hZ e0 hΦ
  have N0 := Fr.nil n0
  refine os (fun _ z => castTop (ef_rsb4_0gc m b (0 : Int32)) z) ?_
  show OG p e below Φ s₁ m 0 #[rv b, iv 0] []
  obtain ⟨T1, X1, e1, st1⟩ := getS2 X0 hx hZ hown (host := "") (Or.inl (ow65 hw)) Via.refl e0 S_ad (g := (mkF m 0 #[rv b, iv 0] [])) rfl (hb hby d14_0)
  refine os st1 ?_
  show OG p e below Φ T1 m 3 #[rv b, iv 0] [(.int 1)]
  refine os (fun _ z => XS.ifYes X1.here hx rfl (pc0 := 3) (pc' := 28) rfl (hb hby d14_3) rfl (XT.i0_ne_t (by decide)) (by decide) (by decide) z) ?_
  show OG p e below Φ T1 m 28 #[rv b, iv 0] []
  refine os (fun _ z => XS.iloadN X1.here hx rfl (hb hby d14_28) rfl z) ?_
  refine os (fun _ z => XS.iconst X1.here hx rfl (hb hby d14_29) z) ?_
  show OG p e below Φ T1 m 30 #[rv b, iv 0] [(.int 1), (.int 0)]
  refine os (fun _ z => XT.ishl X1.here hx rfl (hb hby d14_30) rfl z) ?_
  show OG p e below Φ T1 m 31 #[rv b, iv 0] [(.int 0)]
  refine os (fun _ z => XS.istoreN X1.here hx rfl (hb hby d14_31) rfl (l' := #[rv b, iv 0]) rfl z) ?_
  show OG p e below Φ T1 m 32 #[rv b, iv 0] []
  refine os (fun _ z => XS.aloadN X1.here hx rfl (hb hby d14_32) rfl rfl z) ?_
  refine os (fun _ z => XS.iloadN X1.here hx rfl (hb hby d14_33) rfl z) ?_
  show OG p e below Φ T1 m 34 #[rv b, iv 0] [(.int 0), (.ref b)]
  refine os (fun _ z => XS.iinc X1.here hx rfl (hb hby d14_34) rfl (l' := #[rv b, iv ((0 : Int32) + (1 : Int32))]) rfl z) ?_
  show OG p e below Φ T1 m 37 #[rv b, iv 1] [(.int 0), (.ref b)]
  obtain ⟨cl2, Aq2, -, S2, M2, H2, -⟩ := id V_b
  have in2 : ¬ ((0 : Int32) < 0 ∨ cl2.slots.size ≤ (0 : Int32).toNatClampNeg) := inb_of S2 ⟨by decide, by decide⟩
  have at2 : cl2.slots[(0 : Int32).toNatClampNeg]? = some (.int (ohb c0_)) := H2.at in2 rfl
  refine os (fun _ z => X1.baloadBytes hx (by rw [e1]; exact Aq2.1) (oia hZ Aq2.2.1) Aq2.2.2 in2 at2 (g := (mkF m 37 #[rv b, iv 1] [(.int 0), (.ref b)])) rfl rfl (hb hby d14_37) _ z) ?_
  show OG p e below Φ T1 m 38 #[rv b, iv 1] [(.int (ohb c0_))]
  refine os (fun _ z => XS.sipush X1.here hx rfl (hb hby d14_38) z) ?_
  refine os (fun _ z => XS.iand X1.here hx rfl (hb hby d14_41) rfl z) ?_
  show OG p e below Φ T1 m 42 #[rv b, iv 1] [(.int ((ohb c0_) &&& (255 : Int32)))]
  obtain ⟨T3, X3, e3, st3⟩ := getS2 X1 hx hZ hown (host := "") (Or.inl (ow66 hw)) Via.refl e1 S_hb (g := (mkF m 42 #[rv b, iv 1] [(.int ((ohb c0_) &&& (255 : Int32)))])) rfl (hb hby d14_42)
  refine os st3 ?_
  show OG p e below Φ T3 m 45 #[rv b, iv 1] [(.int 0), (.int ((ohb c0_) &&& (255 : Int32)))]
  refine os (fun _ z => XT.ishl X3.here hx rfl (hb hby d14_45) rfl z) ?_
  show OG p e below Φ T3 m 46 #[rv b, iv 1] [(.int (((ohb c0_) &&& (255 : Int32)) <<< ((0 : Int32) &&& 31)))]
  refine os (fun _ z => XS.aloadN X3.here hx rfl (hb hby d14_46) rfl rfl z) ?_
  refine os (fun _ z => XS.iloadN X3.here hx rfl (hb hby d14_47) rfl z) ?_
  show OG p e below Φ T3 m 48 #[rv b, iv 1] [(.int 1), (.ref b), (.int (((ohb c0_) &&& (255 : Int32)) <<< ((0 : Int32) &&& 31)))]
  obtain ⟨cl4, Aq4, -, S4, M4, H4, -⟩ := id V_b
  have in4 : ¬ ((1 : Int32) < 0 ∨ cl4.slots.size ≤ (1 : Int32).toNatClampNeg) := inb_of S4 ⟨by decide, by decide⟩
  have at4 : cl4.slots[(1 : Int32).toNatClampNeg]? = some (.int (olb c0_)) := H4.at in4 rfl
  refine os (fun _ z => X3.baloadBytes hx (by rw [e3]; exact Aq4.1) (oia hZ Aq4.2.1) Aq4.2.2 in4 at4 (g := (mkF m 48 #[rv b, iv 1] [(.int 1), (.ref b), (.int (((ohb c0_) &&& (255 : Int32)) <<< ((0 : Int32) &&& 31)))])) rfl rfl (hb hby d14_48) _ z) ?_
  show OG p e below Φ T3 m 49 #[rv b, iv 1] [(.int (olb c0_)), (.int (((ohb c0_) &&& (255 : Int32)) <<< ((0 : Int32) &&& 31)))]
  refine os (fun _ z => XS.sipush X3.here hx rfl (hb hby d14_49) z) ?_
  refine os (fun _ z => XS.iand X3.here hx rfl (hb hby d14_52) rfl z) ?_
  show OG p e below Φ T3 m 53 #[rv b, iv 1] [(.int ((olb c0_) &&& (255 : Int32))), (.int (((ohb c0_) &&& (255 : Int32)) <<< ((0 : Int32) &&& 31)))]
  obtain ⟨T5, X5, e5, st5⟩ := getS2 X3 hx hZ hown (host := "") (Or.inl (ow67 hw)) Via.refl e3 S_lb (g := (mkF m 53 #[rv b, iv 1] [(.int ((olb c0_) &&& (255 : Int32))), (.int (((ohb c0_) &&& (255 : Int32)) <<< ((0 : Int32) &&& 31)))])) rfl (hb hby d14_53)
  refine os st5 ?_
  show OG p e below Φ T5 m 56 #[rv b, iv 1] [(.int 8), (.int ((olb c0_) &&& (255 : Int32))), (.int (((ohb c0_) &&& (255 : Int32)) <<< ((0 : Int32) &&& 31)))]
  refine os (fun _ z => XT.ishl X5.here hx rfl (hb hby d14_56) rfl z) ?_
  show OG p e below Φ T5 m 57 #[rv b, iv 1] [(.int (((olb c0_) &&& (255 : Int32)) <<< ((8 : Int32) &&& 31))), (.int (((ohb c0_) &&& (255 : Int32)) <<< ((0 : Int32) &&& 31)))]
  refine os (fun _ z => XT.ior X5.here hx rfl (hb hby d14_57) rfl z) ?_
  show OG p e below Φ T5 m 58 #[rv b, iv 1] [(.int ((((ohb c0_) &&& (255 : Int32)) <<< ((0 : Int32) &&& 31)) ||| (((olb c0_) &&& (255 : Int32)) <<< ((8 : Int32) &&& 31))))]
  refine os (fun _ z => XT.i2c X5.here hx rfl (hb hby d14_58) rfl z) ?_
  show OG p e below Φ T5 m 59 #[rv b, iv 1] [(.int (((((ohb c0_) &&& (255 : Int32)) <<< ((0 : Int32) &&& 31)) ||| (((olb c0_) &&& (255 : Int32)) <<< ((8 : Int32) &&& 31))).toUInt32.toUInt16.toUInt32.toInt32))]
  refine OGo.fin X5 hlk (v := (some (.int (((((ohb c0_) &&& (255 : Int32)) <<< ((0 : Int32) &&& 31)) ||| (((olb c0_) &&& (255 : Int32)) <<< ((8 : Int32) &&& 31))).toUInt32.toUInt16.toUInt32.toInt32)))) (fun h => by rw [hret] at h; cases h) (by decide) (by decide) (fun fs hr => X5.ireturnOut hx hret (XT.narrow_c _) (by simp) (hb hby d14_59) hr) fun U eU hF => hΦ _ _ _ ?_ hF
  rw [eU, e5]
  show Q_rsb4_0gc Z b cb c0_ c1_ c2_ c3_ h0 n0 _ _ _
  exact ⟨congrArg (fun z => some (Value.int z)) (own_gc' _ hr0), N0, rfl⟩

theorem ef_rsb4_0c3 (m : MethodId) (x0 : Addr) (x1 : Int32) (x2 : Int32) : entryFrame m #[(.ref x0), (.int x1), (.int x2)] 6 = mkF m 0 #[.val (.ref x0), .val (.int x1), .val (.int x2), .unset, .unset, .unset] [] := by first | (simp [entryFrame, mkF, argsToLocals, Value.category]; done) | rfl
def Q_rsb4_0c3 (Z : State) (a : Addr) (ca : ClassId) (c0_ : Int32) (c1_ : Int32) (c2_ : Int32) (c3_ : Int32) (h0 : Heap) (n0 : Nat) (v : Option Value) (h : Heap) (L : List Loc) : Prop := ∃ b cb, v = some (.ref b) ∧ Fr n0 L ∧ Keep h0 h [] ∧ Arv Z h b cb .byte (8 : Int32) [(.int (ohb c0_)), (.int (olb c0_)), (.int (ohb c1_)), (.int (olb c1_)), (.int (ohb c2_)), (.int (olb c2_)), (.int (ohb c3_)), (.int (olb c3_))] (.int (0 : Int32)) ∧ h0.size ≤ b
set_option maxRecDepth 65536 in
set_option maxHeartbeats 40000000 in
theorem rsb4_0c3 (l : Launch) (Z : State) (a0 : Array Value) (hw : ∀ d ∈ tables_1, d.before a0 Z = true) (ws : List Jvm.Cond) (a : Addr) (ca : ClassId) (c0_ : Int32) (c1_ : Int32) (c2_ : Int32) (c3_ : Int32) (h0 : Heap) (n0 : Nat) (Z0 : n0 ≤ h0.size) (V_a : Arv Z h0 a ca .char (4 : Int32) [(.int c0_), (.int c1_), (.int c2_), (.int c3_)] (.int (0 : Int32))) (O_0 : Old Z n0 h0) (S_ad : Sta Z Z.heap "java/lang/StringUTF16" "$assertionsDisabled" "Z" (.int (1 : Int32))) (S_hb : Sta Z Z.heap "java/lang/StringUTF16" "HI_BYTE_SHIFT" "I" (.int (0 : Int32))) (S_lb : Sta Z Z.heap "java/lang/StringUTF16" "LO_BYTE_SHIFT" "I" (.int (8 : Int32))) (hb0 : (255 : Int32) < c0_) (hr0 : nar .char c0_ = c0_) :
    OCon l Z (⟨"java/lang/StringUTF16", "compress", "([CII)[B"⟩ : MethodName) jdk_52_method_16_code 6 (some (.array .byte)) ws ({ frames := 3, cells := 2, slots := 12, locals := 40 } : Room) #[(.ref a), (.int (0 : Int32)), (.int (4 : Int32))] h0 (Q_rsb4_0c3 Z a ca c0_ c1_ c2_ c3_ h0 n0) := by
  refine OCon.of (plainFor_of_name pn1) ?_
  intro p e s m below meth c s₁ Φ X0 hx hby hml hown hnm hret hlk hZ e0 hΦ
  have N0 := Fr.nil n0
  refine os (fun _ z => castTop (ef_rsb4_0c3 m a (0 : Int32) (4 : Int32)) z) ?_
  have K0 := Keep.refl h0 []
  show OG p e below Φ s₁ m 0 #[rv a, iv 0, iv 4, .unset, .unset, .unset] []
  refine os (fun _ z => XS.iloadN X0.here hx rfl (hb hby d4_0) rfl z) ?_
  obtain ⟨T1, h1, c1, X1, e1, E1, Ar1, st1⟩ := newP (aty := .byte) X0 hx hZ (ow1 hw) e0 (g := (mkF m 1 #[rv a, iv 0, iv 4, .unset, .unset, .unset] [(.int 4)])) rfl (hb hby d4_1) rfl (by decide) (cap := 4) (by decide) (by decide) (by decide) (by decide)
  obtain ⟨b1, g1⟩ : ∃ z, z = h0.size := ⟨_, rfl⟩
  rw [← g1] at Ar1 st1
  have ne1_a : a ≠ b1 := by rw [g1]; exact Nat.ne_of_lt V_a.lt
  have F2 := V_a.ext E1
  have F3 := O_0.ext E1
  have gb1 : n0 ≤ b1 := Nat.le_trans Z0 (Nat.le_of_eq g1.symm)
  have sz1 : h0.size ≤ b1 := Nat.le_trans K0.1 (Nat.le_of_eq g1.symm)
  have K1 := K0.ext E1
  have Zs1 : n0 ≤ h1.size := Nat.le_trans Z0 E1.1
  have V1 : Arv Z h1 b1 c1 .byte (4 : Int32) [(.int (0 : Int32)), (.int (0 : Int32)), (.int (0 : Int32)), (.int (0 : Int32))] (.int (0 : Int32)) := (Arv.new Ar1 (by decide)).pad (pad_rep [] _ 4)
  refine os st1 ?_
  show OG p e below Φ T1 m 3 #[rv a, iv 0, iv 4, .unset, .unset, .unset] [(.ref b1)]
  refine os (fun _ z => XS.astoreN X1.here hx rfl (hb hby d4_3) rfl rfl (l' := #[rv a, iv 0, iv 4, rv b1, .unset, .unset]) rfl z) ?_
  show OG p e below Φ T1 m 4 #[rv a, iv 0, iv 4, rv b1, .unset, .unset] []
  refine os (fun _ z => XS.aloadN X1.here hx rfl (hb hby d4_4) rfl rfl z) ?_
  refine os (fun _ z => XS.iloadN X1.here hx rfl (hb hby d4_5) rfl z) ?_
  show OG p e below Φ T1 m 6 #[rv a, iv 0, iv 4, rv b1, .unset, .unset] [(.int 0), (.ref a)]
  refine os (fun _ z => XS.aloadN X1.here hx rfl (hb hby d4_6) rfl rfl z) ?_
  refine os (fun _ z => XS.iconst X1.here hx rfl (hb hby d4_7) z) ?_
  show OG p e below Φ T1 m 8 #[rv a, iv 0, iv 4, rv b1, .unset, .unset] [(.int 0), (.ref b1), (.int 0), (.ref a)]
  refine os (fun _ z => XS.iloadN X1.here hx rfl (hb hby d4_8) rfl z) ?_
  obtain ⟨_, T4, L4, X4, hQ4, st4⟩ := own_callSt X1 hx hZ hown (ow22 hw) (ow23 hw) (ow20 hw) (ow24 hw) (by decide) (rsb4_0c2 l Z a0 hw [] a ca b1 c1 c0_ c1_ c2_ c3_ h1 n0 Zs1 F2 V1 ne1_a gb1 hb0) e1 (W := 0) (by decide) (by decide) (by decide) (by decide) (pc := 9) (ls := #[rv a, iv 0, iv 4, rv b1, .unset, .unset]) (stk := [(.int 4), (.int 0), (.ref b1), (.int 0), (.ref a)]) (by rw [hml]; rfl) (argsL := [(.ref a), (.int 0), (.ref b1), (.int 0), (.int 4)]) (rest := []) (lenOf pd1 rfl) rfl rfl (Nat.le_of_eq rfl) (hb hby d4_9)
  obtain ⟨rfl, Nq4, Kq4⟩ := hQ4
  have N4 := Fr.app N0 Nq4
  have Zs4 : n0 ≤ T4.heap.size := Nat.le_trans Zs1 Kq4.1
  have F5 := F2.keep Kq4 (ninS ne1_a nin0)
  have F6 := F3.keep Kq4 (allS gb1 all0)
  have K4 := K1.trans Kq4 (allS (Or.inr sz1) all0)
  refine os st4 ?_
  show OG p e below Φ T4 m 12 #[rv a, iv 0, iv 4, rv b1, .unset, .unset] [(.int 0)]
  refine os (fun _ z => XS.istore X4.here hx rfl (hb hby d4_12) rfl (l' := #[rv a, iv 0, iv 4, rv b1, iv 0, .unset]) rfl z) ?_
  show OG p e below Φ T4 m 14 #[rv a, iv 0, iv 4, rv b1, iv 0, .unset] []
  refine os (fun _ z => XS.iload X4.here hx rfl (hb hby d4_14) rfl z) ?_
  refine os (fun _ z => XS.iloadN X4.here hx rfl (hb hby d4_16) rfl z) ?_
  show OG p e below Φ T4 m 17 #[rv a, iv 0, iv 4, rv b1, iv 0, .unset] [(.int 4), (.int 0)]
  refine os (fun _ z => XS.icmpNo X4.here hx rfl (hb hby d4_17) rfl (XT.ii_eq_f (by decide)) z) ?_
  show OG p e below Φ T4 m 20 #[rv a, iv 0, iv 4, rv b1, iv 0, .unset] []
  refine os (fun _ z => XS.aloadN X4.here hx rfl (hb hby d4_20) rfl rfl z) ?_
  refine os (fun _ z => XS.iloadN X4.here hx rfl (hb hby d4_21) rfl z) ?_
  show OG p e below Φ T4 m 22 #[rv a, iv 0, iv 4, rv b1, iv 0, .unset] [(.int 0), (.ref a)]
  refine os (fun _ z => XS.iloadN X4.here hx rfl (hb hby d4_22) rfl z) ?_
  obtain ⟨_, T7, L7, X7, hQ7, st7⟩ := own_callSt X4 hx hZ hown (ow52 hw) (ow53 hw) (ow20 hw) (ow54 hw) (by decide) (rsb4_0tb l Z a0 hw [] a ca c0_ c1_ c2_ c3_ T4.heap n0 Zs4 F5 F6 S_ad S_hb S_lb) rfl (W := 0) (by decide) (by decide) (by decide) (by decide) (pc := 23) (ls := #[rv a, iv 0, iv 4, rv b1, iv 0, .unset]) (stk := [(.int 4), (.int 0), (.ref a)]) (by rw [hml]; rfl) (argsL := [(.ref a), (.int 0), (.int 4)]) (rest := []) (lenOf pd2 rfl) rfl rfl (Nat.le_of_eq rfl) (hb hby d4_23)
  obtain ⟨b7, cb7, rfl, Nq7, Kq7, Vq7, hz7⟩ := hQ7
  have nq7_a : a ≠ b7 := Nat.ne_of_lt (Nat.lt_of_lt_of_le F5.lt hz7)
  have gq7 : n0 ≤ b7 := Nat.le_trans Zs4 hz7
  have sq7 : h0.size ≤ b7 := Nat.le_trans K4.1 hz7
  have N7 := Fr.app N4 Nq7
  have Zs7 : n0 ≤ T7.heap.size := Nat.le_trans Zs4 Kq7.1
  have F8 := F5.keep Kq7 nin0
  have F9 := F6.keep Kq7 all0
  have K7 := K4.trans Kq7 all0
  refine os st7 ?_
  show OG p e below Φ T7 m 26 #[rv a, iv 0, iv 4, rv b1, iv 0, .unset] [(.ref b7)]
  refine os (fun _ z => XS.astore X7.here hx rfl (hb hby d4_26) rfl rfl (l' := #[rv a, iv 0, iv 4, rv b1, iv 0, rv b7]) rfl z) ?_
  show OG p e below Φ T7 m 28 #[rv a, iv 0, iv 4, rv b1, iv 0, rv b7] []
  refine os (fun _ z => XS.aload X7.here hx rfl (hb hby d4_28) rfl rfl z) ?_
  refine os (fun _ z => XS.iload X7.here hx rfl (hb hby d4_30) rfl z) ?_
  show OG p e below Φ T7 m 32 #[rv a, iv 0, iv 4, rv b1, iv 0, rv b7] [(.int 0), (.ref b7)]
  obtain ⟨_, T10, L10, X10, hQ10, st10⟩ := own_callSt X7 hx hZ hown (ow68 hw) (ow69 hw) (ow20 hw) (ow70 hw) (by decide) (rsb4_0gc l Z a0 hw [] b7 cb7 c0_ c1_ c2_ c3_ T7.heap n0 Zs7 Vq7 (S_ad.ext F9.2) (S_hb.ext F9.2) (S_lb.ext F9.2) hr0) rfl (W := 0) (by decide) (by decide) (by decide) (by decide) (pc := 32) (ls := #[rv a, iv 0, iv 4, rv b1, iv 0, rv b7]) (stk := [(.int 0), (.ref b7)]) (by rw [hml]; rfl) (argsL := [(.ref b7), (.int 0)]) (rest := []) (lenOf pd7 rfl) rfl rfl (Nat.le_of_eq rfl) (hb hby d4_32)
  obtain ⟨rfl, Nq10, e10⟩ := hQ10
  have N10 := Fr.app N7 Nq10
  refine os st10 ?_
  show OG p e below Φ T10 m 35 #[rv a, iv 0, iv 4, rv b1, iv 0, rv b7] [(.int c0_)]
  refine os (fun _ z => XS.sipush X10.here hx rfl (hb hby d4_35) z) ?_
  refine os (fun _ z => XS.icmpYes X10.here hx rfl (pc0 := 38) (pc' := 54) rfl (hb hby d4_38) rfl (XT.ii_gt_t hb0) (by decide) (by decide) z) ?_
  show OG p e below Φ T10 m 54 #[rv a, iv 0, iv 4, rv b1, iv 0, rv b7] []
  refine os (fun _ z => XS.aload X10.here hx rfl (hb hby d4_54) rfl rfl z) ?_
  refine OGo.fin X10 hlk (v := (some (.ref b7))) (fun h => by rw [hret] at h; cases h) (by decide) (by decide) (fun fs hr => X10.areturnOut hx rfl hret rfl (hb hby d4_56) hr) fun U eU hF => hΦ _ _ _ ?_ hF
  rw [eU, e10]
  show Q_rsb4_0c3 Z a ca c0_ c1_ c2_ c3_ h0 n0 _ _ _
  exact ⟨_, _, rfl, N10, K7, Vq7, sq7⟩

theorem ef_rsb4_0cf (m : MethodId) (x0 : Addr) (x1 : Int32) : entryFrame m #[(.ref x0), (.int x1)] 2 = mkF m 0 #[.val (.ref x0), .val (.int x1)] [] := by first | (simp [entryFrame, mkF, argsToLocals, Value.category]; done) | rfl
def Q_rsb4_0cf (Z : State) (b : Addr) (cb : ClassId) (c0_ : Int32) (c1_ : Int32) (c2_ : Int32) (c3_ : Int32) (h0 : Heap) (n0 : Nat) (v : Option Value) (h : Heap) (L : List Loc) : Prop := v = some (.int (1 : Int32)) ∧ Fr n0 L ∧ h = h0
set_option maxRecDepth 65536 in
set_option maxHeartbeats 40000000 in
theorem rsb4_0cf (l : Launch) (Z : State) (a0 : Array Value) (hw : ∀ d ∈ tables_1, d.before a0 Z = true) (ws : List Jvm.Cond) (b : Addr) (cb : ClassId) (c0_ : Int32) (c1_ : Int32) (c2_ : Int32) (c3_ : Int32) (h0 : Heap) (n0 : Nat) (Z0 : n0 ≤ h0.size) (V_b : Arv Z h0 b cb .byte (8 : Int32) [(.int (ohb c0_)), (.int (olb c0_)), (.int (ohb c1_)), (.int (olb c1_)), (.int (ohb c2_)), (.int (olb c2_)), (.int (ohb c3_)), (.int (olb c3_))] (.int (0 : Int32))) :
    OCon l Z (⟨"java/lang/StringUTF16", "coderFromArrayLen", "([BI)B"⟩ : MethodName) jdk_52_method_15_code 2 (some .byte) ws ({ frames := 0, cells := 0, slots := 0, locals := 0 } : Room) #[(.ref b), (.int (4 : Int32))] h0 (Q_rsb4_0cf Z b cb c0_ c1_ c2_ c3_ h0 n0) := by
  refine OCon.of (plainFor_of_name pn1) ?_
  intro p e s m below meth c s₁ Φ X0 hx hby hml hown hnm hret hlk hZ e0 hΦ
  have N0 := Fr.nil n0
  refine os (fun _ z => castTop (ef_rsb4_0cf m b (4 : Int32)) z) ?_
  show OG p e below Φ s₁ m 0 #[rv b, iv 4] []
  refine os (fun _ z => XS.iloadN X0.here hx rfl (hb hby d6_0) rfl z) ?_
  refine os (fun _ z => XS.aloadN X0.here hx rfl (hb hby d6_1) rfl rfl z) ?_
  show OG p e below Φ s₁ m 2 #[rv b, iv 4] [(.ref b), (.int 4)]
  obtain ⟨cl1, Aq1, -, S1, M1, -, -⟩ := id V_b
  refine os (fun _ z => X0.arraylength hx (by rw [e0]; exact Aq1.1) (oia hZ Aq1.2.1) (g := (mkF m 2 #[rv b, iv 4] [(.ref b), (.int 4)])) rfl rfl (hb hby d6_2) _ z) ?_
  rw [len_of S1 M1]
  show OG p e below Φ s₁ m 3 #[rv b, iv 4] [(.int 8), (.int 4)]
  refine os (fun _ z => XS.isub X0.here hx rfl (hb hby d6_3) rfl z) ?_
  show OG p e below Φ s₁ m 4 #[rv b, iv 4] [(.int (-4))]
  refine os (fun _ z => XS.bipush X0.here hx rfl (hb hby d6_4) z) ?_
  refine os (fun _ z => XT.iushr X0.here hx rfl (hb hby d6_6) rfl z) ?_
  show OG p e below Φ s₁ m 7 #[rv b, iv 4] [(.int 1)]
  refine os (fun _ z => XT.i2b X0.here hx rfl (hb hby d6_7) rfl z) ?_
  show OG p e below Φ s₁ m 8 #[rv b, iv 4] [(.int 1)]
  refine OGo.fin X0 hlk (v := (some (.int 1))) (fun h => by rw [hret] at h; cases h) (by decide) (by decide) (fun fs hr => X0.ireturnOut hx hret rfl (by simp) (hb hby d6_8) hr) fun U eU hF => hΦ _ _ _ ?_ hF
  rw [eU, e0]
  show Q_rsb4_0cf Z b cb c0_ c1_ c2_ c3_ h0 n0 _ _ _
  exact ⟨rfl, N0, rfl⟩

theorem ef_rsb4_0i4 (m : MethodId) (x0 : Addr) (x1 : Addr) (x2 : Int32) (x3 : Int32) : entryFrame m #[(.ref x0), (.ref x1), (.int x2), (.int x3), .null] 6 = mkF m 0 #[.val (.ref x0), .val (.ref x1), .val (.int x2), .val (.int x3), .val .null, .unset] [] := by first | (simp [entryFrame, mkF, argsToLocals, Value.category]; done) | rfl
def Q_rsb4_0i4 (Z : State) (s_ : Addr) (a : Addr) (ca : ClassId) (qc : Int32) (c0_ : Int32) (c1_ : Int32) (c2_ : Int32) (c3_ : Int32) (h0 : Heap) (n0 : Nat) (v : Option Value) (h : Heap) (L : List Loc) : Prop := v = none ∧ Fr n0 L ∧ Keep h0 h [s_] ∧ Exa Z h s_ "java/lang/String" ∧ ∃ b cb, Fld Z h s_ "java/lang/String" "value" "[B" (.ref b) ∧ Fld Z h s_ "java/lang/String" "coder" "B" (.int (1 : Int32)) ∧ Arv Z h b cb .byte (8 : Int32) [(.int (ohb c0_)), (.int (olb c0_)), (.int (ohb c1_)), (.int (olb c1_)), (.int (ohb c2_)), (.int (olb c2_)), (.int (ohb c3_)), (.int (olb c3_))] (.int (0 : Int32)) ∧ h0.size ≤ b
set_option maxRecDepth 65536 in
set_option maxHeartbeats 40000000 in
theorem rsb4_0i4 (l : Launch) (Z : State) (a0 : Array Value) (hw : ∀ d ∈ tables_1, d.before a0 Z = true) (ws : List Jvm.Cond) (s_ : Addr) (a : Addr) (ca : ClassId) (qc : Int32) (c0_ : Int32) (c1_ : Int32) (c2_ : Int32) (c3_ : Int32) (h0 : Heap) (n0 : Nat) (Z0 : n0 ≤ h0.size) (E_s : Exa Z h0 s_ "java/lang/String") (g_s : n0 ≤ s_) (F_v : Fld Z h0 s_ "java/lang/String" "value" "[B" .null) (F_c : Fld Z h0 s_ "java/lang/String" "coder" "B" (.int (0 : Int32))) (V_a : Arv Z h0 a ca .char (4 : Int32) [(.int c0_), (.int c1_), (.int c2_), (.int c3_)] (.int (0 : Int32))) (nsa : s_ ≠ a) (S_cs : Sta Z Z.heap "java/lang/String" "COMPACT_STRINGS" "Z" (.int qc)) (hq : ¬ qc = 0) (O_0 : Old Z n0 h0) (S_ad : Sta Z Z.heap "java/lang/StringUTF16" "$assertionsDisabled" "Z" (.int (1 : Int32))) (S_hb : Sta Z Z.heap "java/lang/StringUTF16" "HI_BYTE_SHIFT" "I" (.int (0 : Int32))) (S_lb : Sta Z Z.heap "java/lang/StringUTF16" "LO_BYTE_SHIFT" "I" (.int (8 : Int32))) (hb0 : (255 : Int32) < c0_) (hr0 : nar .char c0_ = c0_) :
    OCon l Z (⟨"java/lang/String", "<init>", "([CIILjava/lang/Void;)V"⟩ : MethodName) jdk_42_method_149_code 6 none ws ({ frames := 4, cells := 2, slots := 12, locals := 57 } : Room) #[(.ref s_), (.ref a), (.int (0 : Int32)), (.int (4 : Int32)), .null] h0 (Q_rsb4_0i4 Z s_ a ca qc c0_ c1_ c2_ c3_ h0 n0) := by
  refine OCon.of (plainFor_of_name pn0) ?_
  intro p e s m below meth c s₁ Φ X0 hx hby hml hown hnm hret hlk hZ e0 hΦ
  have N0 := Fr.nil n0
  refine os (fun _ z => castTop (ef_rsb4_0i4 m s_ a (0 : Int32) (4 : Int32)) z) ?_
  have K0 := Keep.refl h0 [s_]
  show OG p e below Φ s₁ m 0 #[rv s_, rv a, iv 0, iv 4, .val .null, .unset] []
  refine os (fun _ z => XS.aloadN X0.here hx rfl (hb hby d2_0) rfl rfl z) ?_
  obtain ⟨T1, X1, e1, st1⟩ := initO X0 hx hZ hown (ow14 hw) (ow15 hw) (ow16 hw) e0 (g := (mkF m 1 #[rv s_, rv a, iv 0, iv 4, .val .null, .unset] [(.ref s_)])) rfl (by rw [hml]; rfl) rfl (hb hby d2_1) (by decide) (W := 0) (Nat.le_of_eq rfl) (by decide)
  refine os st1 ?_
  show OG p e below Φ T1 m 4 #[rv s_, rv a, iv 0, iv 4, .val .null, .unset] []
  refine os (fun _ z => XS.iloadN X1.here hx rfl (hb hby d2_4) rfl z) ?_
  refine os (fun _ z => XS.ifYes X1.here hx rfl (pc0 := 5) (pc' := 27) rfl (hb hby d2_5) rfl (XT.i0_ne_t (by decide)) (by decide) (by decide) z) ?_
  show OG p e below Φ T1 m 27 #[rv s_, rv a, iv 0, iv 4, .val .null, .unset] []
  have Sq := S_cs.ext O_0.2
  obtain ⟨T2, X2, e2, st2⟩ := getS2 X1 hx hZ hown (host := "") (Or.inl (ow17 hw)) Via.refl e1 Sq (g := (mkF m 27 #[rv s_, rv a, iv 0, iv 4, .val .null, .unset] [])) rfl (hb hby d2_27)
  refine os st2 ?_
  show OG p e below Φ T2 m 30 #[rv s_, rv a, iv 0, iv 4, .val .null, .unset] [(.int qc)]
  refine os (fun _ z => XS.ifNo X2.here hx rfl (hb hby d2_30) rfl (XT.i0_eq_f hq) z) ?_
  show OG p e below Φ T2 m 33 #[rv s_, rv a, iv 0, iv 4, .val .null, .unset] []
  refine os (fun _ z => XS.aloadN X2.here hx rfl (hb hby d2_33) rfl rfl z) ?_
  refine os (fun _ z => XS.iloadN X2.here hx rfl (hb hby d2_34) rfl z) ?_
  show OG p e below Φ T2 m 35 #[rv s_, rv a, iv 0, iv 4, .val .null, .unset] [(.int 0), (.ref a)]
  refine os (fun _ z => XS.iloadN X2.here hx rfl (hb hby d2_35) rfl z) ?_
  obtain ⟨_, T3, L3, X3, hQ3, st3⟩ := own_callSt X2 hx hZ hown (ow18 hw) (ow19 hw) (ow20 hw) (ow21 hw) (by decide) (rsb4_0c3 l Z a0 hw [] a ca c0_ c1_ c2_ c3_ h0 n0 Z0 V_a O_0 S_ad S_hb S_lb hb0 hr0) e2 (W := 0) (by decide) (by decide) (by decide) (by decide) (pc := 36) (ls := #[rv s_, rv a, iv 0, iv 4, .val .null, .unset]) (stk := [(.int 4), (.int 0), (.ref a)]) (by rw [hml]; rfl) (argsL := [(.ref a), (.int 0), (.int 4)]) (rest := []) (lenOf pd2 rfl) rfl rfl (Nat.le_of_eq rfl) (hb hby d2_36)
  obtain ⟨b3, cb3, rfl, Nq3, Kq3, Vq3, hz3⟩ := hQ3
  have nq3_a : a ≠ b3 := Nat.ne_of_lt (Nat.lt_of_lt_of_le V_a.lt hz3)
  have nq3_s_ : s_ ≠ b3 := Nat.ne_of_lt (Nat.lt_of_lt_of_le E_s.lt hz3)
  have gq3 : n0 ≤ b3 := Nat.le_trans Z0 hz3
  have sq3 : h0.size ≤ b3 := Nat.le_trans K0.1 hz3
  have N3 := Fr.app N0 Nq3
  have Zs3 : n0 ≤ T3.heap.size := Nat.le_trans Z0 Kq3.1
  have F4 := E_s.keep Kq3
  have F5 := F_v.keep Kq3 nin0
  have F6 := F_c.keep Kq3 nin0
  have F7 := V_a.keep Kq3 nin0
  have F8 := O_0.keep Kq3 all0
  have K3 := K0.trans Kq3 all0
  refine os st3 ?_
  show OG p e below Φ T3 m 39 #[rv s_, rv a, iv 0, iv 4, .val .null, .unset] [(.ref b3)]
  refine os (fun _ z => XS.astore X3.here hx rfl (hb hby d2_39) rfl rfl (l' := #[rv s_, rv a, iv 0, iv 4, .val .null, rv b3]) rfl z) ?_
  show OG p e below Φ T3 m 41 #[rv s_, rv a, iv 0, iv 4, .val .null, rv b3] []
  refine os (fun _ z => XS.aloadN X3.here hx rfl (hb hby d2_41) rfl rfl z) ?_
  refine os (fun _ z => XS.aload X3.here hx rfl (hb hby d2_42) rfl rfl z) ?_
  show OG p e below Φ T3 m 44 #[rv s_, rv a, iv 0, iv 4, .val .null, rv b3] [(.ref b3), (.ref s_)]
  refine os (fun _ z => XS.iloadN X3.here hx rfl (hb hby d2_44) rfl z) ?_
  obtain ⟨_, T9, L9, X9, hQ9, st9⟩ := own_callSt X3 hx hZ hown (ow25 hw) (ow26 hw) (ow20 hw) (ow27 hw) (by decide) (rsb4_0cf l Z a0 hw [] b3 cb3 c0_ c1_ c2_ c3_ T3.heap n0 Zs3 Vq3) rfl (W := 1) (by decide) (by decide) (by decide) (by decide) (pc := 45) (ls := #[rv s_, rv a, iv 0, iv 4, .val .null, rv b3]) (stk := [(.int 4), (.ref b3), (.ref s_)]) (by rw [hml]; rfl) (argsL := [(.ref b3), (.int 4)]) (rest := [(.ref s_)]) (lenOf pd3 rfl) rfl rfl (Nat.le_of_eq rfl) (hb hby d2_45)
  obtain ⟨rfl, Nq9, e9⟩ := hQ9
  have N9 := Fr.app N3 Nq9
  refine os st9 ?_
  show OG p e below Φ T9 m 48 #[rv s_, rv a, iv 0, iv 4, .val .null, rv b3] [(.int 1), (.ref s_)]
  obtain ⟨T10, h10, X10, e10, W10, st10⟩ := putF X9 hx hZ hown (host := "") (Or.inl (ow28 hw)) Via.refl e9 F6 F4 (Or.inr ⟨(ow29 hw), rfl, hnm⟩) (ow5 hw) (ty := .byte) (by decide) (by decide) (by decide) (g := (mkF m 48 #[rv s_, rv a, iv 0, iv 4, .val .null, rv b3] [(.int 1), (.ref s_)])) rfl rfl (hb hby d2_48)
  have F11 := F4.wr W10
  have F12 := F5.other W10 (Or.inr (slot_ne (Or.inr (ow31 hw)) (Or.inr (ow29 hw)) (by decide) (t := (.array .byte)) (t' := .byte) (by decide) (by decide)))
  have F13 := F6.same W10
  have F14 := F7.other W10 (Ne.symm nsa)
  have F15 := F8.wr W10 g_s
  have F16 := Vq3.other W10 (Ne.symm nq3_s_)
  have K10 := K3.wr W10 (Or.inl (List.mem_of_getElem? (i := 0) rfl))
  have N10 := Fr.snoc X10 N9 g_s
  have Zs10 : n0 ≤ h10.size := by rw [W10.size]; exact Zs3
  refine os st10 ?_
  show OG p e below Φ T10 m 51 #[rv s_, rv a, iv 0, iv 4, .val .null, rv b3] []
  refine os (fun _ z => XS.aloadN X10.here hx rfl (hb hby d2_51) rfl rfl z) ?_
  refine os (fun _ z => XS.aload X10.here hx rfl (hb hby d2_52) rfl rfl z) ?_
  show OG p e below Φ T10 m 54 #[rv s_, rv a, iv 0, iv 4, .val .null, rv b3] [(.ref b3), (.ref s_)]
  obtain ⟨T17, h17, X17, e17, W17, st17⟩ := putF X10 hx hZ hown (host := "") (Or.inl (ow30 hw)) Via.refl e10 F12 F11 (Or.inr ⟨(ow31 hw), rfl, hnm⟩) (ow5 hw) (ty := (.array .byte)) (by decide) rfl rfl (g := (mkF m 54 #[rv s_, rv a, iv 0, iv 4, .val .null, rv b3] [(.ref b3), (.ref s_)])) rfl rfl (hb hby d2_54)
  have F18 := F11.wr W17
  have F19 := F12.same W17
  have F20 := F13.other W17 (Or.inr (slot_ne (Or.inr (ow29 hw)) (Or.inr (ow31 hw)) (by decide) (t := .byte) (t' := (.array .byte)) (by decide) (by decide)))
  have F21 := F14.other W17 (Ne.symm nsa)
  have F22 := F15.wr W17 g_s
  have F23 := F16.other W17 (Ne.symm nq3_s_)
  have K17 := K10.wr W17 (Or.inl (List.mem_of_getElem? (i := 0) rfl))
  have N17 := Fr.snoc X17 N10 g_s
  have Zs17 : n0 ≤ h17.size := by rw [W17.size]; exact Zs10
  refine os st17 ?_
  show OG p e below Φ T17 m 57 #[rv s_, rv a, iv 0, iv 4, .val .null, rv b3] []
  refine OGo.fin X17 hlk (v := none) (fun _ => rfl) (by decide) (by decide) (fun fs hr => X17.returnOut hx hret (hb hby d2_57) hr) fun U eU hF => hΦ _ _ _ ?_ hF
  rw [eU, e17]
  show Q_rsb4_0i4 Z s_ a ca qc c0_ c1_ c2_ c3_ h0 n0 _ _ _
  exact ⟨rfl, N17, K17, F18, _, _, F19, F20, F23, sq3⟩

theorem ef_rsb4_0i1 (m : MethodId) (x0 : Addr) (x1 : Addr) : entryFrame m #[(.ref x0), (.ref x1)] 2 = mkF m 0 #[.val (.ref x0), .val (.ref x1)] [] := by first | (simp [entryFrame, mkF, argsToLocals, Value.category]; done) | rfl
def Q_rsb4_0i1 (Z : State) (s_ : Addr) (a : Addr) (ca : ClassId) (qc : Int32) (c0_ : Int32) (c1_ : Int32) (c2_ : Int32) (c3_ : Int32) (h0 : Heap) (n0 : Nat) (v : Option Value) (h : Heap) (L : List Loc) : Prop := v = none ∧ Fr n0 L ∧ Keep h0 h [s_] ∧ Exa Z h s_ "java/lang/String" ∧ ∃ b cb, Fld Z h s_ "java/lang/String" "value" "[B" (.ref b) ∧ Fld Z h s_ "java/lang/String" "coder" "B" (.int (1 : Int32)) ∧ Arv Z h b cb .byte (8 : Int32) [(.int (ohb c0_)), (.int (olb c0_)), (.int (ohb c1_)), (.int (olb c1_)), (.int (ohb c2_)), (.int (olb c2_)), (.int (ohb c3_)), (.int (olb c3_))] (.int (0 : Int32)) ∧ h0.size ≤ b
set_option maxRecDepth 65536 in
set_option maxHeartbeats 40000000 in
theorem rsb4_0i1 (l : Launch) (Z : State) (a0 : Array Value) (hw : ∀ d ∈ tables_1, d.before a0 Z = true) (ws : List Jvm.Cond) (s_ : Addr) (a : Addr) (ca : ClassId) (qc : Int32) (c0_ : Int32) (c1_ : Int32) (c2_ : Int32) (c3_ : Int32) (h0 : Heap) (n0 : Nat) (Z0 : n0 ≤ h0.size) (E_s : Exa Z h0 s_ "java/lang/String") (g_s : n0 ≤ s_) (F_v : Fld Z h0 s_ "java/lang/String" "value" "[B" .null) (F_c : Fld Z h0 s_ "java/lang/String" "coder" "B" (.int (0 : Int32))) (V_a : Arv Z h0 a ca .char (4 : Int32) [(.int c0_), (.int c1_), (.int c2_), (.int c3_)] (.int (0 : Int32))) (nsa : s_ ≠ a) (S_cs : Sta Z Z.heap "java/lang/String" "COMPACT_STRINGS" "Z" (.int qc)) (hq : ¬ qc = 0) (O_0 : Old Z n0 h0) (S_ad : Sta Z Z.heap "java/lang/StringUTF16" "$assertionsDisabled" "Z" (.int (1 : Int32))) (S_hb : Sta Z Z.heap "java/lang/StringUTF16" "HI_BYTE_SHIFT" "I" (.int (0 : Int32))) (S_lb : Sta Z Z.heap "java/lang/StringUTF16" "LO_BYTE_SHIFT" "I" (.int (8 : Int32))) (hb0 : (255 : Int32) < c0_) (hr0 : nar .char c0_ = c0_) :
    OCon l Z (⟨"java/lang/String", "<init>", "([C)V"⟩ : MethodName) jdk_42_method_3_code 2 none ws ({ frames := 5, cells := 2, slots := 12, locals := 74 } : Room) #[(.ref s_), (.ref a)] h0 (Q_rsb4_0i1 Z s_ a ca qc c0_ c1_ c2_ c3_ h0 n0) := by
  refine OCon.of (plainFor_of_name pn0) ?_
  intro p e s m below meth c s₁ Φ X0 hx hby hml hown hnm hret hlk hZ e0 hΦ
  have N0 := Fr.nil n0
  refine os (fun _ z => castTop (ef_rsb4_0i1 m s_ a) z) ?_
  have K0 := Keep.refl h0 [s_]
  show OG p e below Φ s₁ m 0 #[rv s_, rv a] []
  refine os (fun _ z => XS.aloadN X0.here hx rfl (hb hby d1_0) rfl rfl z) ?_
  refine os (fun _ z => XS.aloadN X0.here hx rfl (hb hby d1_1) rfl rfl z) ?_
  show OG p e below Φ s₁ m 2 #[rv s_, rv a] [(.ref a), (.ref s_)]
  refine os (fun _ z => XS.iconst X0.here hx rfl (hb hby d1_2) z) ?_
  refine os (fun _ z => XS.aloadN X0.here hx rfl (hb hby d1_3) rfl rfl z) ?_
  show OG p e below Φ s₁ m 4 #[rv s_, rv a] [(.ref a), (.int 0), (.ref a), (.ref s_)]
  obtain ⟨cl1, Aq1, -, S1, M1, -, -⟩ := id V_a
  refine os (fun _ z => X0.arraylength hx (by rw [e0]; exact Aq1.1) (oia hZ Aq1.2.1) (g := (mkF m 4 #[rv s_, rv a] [(.ref a), (.int 0), (.ref a), (.ref s_)])) rfl rfl (hb hby d1_4) _ z) ?_
  rw [len_of S1 M1]
  show OG p e below Φ s₁ m 5 #[rv s_, rv a] [(.int 4), (.int 0), (.ref a), (.ref s_)]
  refine os (fun _ z => XS.aconstNull X0.here hx rfl (hb hby d1_5) z) ?_
  obtain ⟨_, T2, L2, X2, hQ2, st2⟩ := own_callSp X0 hx hZ rfl hown (ow10 hw) (ow11 hw) (ow6 hw) (ow13 hw) (by decide) (rsb4_0i4 l Z a0 hw [] s_ a ca qc c0_ c1_ c2_ c3_ h0 n0 Z0 E_s g_s F_v F_c V_a nsa S_cs hq O_0 S_ad S_hb S_lb hb0 hr0) e0 (W := 0) (by decide) (by decide) (by decide) (by decide) (pc := 6) (ls := #[rv s_, rv a]) (stk := [.null, (.int 4), (.int 0), (.ref a), (.ref s_)]) (by rw [hml]; rfl) (a := s_) (argsL := [(.ref a), (.int 0), (.int 4), .null]) (rest := []) (lenOf pd0 rfl) rfl rfl (Nat.le_of_eq rfl) (hb hby d1_6)
  obtain ⟨rfl, Nq2, Kq2, Eq2, b2, cb2, Fv2, Fc2, Vq2, hz2⟩ := hQ2
  have nq2_a : a ≠ b2 := Nat.ne_of_lt (Nat.lt_of_lt_of_le V_a.lt hz2)
  have nq2_s_ : s_ ≠ b2 := Nat.ne_of_lt (Nat.lt_of_lt_of_le E_s.lt hz2)
  have gq2 : n0 ≤ b2 := Nat.le_trans Z0 hz2
  have sq2 : h0.size ≤ b2 := Nat.le_trans K0.1 hz2
  have N2 := Fr.app N0 Nq2
  have Zs2 : n0 ≤ T2.heap.size := Nat.le_trans Z0 Kq2.1
  have F3 := V_a.keep Kq2 (ninS (Ne.symm nsa) nin0)
  have F4 := O_0.keep Kq2 (allS g_s all0)
  have K2 := K0.trans Kq2 (allS (Or.inl (List.mem_of_getElem? (i := 0) rfl)) all0)
  refine os st2 ?_
  show OG p e below Φ T2 m 9 #[rv s_, rv a] []
  refine OGo.fin X2 hlk (v := none) (fun _ => rfl) (by decide) (by decide) (fun fs hr => X2.returnOut hx hret (hb hby d1_9) hr) fun U eU hF => hΦ _ _ _ ?_ hF
  rw [eU]
  show Q_rsb4_0i1 Z s_ a ca qc c0_ c1_ c2_ c3_ h0 n0 _ _ _
  exact ⟨rfl, N2, K2, Eq2, _, _, Fv2, Fc2, Vq2, sq2⟩

theorem ef_rsb4_1c2 (m : MethodId) (x0 : Addr) (x1 : Int32) (x2 : Addr) (x3 : Int32) (x4 : Int32) : entryFrame m #[(.ref x0), (.int x1), (.ref x2), (.int x3), (.int x4)] 7 = mkF m 0 #[.val (.ref x0), .val (.int x1), .val (.ref x2), .val (.int x3), .val (.int x4), .unset, .unset] [] := by first | (simp [entryFrame, mkF, argsToLocals, Value.category]; done) | rfl
def Q_rsb4_1c2 (Z : State) (a : Addr) (ca : ClassId) (b : Addr) (cb : ClassId) (c0_ : Int32) (c1_ : Int32) (c2_ : Int32) (c3_ : Int32) (h0 : Heap) (n0 : Nat) (v : Option Value) (h : Heap) (L : List Loc) : Prop := v = some (.int (1 : Int32)) ∧ Fr n0 L ∧ Keep h0 h [b]
set_option maxRecDepth 65536 in
set_option maxHeartbeats 40000000 in
theorem rsb4_1c2 (l : Launch) (Z : State) (a0 : Array Value) (hw : ∀ d ∈ tables_1, d.before a0 Z = true) (ws : List Jvm.Cond) (a : Addr) (ca : ClassId) (b : Addr) (cb : ClassId) (c0_ : Int32) (c1_ : Int32) (c2_ : Int32) (c3_ : Int32) (h0 : Heap) (n0 : Nat) (Z0 : n0 ≤ h0.size) (V_a : Arv Z h0 a ca .char (4 : Int32) [(.int c0_), (.int c1_), (.int c2_), (.int c3_)] (.int (0 : Int32))) (V_b : Arv Z h0 b cb .byte (4 : Int32) [(.int (0 : Int32)), (.int (0 : Int32)), (.int (0 : Int32)), (.int (0 : Int32))] (.int (0 : Int32))) (nab : a ≠ b) (g_b : n0 ≤ b) (hl0 : ¬ (255 : Int32) < c0_) (hb1 : (255 : Int32) < c1_) :
    OCon l Z (⟨"java/lang/StringUTF16", "compress", "([CI[BII)I"⟩ : MethodName) jdk_52_method_21_code 7 (some .int) ws ({ frames := 0, cells := 0, slots := 0, locals := 0 } : Room) #[(.ref a), (.int (0 : Int32)), (.ref b), (.int (0 : Int32)), (.int (4 : Int32))] h0 (Q_rsb4_1c2 Z a ca b cb c0_ c1_ c2_ c3_ h0 n0) := by
  refine OCon.of (plainFor_of_name pn1) ?_
  intro p e s m below meth c s₁ Φ X0 hx hby hml hown hnm hret hlk hZ e0 hΦ
  have N0 := Fr.nil n0
  refine os (fun _ z => castTop (ef_rsb4_1c2 m a (0 : Int32) b (0 : Int32) (4 : Int32)) z) ?_
  have K0 := Keep.refl h0 [b]
  show OG p e below Φ s₁ m 0 #[rv a, iv 0, rv b, iv 0, iv 4, .unset, .unset] []
  refine os (fun _ z => XS.iconst X0.here hx rfl (hb hby d5_0) z) ?_
  refine os (fun _ z => XS.istore X0.here hx rfl (hb hby d5_1) rfl (l' := #[rv a, iv 0, rv b, iv 0, iv 4, iv 0, .unset]) rfl z) ?_
  show OG p e below Φ s₁ m 3 #[rv a, iv 0, rv b, iv 0, iv 4, iv 0, .unset] []
  refine os (fun _ z => XS.iload X0.here hx rfl (hb hby d5_3) rfl z) ?_
  refine os (fun _ z => XS.iload X0.here hx rfl (hb hby d5_5) rfl z) ?_
  show OG p e below Φ s₁ m 7 #[rv a, iv 0, rv b, iv 0, iv 4, iv 0, .unset] [(.int 4), (.int 0)]
  refine os (fun _ z => XS.icmpNo X0.here hx rfl (hb hby d5_7) rfl (XT.ii_ge_f (by decide)) z) ?_
  show OG p e below Φ s₁ m 10 #[rv a, iv 0, rv b, iv 0, iv 4, iv 0, .unset] []
  refine os (fun _ z => XS.aloadN X0.here hx rfl (hb hby d5_10) rfl rfl z) ?_
  refine os (fun _ z => XS.iloadN X0.here hx rfl (hb hby d5_11) rfl z) ?_
  show OG p e below Φ s₁ m 12 #[rv a, iv 0, rv b, iv 0, iv 4, iv 0, .unset] [(.int 0), (.ref a)]
  obtain ⟨cl1, Aq1, -, S1, M1, H1, -⟩ := id V_a
  have in1 : ¬ ((0 : Int32) < 0 ∨ cl1.slots.size ≤ (0 : Int32).toNatClampNeg) := inb_of S1 ⟨by decide, by decide⟩
  have at1 : cl1.slots[(0 : Int32).toNatClampNeg]? = some (.int c0_) := H1.at in1 rfl
  refine os (fun _ z => X0.caload hx (by rw [e0]; exact Aq1.1) (oia hZ Aq1.2.1) Aq1.2.2 in1 at1 (g := (mkF m 12 #[rv a, iv 0, rv b, iv 0, iv 4, iv 0, .unset] [(.int 0), (.ref a)])) rfl rfl (hb hby d5_12) _ z) ?_
  show OG p e below Φ s₁ m 13 #[rv a, iv 0, rv b, iv 0, iv 4, iv 0, .unset] [(.int c0_)]
  refine os (fun _ z => XS.istore X0.here hx rfl (hb hby d5_13) rfl (l' := #[rv a, iv 0, rv b, iv 0, iv 4, iv 0, iv c0_]) rfl z) ?_
  show OG p e below Φ s₁ m 15 #[rv a, iv 0, rv b, iv 0, iv 4, iv 0, iv c0_] []
  refine os (fun _ z => XS.iload X0.here hx rfl (hb hby d5_15) rfl z) ?_
  refine os (fun _ z => XS.sipush X0.here hx rfl (hb hby d5_17) z) ?_
  show OG p e below Φ s₁ m 20 #[rv a, iv 0, rv b, iv 0, iv 4, iv 0, iv c0_] [(.int 255), (.int c0_)]
  refine os (fun _ z => XS.icmpYes X0.here hx rfl (pc0 := 20) (pc' := 26) rfl (hb hby d5_20) rfl (XT.ii_le_t hl0) (by decide) (by decide) z) ?_
  show OG p e below Φ s₁ m 26 #[rv a, iv 0, rv b, iv 0, iv 4, iv 0, iv c0_] []
  refine os (fun _ z => XS.aloadN X0.here hx rfl (hb hby d5_26) rfl rfl z) ?_
  refine os (fun _ z => XS.iloadN X0.here hx rfl (hb hby d5_27) rfl z) ?_
  show OG p e below Φ s₁ m 28 #[rv a, iv 0, rv b, iv 0, iv 4, iv 0, iv c0_] [(.int 0), (.ref b)]
  refine os (fun _ z => XS.iload X0.here hx rfl (hb hby d5_28) rfl z) ?_
  refine os (fun _ z => XT.i2b X0.here hx rfl (hb hby d5_30) rfl z) ?_
  show OG p e below Φ s₁ m 31 #[rv a, iv 0, rv b, iv 0, iv 4, iv 0, iv c0_] [(.int (c0_.toInt8.toInt32)), (.int 0), (.ref b)]
  obtain ⟨cl2, Aq2, Cq2, S2, M2, H2, G2⟩ := id V_b
  have in2 : ¬ ((0 : Int32) < 0 ∨ cl2.slots.size ≤ (0 : Int32).toNatClampNeg) := inb_of S2 ⟨by decide, by decide⟩
  obtain ⟨T2, h2, X2, e2, W2, st2⟩ := stB X0 hx hZ e0 Aq2 in2 (g := (mkF m 31 #[rv a, iv 0, rv b, iv 0, iv 4, iv 0, iv c0_] [(.int (c0_.toInt8.toInt32)), (.int 0), (.ref b)])) rfl rfl (hb hby d5_31)
  have W2 : Wr h0 h2 b (0 : Int32).toNatClampNeg (.int (nar .byte (c0_.toInt8.toInt32))) := W2
  have F3 := V_a.other W2 nab
  have V2 : Arv Z h2 b cb .byte (4 : Int32) [(.int (nar .byte (c0_.toInt8.toInt32))), (.int (0 : Int32)), (.int (0 : Int32)), (.int (0 : Int32))] (.int (0 : Int32)) := Arv.set Aq2 Cq2 S2 M2 H2 G2 (fits_nar_byte _) W2 0 (by decide) (by show 0 < 4; decide)
  have K2 := K0.wr W2 (Or.inl (List.mem_of_getElem? (i := 0) rfl))
  have N2 := Fr.snoc X2 N0 g_b
  have Zs2 : n0 ≤ h2.size := by rw [W2.size]; exact Z0
  refine os st2 ?_
  show OG p e below Φ T2 m 32 #[rv a, iv 0, rv b, iv 0, iv 4, iv 0, iv c0_] []
  refine os (fun _ z => XS.iinc X2.here hx rfl (hb hby d5_32) rfl (l' := #[rv a, iv ((0 : Int32) + (1 : Int32)), rv b, iv 0, iv 4, iv 0, iv c0_]) rfl z) ?_
  show OG p e below Φ T2 m 35 #[rv a, iv 1, rv b, iv 0, iv 4, iv 0, iv c0_] []
  refine os (fun _ z => XS.iinc X2.here hx rfl (hb hby d5_35) rfl (l' := #[rv a, iv 1, rv b, iv ((0 : Int32) + (1 : Int32)), iv 4, iv 0, iv c0_]) rfl z) ?_
  show OG p e below Φ T2 m 38 #[rv a, iv 1, rv b, iv 1, iv 4, iv 0, iv c0_] []
  refine os (fun _ z => XS.iinc X2.here hx rfl (hb hby d5_38) rfl (l' := #[rv a, iv 1, rv b, iv 1, iv 4, iv ((0 : Int32) + (1 : Int32)), iv c0_]) rfl z) ?_
  show OG p e below Φ T2 m 41 #[rv a, iv 1, rv b, iv 1, iv 4, iv 1, iv c0_] []
  refine os (fun _ z => XS.goto X2.here hx rfl (pc0 := 41) (pc' := 3) rfl (hb hby d5_41) (by decide) (by decide) z) ?_
  show OG p e below Φ T2 m 3 #[rv a, iv 1, rv b, iv 1, iv 4, iv 1, iv c0_] []
  refine os (fun _ z => XS.iload X2.here hx rfl (hb hby d5_3) rfl z) ?_
  refine os (fun _ z => XS.iload X2.here hx rfl (hb hby d5_5) rfl z) ?_
  show OG p e below Φ T2 m 7 #[rv a, iv 1, rv b, iv 1, iv 4, iv 1, iv c0_] [(.int 4), (.int 1)]
  refine os (fun _ z => XS.icmpNo X2.here hx rfl (hb hby d5_7) rfl (XT.ii_ge_f (by decide)) z) ?_
  show OG p e below Φ T2 m 10 #[rv a, iv 1, rv b, iv 1, iv 4, iv 1, iv c0_] []
  refine os (fun _ z => XS.aloadN X2.here hx rfl (hb hby d5_10) rfl rfl z) ?_
  refine os (fun _ z => XS.iloadN X2.here hx rfl (hb hby d5_11) rfl z) ?_
  show OG p e below Φ T2 m 12 #[rv a, iv 1, rv b, iv 1, iv 4, iv 1, iv c0_] [(.int 1), (.ref a)]
  obtain ⟨cl4, Aq4, -, S4, M4, H4, -⟩ := id F3
  have in4 : ¬ ((1 : Int32) < 0 ∨ cl4.slots.size ≤ (1 : Int32).toNatClampNeg) := inb_of S4 ⟨by decide, by decide⟩
  have at4 : cl4.slots[(1 : Int32).toNatClampNeg]? = some (.int c1_) := H4.at in4 rfl
  refine os (fun _ z => X2.caload hx (by rw [e2]; exact Aq4.1) (oia hZ Aq4.2.1) Aq4.2.2 in4 at4 (g := (mkF m 12 #[rv a, iv 1, rv b, iv 1, iv 4, iv 1, iv c0_] [(.int 1), (.ref a)])) rfl rfl (hb hby d5_12) _ z) ?_
  show OG p e below Φ T2 m 13 #[rv a, iv 1, rv b, iv 1, iv 4, iv 1, iv c0_] [(.int c1_)]
  refine os (fun _ z => XS.istore X2.here hx rfl (hb hby d5_13) rfl (l' := #[rv a, iv 1, rv b, iv 1, iv 4, iv 1, iv c1_]) rfl z) ?_
  show OG p e below Φ T2 m 15 #[rv a, iv 1, rv b, iv 1, iv 4, iv 1, iv c1_] []
  refine os (fun _ z => XS.iload X2.here hx rfl (hb hby d5_15) rfl z) ?_
  refine os (fun _ z => XS.sipush X2.here hx rfl (hb hby d5_17) z) ?_
  show OG p e below Φ T2 m 20 #[rv a, iv 1, rv b, iv 1, iv 4, iv 1, iv c1_] [(.int 255), (.int c1_)]
  refine os (fun _ z => XS.icmpNo X2.here hx rfl (hb hby d5_20) rfl (XT.ii_le_f hb1) z) ?_
  show OG p e below Φ T2 m 23 #[rv a, iv 1, rv b, iv 1, iv 4, iv 1, iv c1_] []
  refine os (fun _ z => XS.iload X2.here hx rfl (hb hby d5_23) rfl z) ?_
  refine OGo.fin X2 hlk (v := (some (.int 1))) (fun h => by rw [hret] at h; cases h) (by decide) (by decide) (fun fs hr => X2.ireturnOut hx hret rfl (by simp) (hb hby d5_25) hr) fun U eU hF => hΦ _ _ _ ?_ hF
  rw [eU, e2]
  show Q_rsb4_1c2 Z a ca b cb c0_ c1_ c2_ c3_ h0 n0 _ _ _
  exact ⟨rfl, N2, K2⟩

theorem ef_rsb4_1gc (m : MethodId) (x0 : Addr) (x1 : Int32) : entryFrame m #[(.ref x0), (.int x1)] 2 = mkF m 0 #[.val (.ref x0), .val (.int x1)] [] := by first | (simp [entryFrame, mkF, argsToLocals, Value.category]; done) | rfl
def Q_rsb4_1gc (Z : State) (b : Addr) (cb : ClassId) (c0_ : Int32) (c1_ : Int32) (c2_ : Int32) (c3_ : Int32) (h0 : Heap) (n0 : Nat) (v : Option Value) (h : Heap) (L : List Loc) : Prop := v = some (.int c1_) ∧ Fr n0 L ∧ h = h0
set_option maxRecDepth 65536 in
set_option maxHeartbeats 40000000 in
theorem rsb4_1gc (l : Launch) (Z : State) (a0 : Array Value) (hw : ∀ d ∈ tables_1, d.before a0 Z = true) (ws : List Jvm.Cond) (b : Addr) (cb : ClassId) (c0_ : Int32) (c1_ : Int32) (c2_ : Int32) (c3_ : Int32) (h0 : Heap) (n0 : Nat) (Z0 : n0 ≤ h0.size) (V_b : Arv Z h0 b cb .byte (8 : Int32) [(.int (ohb c0_)), (.int (olb c0_)), (.int (ohb c1_)), (.int (olb c1_)), (.int (ohb c2_)), (.int (olb c2_)), (.int (ohb c3_)), (.int (olb c3_))] (.int (0 : Int32))) (S_ad : Sta Z h0 "java/lang/StringUTF16" "$assertionsDisabled" "Z" (.int (1 : Int32))) (S_hb : Sta Z h0 "java/lang/StringUTF16" "HI_BYTE_SHIFT" "I" (.int (0 : Int32))) (S_lb : Sta Z h0 "java/lang/StringUTF16" "LO_BYTE_SHIFT" "I" (.int (8 : Int32))) (hr1 : nar .char c1_ = c1_) :
    OCon l Z (⟨"java/lang/StringUTF16", "getChar", "([BI)C"⟩ : MethodName) jdk_52_method_5_code 2 (some .char) ws ({ frames := 0, cells := 0, slots := 0, locals := 0 } : Room) #[(.ref b), (.int (1 : Int32))] h0 (Q_rsb4_1gc Z b cb c0_ c1_ c2_ c3_ h0 n0) := by
  refine OCon.of (plainFor_of_name pn1) ?_
  intro p e s m below meth c s₁ Φ X0 hx hby hml hown hnm hret hlk hZ e0 hΦ
  have N0 := Fr.nil n0
  refine os (fun _ z => castTop (ef_rsb4_1gc m b (1 : Int32)) z) ?_
  show OG p e below Φ s₁ m 0 #[rv b, iv 1] []
  obtain ⟨T1, X1, e1, st1⟩ := getS2 X0 hx hZ hown (host := "") (Or.inl (ow65 hw)) Via.refl e0 S_ad (g := (mkF m 0 #[rv b, iv 1] [])) rfl (hb hby d14_0)
  refine os st1 ?_
  show OG p e below Φ T1 m 3 #[rv b, iv 1] [(.int 1)]
  refine os (fun _ z => XS.ifYes X1.here hx rfl (pc0 := 3) (pc' := 28) rfl (hb hby d14_3) rfl (XT.i0_ne_t (by decide)) (by decide) (by decide) z) ?_
  show OG p e below Φ T1 m 28 #[rv b, iv 1] []
  refine os (fun _ z => XS.iloadN X1.here hx rfl (hb hby d14_28) rfl z) ?_
  refine os (fun _ z => XS.iconst X1.here hx rfl (hb hby d14_29) z) ?_
  show OG p e below Φ T1 m 30 #[rv b, iv 1] [(.int 1), (.int 1)]
  refine os (fun _ z => XT.ishl X1.here hx rfl (hb hby d14_30) rfl z) ?_
  show OG p e below Φ T1 m 31 #[rv b, iv 1] [(.int 2)]
  refine os (fun _ z => XS.istoreN X1.here hx rfl (hb hby d14_31) rfl (l' := #[rv b, iv 2]) rfl z) ?_
  show OG p e below Φ T1 m 32 #[rv b, iv 2] []
  refine os (fun _ z => XS.aloadN X1.here hx rfl (hb hby d14_32) rfl rfl z) ?_
  refine os (fun _ z => XS.iloadN X1.here hx rfl (hb hby d14_33) rfl z) ?_
  show OG p e below Φ T1 m 34 #[rv b, iv 2] [(.int 2), (.ref b)]
  refine os (fun _ z => XS.iinc X1.here hx rfl (hb hby d14_34) rfl (l' := #[rv b, iv ((2 : Int32) + (1 : Int32))]) rfl z) ?_
  show OG p e below Φ T1 m 37 #[rv b, iv 3] [(.int 2), (.ref b)]
  obtain ⟨cl2, Aq2, -, S2, M2, H2, -⟩ := id V_b
  have in2 : ¬ ((2 : Int32) < 0 ∨ cl2.slots.size ≤ (2 : Int32).toNatClampNeg) := inb_of S2 ⟨by decide, by decide⟩
  have at2 : cl2.slots[(2 : Int32).toNatClampNeg]? = some (.int (ohb c1_)) := H2.at in2 rfl
  refine os (fun _ z => X1.baloadBytes hx (by rw [e1]; exact Aq2.1) (oia hZ Aq2.2.1) Aq2.2.2 in2 at2 (g := (mkF m 37 #[rv b, iv 3] [(.int 2), (.ref b)])) rfl rfl (hb hby d14_37) _ z) ?_
  show OG p e below Φ T1 m 38 #[rv b, iv 3] [(.int (ohb c1_))]
  refine os (fun _ z => XS.sipush X1.here hx rfl (hb hby d14_38) z) ?_
  refine os (fun _ z => XS.iand X1.here hx rfl (hb hby d14_41) rfl z) ?_
  show OG p e below Φ T1 m 42 #[rv b, iv 3] [(.int ((ohb c1_) &&& (255 : Int32)))]
  obtain ⟨T3, X3, e3, st3⟩ := getS2 X1 hx hZ hown (host := "") (Or.inl (ow66 hw)) Via.refl e1 S_hb (g := (mkF m 42 #[rv b, iv 3] [(.int ((ohb c1_) &&& (255 : Int32)))])) rfl (hb hby d14_42)
  refine os st3 ?_
  show OG p e below Φ T3 m 45 #[rv b, iv 3] [(.int 0), (.int ((ohb c1_) &&& (255 : Int32)))]
  refine os (fun _ z => XT.ishl X3.here hx rfl (hb hby d14_45) rfl z) ?_
  show OG p e below Φ T3 m 46 #[rv b, iv 3] [(.int (((ohb c1_) &&& (255 : Int32)) <<< ((0 : Int32) &&& 31)))]
  refine os (fun _ z => XS.aloadN X3.here hx rfl (hb hby d14_46) rfl rfl z) ?_
  refine os (fun _ z => XS.iloadN X3.here hx rfl (hb hby d14_47) rfl z) ?_
  show OG p e below Φ T3 m 48 #[rv b, iv 3] [(.int 3), (.ref b), (.int (((ohb c1_) &&& (255 : Int32)) <<< ((0 : Int32) &&& 31)))]
  obtain ⟨cl4, Aq4, -, S4, M4, H4, -⟩ := id V_b
  have in4 : ¬ ((3 : Int32) < 0 ∨ cl4.slots.size ≤ (3 : Int32).toNatClampNeg) := inb_of S4 ⟨by decide, by decide⟩
  have at4 : cl4.slots[(3 : Int32).toNatClampNeg]? = some (.int (olb c1_)) := H4.at in4 rfl
  refine os (fun _ z => X3.baloadBytes hx (by rw [e3]; exact Aq4.1) (oia hZ Aq4.2.1) Aq4.2.2 in4 at4 (g := (mkF m 48 #[rv b, iv 3] [(.int 3), (.ref b), (.int (((ohb c1_) &&& (255 : Int32)) <<< ((0 : Int32) &&& 31)))])) rfl rfl (hb hby d14_48) _ z) ?_
  show OG p e below Φ T3 m 49 #[rv b, iv 3] [(.int (olb c1_)), (.int (((ohb c1_) &&& (255 : Int32)) <<< ((0 : Int32) &&& 31)))]
  refine os (fun _ z => XS.sipush X3.here hx rfl (hb hby d14_49) z) ?_
  refine os (fun _ z => XS.iand X3.here hx rfl (hb hby d14_52) rfl z) ?_
  show OG p e below Φ T3 m 53 #[rv b, iv 3] [(.int ((olb c1_) &&& (255 : Int32))), (.int (((ohb c1_) &&& (255 : Int32)) <<< ((0 : Int32) &&& 31)))]
  obtain ⟨T5, X5, e5, st5⟩ := getS2 X3 hx hZ hown (host := "") (Or.inl (ow67 hw)) Via.refl e3 S_lb (g := (mkF m 53 #[rv b, iv 3] [(.int ((olb c1_) &&& (255 : Int32))), (.int (((ohb c1_) &&& (255 : Int32)) <<< ((0 : Int32) &&& 31)))])) rfl (hb hby d14_53)
  refine os st5 ?_
  show OG p e below Φ T5 m 56 #[rv b, iv 3] [(.int 8), (.int ((olb c1_) &&& (255 : Int32))), (.int (((ohb c1_) &&& (255 : Int32)) <<< ((0 : Int32) &&& 31)))]
  refine os (fun _ z => XT.ishl X5.here hx rfl (hb hby d14_56) rfl z) ?_
  show OG p e below Φ T5 m 57 #[rv b, iv 3] [(.int (((olb c1_) &&& (255 : Int32)) <<< ((8 : Int32) &&& 31))), (.int (((ohb c1_) &&& (255 : Int32)) <<< ((0 : Int32) &&& 31)))]
  refine os (fun _ z => XT.ior X5.here hx rfl (hb hby d14_57) rfl z) ?_
  show OG p e below Φ T5 m 58 #[rv b, iv 3] [(.int ((((ohb c1_) &&& (255 : Int32)) <<< ((0 : Int32) &&& 31)) ||| (((olb c1_) &&& (255 : Int32)) <<< ((8 : Int32) &&& 31))))]
  refine os (fun _ z => XT.i2c X5.here hx rfl (hb hby d14_58) rfl z) ?_
  show OG p e below Φ T5 m 59 #[rv b, iv 3] [(.int (((((ohb c1_) &&& (255 : Int32)) <<< ((0 : Int32) &&& 31)) ||| (((olb c1_) &&& (255 : Int32)) <<< ((8 : Int32) &&& 31))).toUInt32.toUInt16.toUInt32.toInt32))]
  refine OGo.fin X5 hlk (v := (some (.int (((((ohb c1_) &&& (255 : Int32)) <<< ((0 : Int32) &&& 31)) ||| (((olb c1_) &&& (255 : Int32)) <<< ((8 : Int32) &&& 31))).toUInt32.toUInt16.toUInt32.toInt32)))) (fun h => by rw [hret] at h; cases h) (by decide) (by decide) (fun fs hr => X5.ireturnOut hx hret (XT.narrow_c _) (by simp) (hb hby d14_59) hr) fun U eU hF => hΦ _ _ _ ?_ hF
  rw [eU, e5]
  show Q_rsb4_1gc Z b cb c0_ c1_ c2_ c3_ h0 n0 _ _ _
  exact ⟨congrArg (fun z => some (Value.int z)) (own_gc' _ hr1), N0, rfl⟩

theorem ef_rsb4_1c3 (m : MethodId) (x0 : Addr) (x1 : Int32) (x2 : Int32) : entryFrame m #[(.ref x0), (.int x1), (.int x2)] 6 = mkF m 0 #[.val (.ref x0), .val (.int x1), .val (.int x2), .unset, .unset, .unset] [] := by first | (simp [entryFrame, mkF, argsToLocals, Value.category]; done) | rfl
def Q_rsb4_1c3 (Z : State) (a : Addr) (ca : ClassId) (c0_ : Int32) (c1_ : Int32) (c2_ : Int32) (c3_ : Int32) (h0 : Heap) (n0 : Nat) (v : Option Value) (h : Heap) (L : List Loc) : Prop := ∃ b cb, v = some (.ref b) ∧ Fr n0 L ∧ Keep h0 h [] ∧ Arv Z h b cb .byte (8 : Int32) [(.int (ohb c0_)), (.int (olb c0_)), (.int (ohb c1_)), (.int (olb c1_)), (.int (ohb c2_)), (.int (olb c2_)), (.int (ohb c3_)), (.int (olb c3_))] (.int (0 : Int32)) ∧ h0.size ≤ b
set_option maxRecDepth 65536 in
set_option maxHeartbeats 40000000 in
theorem rsb4_1c3 (l : Launch) (Z : State) (a0 : Array Value) (hw : ∀ d ∈ tables_1, d.before a0 Z = true) (ws : List Jvm.Cond) (a : Addr) (ca : ClassId) (c0_ : Int32) (c1_ : Int32) (c2_ : Int32) (c3_ : Int32) (h0 : Heap) (n0 : Nat) (Z0 : n0 ≤ h0.size) (V_a : Arv Z h0 a ca .char (4 : Int32) [(.int c0_), (.int c1_), (.int c2_), (.int c3_)] (.int (0 : Int32))) (O_0 : Old Z n0 h0) (S_ad : Sta Z Z.heap "java/lang/StringUTF16" "$assertionsDisabled" "Z" (.int (1 : Int32))) (S_hb : Sta Z Z.heap "java/lang/StringUTF16" "HI_BYTE_SHIFT" "I" (.int (0 : Int32))) (S_lb : Sta Z Z.heap "java/lang/StringUTF16" "LO_BYTE_SHIFT" "I" (.int (8 : Int32))) (hl0 : ¬ (255 : Int32) < c0_) (hb1 : (255 : Int32) < c1_) (hr1 : nar .char c1_ = c1_) :
    OCon l Z (⟨"java/lang/StringUTF16", "compress", "([CII)[B"⟩ : MethodName) jdk_52_method_16_code 6 (some (.array .byte)) ws ({ frames := 3, cells := 2, slots := 12, locals := 40 } : Room) #[(.ref a), (.int (0 : Int32)), (.int (4 : Int32))] h0 (Q_rsb4_1c3 Z a ca c0_ c1_ c2_ c3_ h0 n0) := by
  refine OCon.of (plainFor_of_name pn1) ?_
  intro p e s m below meth c s₁ Φ X0 hx hby hml hown hnm hret hlk hZ e0 hΦ
  have N0 := Fr.nil n0
  refine os (fun _ z => castTop (ef_rsb4_1c3 m a (0 : Int32) (4 : Int32)) z) ?_
  have K0 := Keep.refl h0 []
  show OG p e below Φ s₁ m 0 #[rv a, iv 0, iv 4, .unset, .unset, .unset] []
  refine os (fun _ z => XS.iloadN X0.here hx rfl (hb hby d4_0) rfl z) ?_
  obtain ⟨T1, h1, c1, X1, e1, E1, Ar1, st1⟩ := newP (aty := .byte) X0 hx hZ (ow1 hw) e0 (g := (mkF m 1 #[rv a, iv 0, iv 4, .unset, .unset, .unset] [(.int 4)])) rfl (hb hby d4_1) rfl (by decide) (cap := 4) (by decide) (by decide) (by decide) (by decide)
  obtain ⟨b1, g1⟩ : ∃ z, z = h0.size := ⟨_, rfl⟩
  rw [← g1] at Ar1 st1
  have ne1_a : a ≠ b1 := by rw [g1]; exact Nat.ne_of_lt V_a.lt
  have F2 := V_a.ext E1
  have F3 := O_0.ext E1
  have gb1 : n0 ≤ b1 := Nat.le_trans Z0 (Nat.le_of_eq g1.symm)
  have sz1 : h0.size ≤ b1 := Nat.le_trans K0.1 (Nat.le_of_eq g1.symm)
  have K1 := K0.ext E1
  have Zs1 : n0 ≤ h1.size := Nat.le_trans Z0 E1.1
  have V1 : Arv Z h1 b1 c1 .byte (4 : Int32) [(.int (0 : Int32)), (.int (0 : Int32)), (.int (0 : Int32)), (.int (0 : Int32))] (.int (0 : Int32)) := (Arv.new Ar1 (by decide)).pad (pad_rep [] _ 4)
  refine os st1 ?_
  show OG p e below Φ T1 m 3 #[rv a, iv 0, iv 4, .unset, .unset, .unset] [(.ref b1)]
  refine os (fun _ z => XS.astoreN X1.here hx rfl (hb hby d4_3) rfl rfl (l' := #[rv a, iv 0, iv 4, rv b1, .unset, .unset]) rfl z) ?_
  show OG p e below Φ T1 m 4 #[rv a, iv 0, iv 4, rv b1, .unset, .unset] []
  refine os (fun _ z => XS.aloadN X1.here hx rfl (hb hby d4_4) rfl rfl z) ?_
  refine os (fun _ z => XS.iloadN X1.here hx rfl (hb hby d4_5) rfl z) ?_
  show OG p e below Φ T1 m 6 #[rv a, iv 0, iv 4, rv b1, .unset, .unset] [(.int 0), (.ref a)]
  refine os (fun _ z => XS.aloadN X1.here hx rfl (hb hby d4_6) rfl rfl z) ?_
  refine os (fun _ z => XS.iconst X1.here hx rfl (hb hby d4_7) z) ?_
  show OG p e below Φ T1 m 8 #[rv a, iv 0, iv 4, rv b1, .unset, .unset] [(.int 0), (.ref b1), (.int 0), (.ref a)]
  refine os (fun _ z => XS.iloadN X1.here hx rfl (hb hby d4_8) rfl z) ?_
  obtain ⟨_, T4, L4, X4, hQ4, st4⟩ := own_callSt X1 hx hZ hown (ow22 hw) (ow23 hw) (ow20 hw) (ow24 hw) (by decide) (rsb4_1c2 l Z a0 hw [] a ca b1 c1 c0_ c1_ c2_ c3_ h1 n0 Zs1 F2 V1 ne1_a gb1 hl0 hb1) e1 (W := 0) (by decide) (by decide) (by decide) (by decide) (pc := 9) (ls := #[rv a, iv 0, iv 4, rv b1, .unset, .unset]) (stk := [(.int 4), (.int 0), (.ref b1), (.int 0), (.ref a)]) (by rw [hml]; rfl) (argsL := [(.ref a), (.int 0), (.ref b1), (.int 0), (.int 4)]) (rest := []) (lenOf pd1 rfl) rfl rfl (Nat.le_of_eq rfl) (hb hby d4_9)
  obtain ⟨rfl, Nq4, Kq4⟩ := hQ4
  have N4 := Fr.app N0 Nq4
  have Zs4 : n0 ≤ T4.heap.size := Nat.le_trans Zs1 Kq4.1
  have F5 := F2.keep Kq4 (ninS ne1_a nin0)
  have F6 := F3.keep Kq4 (allS gb1 all0)
  have K4 := K1.trans Kq4 (allS (Or.inr sz1) all0)
  refine os st4 ?_
  show OG p e below Φ T4 m 12 #[rv a, iv 0, iv 4, rv b1, .unset, .unset] [(.int 1)]
  refine os (fun _ z => XS.istore X4.here hx rfl (hb hby d4_12) rfl (l' := #[rv a, iv 0, iv 4, rv b1, iv 1, .unset]) rfl z) ?_
  show OG p e below Φ T4 m 14 #[rv a, iv 0, iv 4, rv b1, iv 1, .unset] []
  refine os (fun _ z => XS.iload X4.here hx rfl (hb hby d4_14) rfl z) ?_
  refine os (fun _ z => XS.iloadN X4.here hx rfl (hb hby d4_16) rfl z) ?_
  show OG p e below Φ T4 m 17 #[rv a, iv 0, iv 4, rv b1, iv 1, .unset] [(.int 4), (.int 1)]
  refine os (fun _ z => XS.icmpNo X4.here hx rfl (hb hby d4_17) rfl (XT.ii_eq_f (by decide)) z) ?_
  show OG p e below Φ T4 m 20 #[rv a, iv 0, iv 4, rv b1, iv 1, .unset] []
  refine os (fun _ z => XS.aloadN X4.here hx rfl (hb hby d4_20) rfl rfl z) ?_
  refine os (fun _ z => XS.iloadN X4.here hx rfl (hb hby d4_21) rfl z) ?_
  show OG p e below Φ T4 m 22 #[rv a, iv 0, iv 4, rv b1, iv 1, .unset] [(.int 0), (.ref a)]
  refine os (fun _ z => XS.iloadN X4.here hx rfl (hb hby d4_22) rfl z) ?_
  obtain ⟨_, T7, L7, X7, hQ7, st7⟩ := own_callSt X4 hx hZ hown (ow52 hw) (ow53 hw) (ow20 hw) (ow54 hw) (by decide) (rsb4_0tb l Z a0 hw [] a ca c0_ c1_ c2_ c3_ T4.heap n0 Zs4 F5 F6 S_ad S_hb S_lb) rfl (W := 0) (by decide) (by decide) (by decide) (by decide) (pc := 23) (ls := #[rv a, iv 0, iv 4, rv b1, iv 1, .unset]) (stk := [(.int 4), (.int 0), (.ref a)]) (by rw [hml]; rfl) (argsL := [(.ref a), (.int 0), (.int 4)]) (rest := []) (lenOf pd2 rfl) rfl rfl (Nat.le_of_eq rfl) (hb hby d4_23)
  obtain ⟨b7, cb7, rfl, Nq7, Kq7, Vq7, hz7⟩ := hQ7
  have nq7_a : a ≠ b7 := Nat.ne_of_lt (Nat.lt_of_lt_of_le F5.lt hz7)
  have gq7 : n0 ≤ b7 := Nat.le_trans Zs4 hz7
  have sq7 : h0.size ≤ b7 := Nat.le_trans K4.1 hz7
  have N7 := Fr.app N4 Nq7
  have Zs7 : n0 ≤ T7.heap.size := Nat.le_trans Zs4 Kq7.1
  have F8 := F5.keep Kq7 nin0
  have F9 := F6.keep Kq7 all0
  have K7 := K4.trans Kq7 all0
  refine os st7 ?_
  show OG p e below Φ T7 m 26 #[rv a, iv 0, iv 4, rv b1, iv 1, .unset] [(.ref b7)]
  refine os (fun _ z => XS.astore X7.here hx rfl (hb hby d4_26) rfl rfl (l' := #[rv a, iv 0, iv 4, rv b1, iv 1, rv b7]) rfl z) ?_
  show OG p e below Φ T7 m 28 #[rv a, iv 0, iv 4, rv b1, iv 1, rv b7] []
  refine os (fun _ z => XS.aload X7.here hx rfl (hb hby d4_28) rfl rfl z) ?_
  refine os (fun _ z => XS.iload X7.here hx rfl (hb hby d4_30) rfl z) ?_
  show OG p e below Φ T7 m 32 #[rv a, iv 0, iv 4, rv b1, iv 1, rv b7] [(.int 1), (.ref b7)]
  obtain ⟨_, T10, L10, X10, hQ10, st10⟩ := own_callSt X7 hx hZ hown (ow68 hw) (ow69 hw) (ow20 hw) (ow70 hw) (by decide) (rsb4_1gc l Z a0 hw [] b7 cb7 c0_ c1_ c2_ c3_ T7.heap n0 Zs7 Vq7 (S_ad.ext F9.2) (S_hb.ext F9.2) (S_lb.ext F9.2) hr1) rfl (W := 0) (by decide) (by decide) (by decide) (by decide) (pc := 32) (ls := #[rv a, iv 0, iv 4, rv b1, iv 1, rv b7]) (stk := [(.int 1), (.ref b7)]) (by rw [hml]; rfl) (argsL := [(.ref b7), (.int 1)]) (rest := []) (lenOf pd7 rfl) rfl rfl (Nat.le_of_eq rfl) (hb hby d4_32)
  obtain ⟨rfl, Nq10, e10⟩ := hQ10
  have N10 := Fr.app N7 Nq10
  refine os st10 ?_
  show OG p e below Φ T10 m 35 #[rv a, iv 0, iv 4, rv b1, iv 1, rv b7] [(.int c1_)]
  refine os (fun _ z => XS.sipush X10.here hx rfl (hb hby d4_35) z) ?_
  refine os (fun _ z => XS.icmpYes X10.here hx rfl (pc0 := 38) (pc' := 54) rfl (hb hby d4_38) rfl (XT.ii_gt_t hb1) (by decide) (by decide) z) ?_
  show OG p e below Φ T10 m 54 #[rv a, iv 0, iv 4, rv b1, iv 1, rv b7] []
  refine os (fun _ z => XS.aload X10.here hx rfl (hb hby d4_54) rfl rfl z) ?_
  refine OGo.fin X10 hlk (v := (some (.ref b7))) (fun h => by rw [hret] at h; cases h) (by decide) (by decide) (fun fs hr => X10.areturnOut hx rfl hret rfl (hb hby d4_56) hr) fun U eU hF => hΦ _ _ _ ?_ hF
  rw [eU, e10]
  show Q_rsb4_1c3 Z a ca c0_ c1_ c2_ c3_ h0 n0 _ _ _
  exact ⟨_, _, rfl, N10, K7, Vq7, sq7⟩

theorem ef_rsb4_1i4 (m : MethodId) (x0 : Addr) (x1 : Addr) (x2 : Int32) (x3 : Int32) : entryFrame m #[(.ref x0), (.ref x1), (.int x2), (.int x3), .null] 6 = mkF m 0 #[.val (.ref x0), .val (.ref x1), .val (.int x2), .val (.int x3), .val .null, .unset] [] := by first | (simp [entryFrame, mkF, argsToLocals, Value.category]; done) | rfl
def Q_rsb4_1i4 (Z : State) (s_ : Addr) (a : Addr) (ca : ClassId) (qc : Int32) (c0_ : Int32) (c1_ : Int32) (c2_ : Int32) (c3_ : Int32) (h0 : Heap) (n0 : Nat) (v : Option Value) (h : Heap) (L : List Loc) : Prop := v = none ∧ Fr n0 L ∧ Keep h0 h [s_] ∧ Exa Z h s_ "java/lang/String" ∧ ∃ b cb, Fld Z h s_ "java/lang/String" "value" "[B" (.ref b) ∧ Fld Z h s_ "java/lang/String" "coder" "B" (.int (1 : Int32)) ∧ Arv Z h b cb .byte (8 : Int32) [(.int (ohb c0_)), (.int (olb c0_)), (.int (ohb c1_)), (.int (olb c1_)), (.int (ohb c2_)), (.int (olb c2_)), (.int (ohb c3_)), (.int (olb c3_))] (.int (0 : Int32)) ∧ h0.size ≤ b
set_option maxRecDepth 65536 in
set_option maxHeartbeats 40000000 in
theorem rsb4_1i4 (l : Launch) (Z : State) (a0 : Array Value) (hw : ∀ d ∈ tables_1, d.before a0 Z = true) (ws : List Jvm.Cond) (s_ : Addr) (a : Addr) (ca : ClassId) (qc : Int32) (c0_ : Int32) (c1_ : Int32) (c2_ : Int32) (c3_ : Int32) (h0 : Heap) (n0 : Nat) (Z0 : n0 ≤ h0.size) (E_s : Exa Z h0 s_ "java/lang/String") (g_s : n0 ≤ s_) (F_v : Fld Z h0 s_ "java/lang/String" "value" "[B" .null) (F_c : Fld Z h0 s_ "java/lang/String" "coder" "B" (.int (0 : Int32))) (V_a : Arv Z h0 a ca .char (4 : Int32) [(.int c0_), (.int c1_), (.int c2_), (.int c3_)] (.int (0 : Int32))) (nsa : s_ ≠ a) (S_cs : Sta Z Z.heap "java/lang/String" "COMPACT_STRINGS" "Z" (.int qc)) (hq : ¬ qc = 0) (O_0 : Old Z n0 h0) (S_ad : Sta Z Z.heap "java/lang/StringUTF16" "$assertionsDisabled" "Z" (.int (1 : Int32))) (S_hb : Sta Z Z.heap "java/lang/StringUTF16" "HI_BYTE_SHIFT" "I" (.int (0 : Int32))) (S_lb : Sta Z Z.heap "java/lang/StringUTF16" "LO_BYTE_SHIFT" "I" (.int (8 : Int32))) (hl0 : ¬ (255 : Int32) < c0_) (hb1 : (255 : Int32) < c1_) (hr1 : nar .char c1_ = c1_) :
    OCon l Z (⟨"java/lang/String", "<init>", "([CIILjava/lang/Void;)V"⟩ : MethodName) jdk_42_method_149_code 6 none ws ({ frames := 4, cells := 2, slots := 12, locals := 57 } : Room) #[(.ref s_), (.ref a), (.int (0 : Int32)), (.int (4 : Int32)), .null] h0 (Q_rsb4_1i4 Z s_ a ca qc c0_ c1_ c2_ c3_ h0 n0) := by
  refine OCon.of (plainFor_of_name pn0) ?_
  intro p e s m below meth c s₁ Φ X0 hx hby hml hown hnm hret hlk hZ e0 hΦ
  have N0 := Fr.nil n0
  refine os (fun _ z => castTop (ef_rsb4_1i4 m s_ a (0 : Int32) (4 : Int32)) z) ?_
  have K0 := Keep.refl h0 [s_]
  show OG p e below Φ s₁ m 0 #[rv s_, rv a, iv 0, iv 4, .val .null, .unset] []
  refine os (fun _ z => XS.aloadN X0.here hx rfl (hb hby d2_0) rfl rfl z) ?_
  obtain ⟨T1, X1, e1, st1⟩ := initO X0 hx hZ hown (ow14 hw) (ow15 hw) (ow16 hw) e0 (g := (mkF m 1 #[rv s_, rv a, iv 0, iv 4, .val .null, .unset] [(.ref s_)])) rfl (by rw [hml]; rfl) rfl (hb hby d2_1) (by decide) (W := 0) (Nat.le_of_eq rfl) (by decide)
  refine os st1 ?_
  show OG p e below Φ T1 m 4 #[rv s_, rv a, iv 0, iv 4, .val .null, .unset] []
  refine os (fun _ z => XS.iloadN X1.here hx rfl (hb hby d2_4) rfl z) ?_
  refine os (fun _ z => XS.ifYes X1.here hx rfl (pc0 := 5) (pc' := 27) rfl (hb hby d2_5) rfl (XT.i0_ne_t (by decide)) (by decide) (by decide) z) ?_
  show OG p e below Φ T1 m 27 #[rv s_, rv a, iv 0, iv 4, .val .null, .unset] []
  have Sq := S_cs.ext O_0.2
  obtain ⟨T2, X2, e2, st2⟩ := getS2 X1 hx hZ hown (host := "") (Or.inl (ow17 hw)) Via.refl e1 Sq (g := (mkF m 27 #[rv s_, rv a, iv 0, iv 4, .val .null, .unset] [])) rfl (hb hby d2_27)
  refine os st2 ?_
  show OG p e below Φ T2 m 30 #[rv s_, rv a, iv 0, iv 4, .val .null, .unset] [(.int qc)]
  refine os (fun _ z => XS.ifNo X2.here hx rfl (hb hby d2_30) rfl (XT.i0_eq_f hq) z) ?_
  show OG p e below Φ T2 m 33 #[rv s_, rv a, iv 0, iv 4, .val .null, .unset] []
  refine os (fun _ z => XS.aloadN X2.here hx rfl (hb hby d2_33) rfl rfl z) ?_
  refine os (fun _ z => XS.iloadN X2.here hx rfl (hb hby d2_34) rfl z) ?_
  show OG p e below Φ T2 m 35 #[rv s_, rv a, iv 0, iv 4, .val .null, .unset] [(.int 0), (.ref a)]
  refine os (fun _ z => XS.iloadN X2.here hx rfl (hb hby d2_35) rfl z) ?_
  obtain ⟨_, T3, L3, X3, hQ3, st3⟩ := own_callSt X2 hx hZ hown (ow18 hw) (ow19 hw) (ow20 hw) (ow21 hw) (by decide) (rsb4_1c3 l Z a0 hw [] a ca c0_ c1_ c2_ c3_ h0 n0 Z0 V_a O_0 S_ad S_hb S_lb hl0 hb1 hr1) e2 (W := 0) (by decide) (by decide) (by decide) (by decide) (pc := 36) (ls := #[rv s_, rv a, iv 0, iv 4, .val .null, .unset]) (stk := [(.int 4), (.int 0), (.ref a)]) (by rw [hml]; rfl) (argsL := [(.ref a), (.int 0), (.int 4)]) (rest := []) (lenOf pd2 rfl) rfl rfl (Nat.le_of_eq rfl) (hb hby d2_36)
  obtain ⟨b3, cb3, rfl, Nq3, Kq3, Vq3, hz3⟩ := hQ3
  have nq3_a : a ≠ b3 := Nat.ne_of_lt (Nat.lt_of_lt_of_le V_a.lt hz3)
  have nq3_s_ : s_ ≠ b3 := Nat.ne_of_lt (Nat.lt_of_lt_of_le E_s.lt hz3)
  have gq3 : n0 ≤ b3 := Nat.le_trans Z0 hz3
  have sq3 : h0.size ≤ b3 := Nat.le_trans K0.1 hz3
  have N3 := Fr.app N0 Nq3
  have Zs3 : n0 ≤ T3.heap.size := Nat.le_trans Z0 Kq3.1
  have F4 := E_s.keep Kq3
  have F5 := F_v.keep Kq3 nin0
  have F6 := F_c.keep Kq3 nin0
  have F7 := V_a.keep Kq3 nin0
  have F8 := O_0.keep Kq3 all0
  have K3 := K0.trans Kq3 all0
  refine os st3 ?_
  show OG p e below Φ T3 m 39 #[rv s_, rv a, iv 0, iv 4, .val .null, .unset] [(.ref b3)]
  refine os (fun _ z => XS.astore X3.here hx rfl (hb hby d2_39) rfl rfl (l' := #[rv s_, rv a, iv 0, iv 4, .val .null, rv b3]) rfl z) ?_
  show OG p e below Φ T3 m 41 #[rv s_, rv a, iv 0, iv 4, .val .null, rv b3] []
  refine os (fun _ z => XS.aloadN X3.here hx rfl (hb hby d2_41) rfl rfl z) ?_
  refine os (fun _ z => XS.aload X3.here hx rfl (hb hby d2_42) rfl rfl z) ?_
  show OG p e below Φ T3 m 44 #[rv s_, rv a, iv 0, iv 4, .val .null, rv b3] [(.ref b3), (.ref s_)]
  refine os (fun _ z => XS.iloadN X3.here hx rfl (hb hby d2_44) rfl z) ?_
  obtain ⟨_, T9, L9, X9, hQ9, st9⟩ := own_callSt X3 hx hZ hown (ow25 hw) (ow26 hw) (ow20 hw) (ow27 hw) (by decide) (rsb4_0cf l Z a0 hw [] b3 cb3 c0_ c1_ c2_ c3_ T3.heap n0 Zs3 Vq3) rfl (W := 1) (by decide) (by decide) (by decide) (by decide) (pc := 45) (ls := #[rv s_, rv a, iv 0, iv 4, .val .null, rv b3]) (stk := [(.int 4), (.ref b3), (.ref s_)]) (by rw [hml]; rfl) (argsL := [(.ref b3), (.int 4)]) (rest := [(.ref s_)]) (lenOf pd3 rfl) rfl rfl (Nat.le_of_eq rfl) (hb hby d2_45)
  obtain ⟨rfl, Nq9, e9⟩ := hQ9
  have N9 := Fr.app N3 Nq9
  refine os st9 ?_
  show OG p e below Φ T9 m 48 #[rv s_, rv a, iv 0, iv 4, .val .null, rv b3] [(.int 1), (.ref s_)]
  obtain ⟨T10, h10, X10, e10, W10, st10⟩ := putF X9 hx hZ hown (host := "") (Or.inl (ow28 hw)) Via.refl e9 F6 F4 (Or.inr ⟨(ow29 hw), rfl, hnm⟩) (ow5 hw) (ty := .byte) (by decide) (by decide) (by decide) (g := (mkF m 48 #[rv s_, rv a, iv 0, iv 4, .val .null, rv b3] [(.int 1), (.ref s_)])) rfl rfl (hb hby d2_48)
  have F11 := F4.wr W10
  have F12 := F5.other W10 (Or.inr (slot_ne (Or.inr (ow31 hw)) (Or.inr (ow29 hw)) (by decide) (t := (.array .byte)) (t' := .byte) (by decide) (by decide)))
  have F13 := F6.same W10
  have F14 := F7.other W10 (Ne.symm nsa)
  have F15 := F8.wr W10 g_s
  have F16 := Vq3.other W10 (Ne.symm nq3_s_)
  have K10 := K3.wr W10 (Or.inl (List.mem_of_getElem? (i := 0) rfl))
  have N10 := Fr.snoc X10 N9 g_s
  have Zs10 : n0 ≤ h10.size := by rw [W10.size]; exact Zs3
  refine os st10 ?_
  show OG p e below Φ T10 m 51 #[rv s_, rv a, iv 0, iv 4, .val .null, rv b3] []
  refine os (fun _ z => XS.aloadN X10.here hx rfl (hb hby d2_51) rfl rfl z) ?_
  refine os (fun _ z => XS.aload X10.here hx rfl (hb hby d2_52) rfl rfl z) ?_
  show OG p e below Φ T10 m 54 #[rv s_, rv a, iv 0, iv 4, .val .null, rv b3] [(.ref b3), (.ref s_)]
  obtain ⟨T17, h17, X17, e17, W17, st17⟩ := putF X10 hx hZ hown (host := "") (Or.inl (ow30 hw)) Via.refl e10 F12 F11 (Or.inr ⟨(ow31 hw), rfl, hnm⟩) (ow5 hw) (ty := (.array .byte)) (by decide) rfl rfl (g := (mkF m 54 #[rv s_, rv a, iv 0, iv 4, .val .null, rv b3] [(.ref b3), (.ref s_)])) rfl rfl (hb hby d2_54)
  have F18 := F11.wr W17
  have F19 := F12.same W17
  have F20 := F13.other W17 (Or.inr (slot_ne (Or.inr (ow29 hw)) (Or.inr (ow31 hw)) (by decide) (t := .byte) (t' := (.array .byte)) (by decide) (by decide)))
  have F21 := F14.other W17 (Ne.symm nsa)
  have F22 := F15.wr W17 g_s
  have F23 := F16.other W17 (Ne.symm nq3_s_)
  have K17 := K10.wr W17 (Or.inl (List.mem_of_getElem? (i := 0) rfl))
  have N17 := Fr.snoc X17 N10 g_s
  have Zs17 : n0 ≤ h17.size := by rw [W17.size]; exact Zs10
  refine os st17 ?_
  show OG p e below Φ T17 m 57 #[rv s_, rv a, iv 0, iv 4, .val .null, rv b3] []
  refine OGo.fin X17 hlk (v := none) (fun _ => rfl) (by decide) (by decide) (fun fs hr => X17.returnOut hx hret (hb hby d2_57) hr) fun U eU hF => hΦ _ _ _ ?_ hF
  rw [eU, e17]
  show Q_rsb4_1i4 Z s_ a ca qc c0_ c1_ c2_ c3_ h0 n0 _ _ _
  exact ⟨rfl, N17, K17, F18, _, _, F19, F20, F23, sq3⟩

theorem ef_rsb4_1i1 (m : MethodId) (x0 : Addr) (x1 : Addr) : entryFrame m #[(.ref x0), (.ref x1)] 2 = mkF m 0 #[.val (.ref x0), .val (.ref x1)] [] := by first | (simp [entryFrame, mkF, argsToLocals, Value.category]; done) | rfl
def Q_rsb4_1i1 (Z : State) (s_ : Addr) (a : Addr) (ca : ClassId) (qc : Int32) (c0_ : Int32) (c1_ : Int32) (c2_ : Int32) (c3_ : Int32) (h0 : Heap) (n0 : Nat) (v : Option Value) (h : Heap) (L : List Loc) : Prop := v = none ∧ Fr n0 L ∧ Keep h0 h [s_] ∧ Exa Z h s_ "java/lang/String" ∧ ∃ b cb, Fld Z h s_ "java/lang/String" "value" "[B" (.ref b) ∧ Fld Z h s_ "java/lang/String" "coder" "B" (.int (1 : Int32)) ∧ Arv Z h b cb .byte (8 : Int32) [(.int (ohb c0_)), (.int (olb c0_)), (.int (ohb c1_)), (.int (olb c1_)), (.int (ohb c2_)), (.int (olb c2_)), (.int (ohb c3_)), (.int (olb c3_))] (.int (0 : Int32)) ∧ h0.size ≤ b
set_option maxRecDepth 65536 in
set_option maxHeartbeats 40000000 in
theorem rsb4_1i1 (l : Launch) (Z : State) (a0 : Array Value) (hw : ∀ d ∈ tables_1, d.before a0 Z = true) (ws : List Jvm.Cond) (s_ : Addr) (a : Addr) (ca : ClassId) (qc : Int32) (c0_ : Int32) (c1_ : Int32) (c2_ : Int32) (c3_ : Int32) (h0 : Heap) (n0 : Nat) (Z0 : n0 ≤ h0.size) (E_s : Exa Z h0 s_ "java/lang/String") (g_s : n0 ≤ s_) (F_v : Fld Z h0 s_ "java/lang/String" "value" "[B" .null) (F_c : Fld Z h0 s_ "java/lang/String" "coder" "B" (.int (0 : Int32))) (V_a : Arv Z h0 a ca .char (4 : Int32) [(.int c0_), (.int c1_), (.int c2_), (.int c3_)] (.int (0 : Int32))) (nsa : s_ ≠ a) (S_cs : Sta Z Z.heap "java/lang/String" "COMPACT_STRINGS" "Z" (.int qc)) (hq : ¬ qc = 0) (O_0 : Old Z n0 h0) (S_ad : Sta Z Z.heap "java/lang/StringUTF16" "$assertionsDisabled" "Z" (.int (1 : Int32))) (S_hb : Sta Z Z.heap "java/lang/StringUTF16" "HI_BYTE_SHIFT" "I" (.int (0 : Int32))) (S_lb : Sta Z Z.heap "java/lang/StringUTF16" "LO_BYTE_SHIFT" "I" (.int (8 : Int32))) (hl0 : ¬ (255 : Int32) < c0_) (hb1 : (255 : Int32) < c1_) (hr1 : nar .char c1_ = c1_) :
    OCon l Z (⟨"java/lang/String", "<init>", "([C)V"⟩ : MethodName) jdk_42_method_3_code 2 none ws ({ frames := 5, cells := 2, slots := 12, locals := 74 } : Room) #[(.ref s_), (.ref a)] h0 (Q_rsb4_1i1 Z s_ a ca qc c0_ c1_ c2_ c3_ h0 n0) := by
  refine OCon.of (plainFor_of_name pn0) ?_
  intro p e s m below meth c s₁ Φ X0 hx hby hml hown hnm hret hlk hZ e0 hΦ
  have N0 := Fr.nil n0
  refine os (fun _ z => castTop (ef_rsb4_1i1 m s_ a) z) ?_
  have K0 := Keep.refl h0 [s_]
  show OG p e below Φ s₁ m 0 #[rv s_, rv a] []
  refine os (fun _ z => XS.aloadN X0.here hx rfl (hb hby d1_0) rfl rfl z) ?_
  refine os (fun _ z => XS.aloadN X0.here hx rfl (hb hby d1_1) rfl rfl z) ?_
  show OG p e below Φ s₁ m 2 #[rv s_, rv a] [(.ref a), (.ref s_)]
  refine os (fun _ z => XS.iconst X0.here hx rfl (hb hby d1_2) z) ?_
  refine os (fun _ z => XS.aloadN X0.here hx rfl (hb hby d1_3) rfl rfl z) ?_
  show OG p e below Φ s₁ m 4 #[rv s_, rv a] [(.ref a), (.int 0), (.ref a), (.ref s_)]
  obtain ⟨cl1, Aq1, -, S1, M1, -, -⟩ := id V_a
  refine os (fun _ z => X0.arraylength hx (by rw [e0]; exact Aq1.1) (oia hZ Aq1.2.1) (g := (mkF m 4 #[rv s_, rv a] [(.ref a), (.int 0), (.ref a), (.ref s_)])) rfl rfl (hb hby d1_4) _ z) ?_
  rw [len_of S1 M1]
  show OG p e below Φ s₁ m 5 #[rv s_, rv a] [(.int 4), (.int 0), (.ref a), (.ref s_)]
  refine os (fun _ z => XS.aconstNull X0.here hx rfl (hb hby d1_5) z) ?_
  obtain ⟨_, T2, L2, X2, hQ2, st2⟩ := own_callSp X0 hx hZ rfl hown (ow10 hw) (ow11 hw) (ow6 hw) (ow13 hw) (by decide) (rsb4_1i4 l Z a0 hw [] s_ a ca qc c0_ c1_ c2_ c3_ h0 n0 Z0 E_s g_s F_v F_c V_a nsa S_cs hq O_0 S_ad S_hb S_lb hl0 hb1 hr1) e0 (W := 0) (by decide) (by decide) (by decide) (by decide) (pc := 6) (ls := #[rv s_, rv a]) (stk := [.null, (.int 4), (.int 0), (.ref a), (.ref s_)]) (by rw [hml]; rfl) (a := s_) (argsL := [(.ref a), (.int 0), (.int 4), .null]) (rest := []) (lenOf pd0 rfl) rfl rfl (Nat.le_of_eq rfl) (hb hby d1_6)
  obtain ⟨rfl, Nq2, Kq2, Eq2, b2, cb2, Fv2, Fc2, Vq2, hz2⟩ := hQ2
  have nq2_a : a ≠ b2 := Nat.ne_of_lt (Nat.lt_of_lt_of_le V_a.lt hz2)
  have nq2_s_ : s_ ≠ b2 := Nat.ne_of_lt (Nat.lt_of_lt_of_le E_s.lt hz2)
  have gq2 : n0 ≤ b2 := Nat.le_trans Z0 hz2
  have sq2 : h0.size ≤ b2 := Nat.le_trans K0.1 hz2
  have N2 := Fr.app N0 Nq2
  have Zs2 : n0 ≤ T2.heap.size := Nat.le_trans Z0 Kq2.1
  have F3 := V_a.keep Kq2 (ninS (Ne.symm nsa) nin0)
  have F4 := O_0.keep Kq2 (allS g_s all0)
  have K2 := K0.trans Kq2 (allS (Or.inl (List.mem_of_getElem? (i := 0) rfl)) all0)
  refine os st2 ?_
  show OG p e below Φ T2 m 9 #[rv s_, rv a] []
  refine OGo.fin X2 hlk (v := none) (fun _ => rfl) (by decide) (by decide) (fun fs hr => X2.returnOut hx hret (hb hby d1_9) hr) fun U eU hF => hΦ _ _ _ ?_ hF
  rw [eU]
  show Q_rsb4_1i1 Z s_ a ca qc c0_ c1_ c2_ c3_ h0 n0 _ _ _
  exact ⟨rfl, N2, K2, Eq2, _, _, Fv2, Fc2, Vq2, sq2⟩

theorem ef_rsb4_2c2 (m : MethodId) (x0 : Addr) (x1 : Int32) (x2 : Addr) (x3 : Int32) (x4 : Int32) : entryFrame m #[(.ref x0), (.int x1), (.ref x2), (.int x3), (.int x4)] 7 = mkF m 0 #[.val (.ref x0), .val (.int x1), .val (.ref x2), .val (.int x3), .val (.int x4), .unset, .unset] [] := by first | (simp [entryFrame, mkF, argsToLocals, Value.category]; done) | rfl
def Q_rsb4_2c2 (Z : State) (a : Addr) (ca : ClassId) (b : Addr) (cb : ClassId) (c0_ : Int32) (c1_ : Int32) (c2_ : Int32) (c3_ : Int32) (h0 : Heap) (n0 : Nat) (v : Option Value) (h : Heap) (L : List Loc) : Prop := v = some (.int (2 : Int32)) ∧ Fr n0 L ∧ Keep h0 h [b]
set_option maxRecDepth 65536 in
set_option maxHeartbeats 40000000 in
theorem rsb4_2c2 (l : Launch) (Z : State) (a0 : Array Value) (hw : ∀ d ∈ tables_1, d.before a0 Z = true) (ws : List Jvm.Cond) (a : Addr) (ca : ClassId) (b : Addr) (cb : ClassId) (c0_ : Int32) (c1_ : Int32) (c2_ : Int32) (c3_ : Int32) (h0 : Heap) (n0 : Nat) (Z0 : n0 ≤ h0.size) (V_a : Arv Z h0 a ca .char (4 : Int32) [(.int c0_), (.int c1_), (.int c2_), (.int c3_)] (.int (0 : Int32))) (V_b : Arv Z h0 b cb .byte (4 : Int32) [(.int (0 : Int32)), (.int (0 : Int32)), (.int (0 : Int32)), (.int (0 : Int32))] (.int (0 : Int32))) (nab : a ≠ b) (g_b : n0 ≤ b) (hl0 : ¬ (255 : Int32) < c0_) (hl1 : ¬ (255 : Int32) < c1_) (hb2 : (255 : Int32) < c2_) :
    OCon l Z (⟨"java/lang/StringUTF16", "compress", "([CI[BII)I"⟩ : MethodName) jdk_52_method_21_code 7 (some .int) ws ({ frames := 0, cells := 0, slots := 0, locals := 0 } : Room) #[(.ref a), (.int (0 : Int32)), (.ref b), (.int (0 : Int32)), (.int (4 : Int32))] h0 (Q_rsb4_2c2 Z a ca b cb c0_ c1_ c2_ c3_ h0 n0) := by
  refine OCon.of (plainFor_of_name pn1) ?_
  intro p e s m below meth c s₁ Φ X0 hx hby hml hown hnm hret hlk hZ e0 hΦ
  have N0 := Fr.nil n0
  refine os (fun _ z => castTop (ef_rsb4_2c2 m a (0 : Int32) b (0 : Int32) (4 : Int32)) z) ?_
  have K0 := Keep.refl h0 [b]
  show OG p e below Φ s₁ m 0 #[rv a, iv 0, rv b, iv 0, iv 4, .unset, .unset] []
  refine os (fun _ z => XS.iconst X0.here hx rfl (hb hby d5_0) z) ?_
  refine os (fun _ z => XS.istore X0.here hx rfl (hb hby d5_1) rfl (l' := #[rv a, iv 0, rv b, iv 0, iv 4, iv 0, .unset]) rfl z) ?_
  show OG p e below Φ s₁ m 3 #[rv a, iv 0, rv b, iv 0, iv 4, iv 0, .unset] []
  refine os (fun _ z => XS.iload X0.here hx rfl (hb hby d5_3) rfl z) ?_
  refine os (fun _ z => XS.iload X0.here hx rfl (hb hby d5_5) rfl z) ?_
  show OG p e below Φ s₁ m 7 #[rv a, iv 0, rv b, iv 0, iv 4, iv 0, .unset] [(.int 4), (.int 0)]
  refine os (fun _ z => XS.icmpNo X0.here hx rfl (hb hby d5_7) rfl (XT.ii_ge_f (by decide)) z) ?_
  show OG p e below Φ s₁ m 10 #[rv a, iv 0, rv b, iv 0, iv 4, iv 0, .unset] []
  refine os (fun _ z => XS.aloadN X0.here hx rfl (hb hby d5_10) rfl rfl z) ?_
  refine os (fun _ z => XS.iloadN X0.here hx rfl (hb hby d5_11) rfl z) ?_
  show OG p e below Φ s₁ m 12 #[rv a, iv 0, rv b, iv 0, iv 4, iv 0, .unset] [(.int 0), (.ref a)]
  obtain ⟨cl1, Aq1, -, S1, M1, H1, -⟩ := id V_a
  have in1 : ¬ ((0 : Int32) < 0 ∨ cl1.slots.size ≤ (0 : Int32).toNatClampNeg) := inb_of S1 ⟨by decide, by decide⟩
  have at1 : cl1.slots[(0 : Int32).toNatClampNeg]? = some (.int c0_) := H1.at in1 rfl
  refine os (fun _ z => X0.caload hx (by rw [e0]; exact Aq1.1) (oia hZ Aq1.2.1) Aq1.2.2 in1 at1 (g := (mkF m 12 #[rv a, iv 0, rv b, iv 0, iv 4, iv 0, .unset] [(.int 0), (.ref a)])) rfl rfl (hb hby d5_12) _ z) ?_
  show OG p e below Φ s₁ m 13 #[rv a, iv 0, rv b, iv 0, iv 4, iv 0, .unset] [(.int c0_)]
  refine os (fun _ z => XS.istore X0.here hx rfl (hb hby d5_13) rfl (l' := #[rv a, iv 0, rv b, iv 0, iv 4, iv 0, iv c0_]) rfl z) ?_
  show OG p e below Φ s₁ m 15 #[rv a, iv 0, rv b, iv 0, iv 4, iv 0, iv c0_] []
  refine os (fun _ z => XS.iload X0.here hx rfl (hb hby d5_15) rfl z) ?_
  refine os (fun _ z => XS.sipush X0.here hx rfl (hb hby d5_17) z) ?_
  show OG p e below Φ s₁ m 20 #[rv a, iv 0, rv b, iv 0, iv 4, iv 0, iv c0_] [(.int 255), (.int c0_)]
  refine os (fun _ z => XS.icmpYes X0.here hx rfl (pc0 := 20) (pc' := 26) rfl (hb hby d5_20) rfl (XT.ii_le_t hl0) (by decide) (by decide) z) ?_
  show OG p e below Φ s₁ m 26 #[rv a, iv 0, rv b, iv 0, iv 4, iv 0, iv c0_] []
  refine os (fun _ z => XS.aloadN X0.here hx rfl (hb hby d5_26) rfl rfl z) ?_
  refine os (fun _ z => XS.iloadN X0.here hx rfl (hb hby d5_27) rfl z) ?_
  show OG p e below Φ s₁ m 28 #[rv a, iv 0, rv b, iv 0, iv 4, iv 0, iv c0_] [(.int 0), (.ref b)]
  refine os (fun _ z => XS.iload X0.here hx rfl (hb hby d5_28) rfl z) ?_
  refine os (fun _ z => XT.i2b X0.here hx rfl (hb hby d5_30) rfl z) ?_
  show OG p e below Φ s₁ m 31 #[rv a, iv 0, rv b, iv 0, iv 4, iv 0, iv c0_] [(.int (c0_.toInt8.toInt32)), (.int 0), (.ref b)]
  obtain ⟨cl2, Aq2, Cq2, S2, M2, H2, G2⟩ := id V_b
  have in2 : ¬ ((0 : Int32) < 0 ∨ cl2.slots.size ≤ (0 : Int32).toNatClampNeg) := inb_of S2 ⟨by decide, by decide⟩
  obtain ⟨T2, h2, X2, e2, W2, st2⟩ := stB X0 hx hZ e0 Aq2 in2 (g := (mkF m 31 #[rv a, iv 0, rv b, iv 0, iv 4, iv 0, iv c0_] [(.int (c0_.toInt8.toInt32)), (.int 0), (.ref b)])) rfl rfl (hb hby d5_31)
  have W2 : Wr h0 h2 b (0 : Int32).toNatClampNeg (.int (nar .byte (c0_.toInt8.toInt32))) := W2
  have F3 := V_a.other W2 nab
  have V2 : Arv Z h2 b cb .byte (4 : Int32) [(.int (nar .byte (c0_.toInt8.toInt32))), (.int (0 : Int32)), (.int (0 : Int32)), (.int (0 : Int32))] (.int (0 : Int32)) := Arv.set Aq2 Cq2 S2 M2 H2 G2 (fits_nar_byte _) W2 0 (by decide) (by show 0 < 4; decide)
  have K2 := K0.wr W2 (Or.inl (List.mem_of_getElem? (i := 0) rfl))
  have N2 := Fr.snoc X2 N0 g_b
  have Zs2 : n0 ≤ h2.size := by rw [W2.size]; exact Z0
  refine os st2 ?_
  show OG p e below Φ T2 m 32 #[rv a, iv 0, rv b, iv 0, iv 4, iv 0, iv c0_] []
  refine os (fun _ z => XS.iinc X2.here hx rfl (hb hby d5_32) rfl (l' := #[rv a, iv ((0 : Int32) + (1 : Int32)), rv b, iv 0, iv 4, iv 0, iv c0_]) rfl z) ?_
  show OG p e below Φ T2 m 35 #[rv a, iv 1, rv b, iv 0, iv 4, iv 0, iv c0_] []
  refine os (fun _ z => XS.iinc X2.here hx rfl (hb hby d5_35) rfl (l' := #[rv a, iv 1, rv b, iv ((0 : Int32) + (1 : Int32)), iv 4, iv 0, iv c0_]) rfl z) ?_
  show OG p e below Φ T2 m 38 #[rv a, iv 1, rv b, iv 1, iv 4, iv 0, iv c0_] []
  refine os (fun _ z => XS.iinc X2.here hx rfl (hb hby d5_38) rfl (l' := #[rv a, iv 1, rv b, iv 1, iv 4, iv ((0 : Int32) + (1 : Int32)), iv c0_]) rfl z) ?_
  show OG p e below Φ T2 m 41 #[rv a, iv 1, rv b, iv 1, iv 4, iv 1, iv c0_] []
  refine os (fun _ z => XS.goto X2.here hx rfl (pc0 := 41) (pc' := 3) rfl (hb hby d5_41) (by decide) (by decide) z) ?_
  show OG p e below Φ T2 m 3 #[rv a, iv 1, rv b, iv 1, iv 4, iv 1, iv c0_] []
  refine os (fun _ z => XS.iload X2.here hx rfl (hb hby d5_3) rfl z) ?_
  refine os (fun _ z => XS.iload X2.here hx rfl (hb hby d5_5) rfl z) ?_
  show OG p e below Φ T2 m 7 #[rv a, iv 1, rv b, iv 1, iv 4, iv 1, iv c0_] [(.int 4), (.int 1)]
  refine os (fun _ z => XS.icmpNo X2.here hx rfl (hb hby d5_7) rfl (XT.ii_ge_f (by decide)) z) ?_
  show OG p e below Φ T2 m 10 #[rv a, iv 1, rv b, iv 1, iv 4, iv 1, iv c0_] []
  refine os (fun _ z => XS.aloadN X2.here hx rfl (hb hby d5_10) rfl rfl z) ?_
  refine os (fun _ z => XS.iloadN X2.here hx rfl (hb hby d5_11) rfl z) ?_
  show OG p e below Φ T2 m 12 #[rv a, iv 1, rv b, iv 1, iv 4, iv 1, iv c0_] [(.int 1), (.ref a)]
  obtain ⟨cl4, Aq4, -, S4, M4, H4, -⟩ := id F3
  have in4 : ¬ ((1 : Int32) < 0 ∨ cl4.slots.size ≤ (1 : Int32).toNatClampNeg) := inb_of S4 ⟨by decide, by decide⟩
  have at4 : cl4.slots[(1 : Int32).toNatClampNeg]? = some (.int c1_) := H4.at in4 rfl
  refine os (fun _ z => X2.caload hx (by rw [e2]; exact Aq4.1) (oia hZ Aq4.2.1) Aq4.2.2 in4 at4 (g := (mkF m 12 #[rv a, iv 1, rv b, iv 1, iv 4, iv 1, iv c0_] [(.int 1), (.ref a)])) rfl rfl (hb hby d5_12) _ z) ?_
  show OG p e below Φ T2 m 13 #[rv a, iv 1, rv b, iv 1, iv 4, iv 1, iv c0_] [(.int c1_)]
  refine os (fun _ z => XS.istore X2.here hx rfl (hb hby d5_13) rfl (l' := #[rv a, iv 1, rv b, iv 1, iv 4, iv 1, iv c1_]) rfl z) ?_
  show OG p e below Φ T2 m 15 #[rv a, iv 1, rv b, iv 1, iv 4, iv 1, iv c1_] []
  refine os (fun _ z => XS.iload X2.here hx rfl (hb hby d5_15) rfl z) ?_
  refine os (fun _ z => XS.sipush X2.here hx rfl (hb hby d5_17) z) ?_
  show OG p e below Φ T2 m 20 #[rv a, iv 1, rv b, iv 1, iv 4, iv 1, iv c1_] [(.int 255), (.int c1_)]
  refine os (fun _ z => XS.icmpYes X2.here hx rfl (pc0 := 20) (pc' := 26) rfl (hb hby d5_20) rfl (XT.ii_le_t hl1) (by decide) (by decide) z) ?_
  show OG p e below Φ T2 m 26 #[rv a, iv 1, rv b, iv 1, iv 4, iv 1, iv c1_] []
  refine os (fun _ z => XS.aloadN X2.here hx rfl (hb hby d5_26) rfl rfl z) ?_
  refine os (fun _ z => XS.iloadN X2.here hx rfl (hb hby d5_27) rfl z) ?_
  show OG p e below Φ T2 m 28 #[rv a, iv 1, rv b, iv 1, iv 4, iv 1, iv c1_] [(.int 1), (.ref b)]
  refine os (fun _ z => XS.iload X2.here hx rfl (hb hby d5_28) rfl z) ?_
  refine os (fun _ z => XT.i2b X2.here hx rfl (hb hby d5_30) rfl z) ?_
  show OG p e below Φ T2 m 31 #[rv a, iv 1, rv b, iv 1, iv 4, iv 1, iv c1_] [(.int (c1_.toInt8.toInt32)), (.int 1), (.ref b)]
  obtain ⟨cl5, Aq5, Cq5, S5, M5, H5, G5⟩ := id V2
  have in5 : ¬ ((1 : Int32) < 0 ∨ cl5.slots.size ≤ (1 : Int32).toNatClampNeg) := inb_of S5 ⟨by decide, by decide⟩
  obtain ⟨T5, h5, X5, e5, W5, st5⟩ := stB X2 hx hZ e2 Aq5 in5 (g := (mkF m 31 #[rv a, iv 1, rv b, iv 1, iv 4, iv 1, iv c1_] [(.int (c1_.toInt8.toInt32)), (.int 1), (.ref b)])) rfl rfl (hb hby d5_31)
  have W5 : Wr h2 h5 b (1 : Int32).toNatClampNeg (.int (nar .byte (c1_.toInt8.toInt32))) := W5
  have F6 := F3.other W5 nab
  have V5 : Arv Z h5 b cb .byte (4 : Int32) [(.int (nar .byte (c0_.toInt8.toInt32))), (.int (nar .byte (c1_.toInt8.toInt32))), (.int (0 : Int32)), (.int (0 : Int32))] (.int (0 : Int32)) := Arv.set Aq5 Cq5 S5 M5 H5 G5 (fits_nar_byte _) W5 1 (by decide) (by show 1 < 4; decide)
  have K5 := K2.wr W5 (Or.inl (List.mem_of_getElem? (i := 0) rfl))
  have N5 := Fr.snoc X5 N2 g_b
  have Zs5 : n0 ≤ h5.size := by rw [W5.size]; exact Zs2
  refine os st5 ?_
  show OG p e below Φ T5 m 32 #[rv a, iv 1, rv b, iv 1, iv 4, iv 1, iv c1_] []
  refine os (fun _ z => XS.iinc X5.here hx rfl (hb hby d5_32) rfl (l' := #[rv a, iv ((1 : Int32) + (1 : Int32)), rv b, iv 1, iv 4, iv 1, iv c1_]) rfl z) ?_
  show OG p e below Φ T5 m 35 #[rv a, iv 2, rv b, iv 1, iv 4, iv 1, iv c1_] []
  refine os (fun _ z => XS.iinc X5.here hx rfl (hb hby d5_35) rfl (l' := #[rv a, iv 2, rv b, iv ((1 : Int32) + (1 : Int32)), iv 4, iv 1, iv c1_]) rfl z) ?_
  show OG p e below Φ T5 m 38 #[rv a, iv 2, rv b, iv 2, iv 4, iv 1, iv c1_] []
  refine os (fun _ z => XS.iinc X5.here hx rfl (hb hby d5_38) rfl (l' := #[rv a, iv 2, rv b, iv 2, iv 4, iv ((1 : Int32) + (1 : Int32)), iv c1_]) rfl z) ?_
  show OG p e below Φ T5 m 41 #[rv a, iv 2, rv b, iv 2, iv 4, iv 2, iv c1_] []
  refine os (fun _ z => XS.goto X5.here hx rfl (pc0 := 41) (pc' := 3) rfl (hb hby d5_41) (by decide) (by decide) z) ?_
  show OG p e below Φ T5 m 3 #[rv a, iv 2, rv b, iv 2, iv 4, iv 2, iv c1_] []
  refine os (fun _ z => XS.iload X5.here hx rfl (hb hby d5_3) rfl z) ?_
  refine os (fun _ z => XS.iload X5.here hx rfl (hb hby d5_5) rfl z) ?_
  show OG p e below Φ T5 m 7 #[rv a, iv 2, rv b, iv 2, iv 4, iv 2, iv c1_] [(.int 4), (.int 2)]
  refine os (fun _ z => XS.icmpNo X5.here hx rfl (hb hby d5_7) rfl (XT.ii_ge_f (by decide)) z) ?_
  show OG p e below Φ T5 m 10 #[rv a, iv 2, rv b, iv 2, iv 4, iv 2, iv c1_] []
  refine os (fun _ z => XS.aloadN X5.here hx rfl (hb hby d5_10) rfl rfl z) ?_
  refine os (fun _ z => XS.iloadN X5.here hx rfl (hb hby d5_11) rfl z) ?_
  show OG p e below Φ T5 m 12 #[rv a, iv 2, rv b, iv 2, iv 4, iv 2, iv c1_] [(.int 2), (.ref a)]
  obtain ⟨cl7, Aq7, -, S7, M7, H7, -⟩ := id F6
  have in7 : ¬ ((2 : Int32) < 0 ∨ cl7.slots.size ≤ (2 : Int32).toNatClampNeg) := inb_of S7 ⟨by decide, by decide⟩
  have at7 : cl7.slots[(2 : Int32).toNatClampNeg]? = some (.int c2_) := H7.at in7 rfl
  refine os (fun _ z => X5.caload hx (by rw [e5]; exact Aq7.1) (oia hZ Aq7.2.1) Aq7.2.2 in7 at7 (g := (mkF m 12 #[rv a, iv 2, rv b, iv 2, iv 4, iv 2, iv c1_] [(.int 2), (.ref a)])) rfl rfl (hb hby d5_12) _ z) ?_
  show OG p e below Φ T5 m 13 #[rv a, iv 2, rv b, iv 2, iv 4, iv 2, iv c1_] [(.int c2_)]
  refine os (fun _ z => XS.istore X5.here hx rfl (hb hby d5_13) rfl (l' := #[rv a, iv 2, rv b, iv 2, iv 4, iv 2, iv c2_]) rfl z) ?_
  show OG p e below Φ T5 m 15 #[rv a, iv 2, rv b, iv 2, iv 4, iv 2, iv c2_] []
  refine os (fun _ z => XS.iload X5.here hx rfl (hb hby d5_15) rfl z) ?_
  refine os (fun _ z => XS.sipush X5.here hx rfl (hb hby d5_17) z) ?_
  show OG p e below Φ T5 m 20 #[rv a, iv 2, rv b, iv 2, iv 4, iv 2, iv c2_] [(.int 255), (.int c2_)]
  refine os (fun _ z => XS.icmpNo X5.here hx rfl (hb hby d5_20) rfl (XT.ii_le_f hb2) z) ?_
  show OG p e below Φ T5 m 23 #[rv a, iv 2, rv b, iv 2, iv 4, iv 2, iv c2_] []
  refine os (fun _ z => XS.iload X5.here hx rfl (hb hby d5_23) rfl z) ?_
  refine OGo.fin X5 hlk (v := (some (.int 2))) (fun h => by rw [hret] at h; cases h) (by decide) (by decide) (fun fs hr => X5.ireturnOut hx hret rfl (by simp) (hb hby d5_25) hr) fun U eU hF => hΦ _ _ _ ?_ hF
  rw [eU, e5]
  show Q_rsb4_2c2 Z a ca b cb c0_ c1_ c2_ c3_ h0 n0 _ _ _
  exact ⟨rfl, N5, K5⟩

theorem ef_rsb4_2gc (m : MethodId) (x0 : Addr) (x1 : Int32) : entryFrame m #[(.ref x0), (.int x1)] 2 = mkF m 0 #[.val (.ref x0), .val (.int x1)] [] := by first | (simp [entryFrame, mkF, argsToLocals, Value.category]; done) | rfl
def Q_rsb4_2gc (Z : State) (b : Addr) (cb : ClassId) (c0_ : Int32) (c1_ : Int32) (c2_ : Int32) (c3_ : Int32) (h0 : Heap) (n0 : Nat) (v : Option Value) (h : Heap) (L : List Loc) : Prop := v = some (.int c2_) ∧ Fr n0 L ∧ h = h0
set_option maxRecDepth 65536 in
set_option maxHeartbeats 40000000 in
theorem rsb4_2gc (l : Launch) (Z : State) (a0 : Array Value) (hw : ∀ d ∈ tables_1, d.before a0 Z = true) (ws : List Jvm.Cond) (b : Addr) (cb : ClassId) (c0_ : Int32) (c1_ : Int32) (c2_ : Int32) (c3_ : Int32) (h0 : Heap) (n0 : Nat) (Z0 : n0 ≤ h0.size) (V_b : Arv Z h0 b cb .byte (8 : Int32) [(.int (ohb c0_)), (.int (olb c0_)), (.int (ohb c1_)), (.int (olb c1_)), (.int (ohb c2_)), (.int (olb c2_)), (.int (ohb c3_)), (.int (olb c3_))] (.int (0 : Int32))) (S_ad : Sta Z h0 "java/lang/StringUTF16" "$assertionsDisabled" "Z" (.int (1 : Int32))) (S_hb : Sta Z h0 "java/lang/StringUTF16" "HI_BYTE_SHIFT" "I" (.int (0 : Int32))) (S_lb : Sta Z h0 "java/lang/StringUTF16" "LO_BYTE_SHIFT" "I" (.int (8 : Int32))) (hr2 : nar .char c2_ = c2_) :
    OCon l Z (⟨"java/lang/StringUTF16", "getChar", "([BI)C"⟩ : MethodName) jdk_52_method_5_code 2 (some .char) ws ({ frames := 0, cells := 0, slots := 0, locals := 0 } : Room) #[(.ref b), (.int (2 : Int32))] h0 (Q_rsb4_2gc Z b cb c0_ c1_ c2_ c3_ h0 n0) := by
  refine OCon.of (plainFor_of_name pn1) ?_
  intro p e s m below meth c s₁ Φ X0 hx hby hml hown hnm hret hlk hZ e0 hΦ
  have N0 := Fr.nil n0
  refine os (fun _ z => castTop (ef_rsb4_2gc m b (2 : Int32)) z) ?_
  show OG p e below Φ s₁ m 0 #[rv b, iv 2] []
  obtain ⟨T1, X1, e1, st1⟩ := getS2 X0 hx hZ hown (host := "") (Or.inl (ow65 hw)) Via.refl e0 S_ad (g := (mkF m 0 #[rv b, iv 2] [])) rfl (hb hby d14_0)
  refine os st1 ?_
  show OG p e below Φ T1 m 3 #[rv b, iv 2] [(.int 1)]
  refine os (fun _ z => XS.ifYes X1.here hx rfl (pc0 := 3) (pc' := 28) rfl (hb hby d14_3) rfl (XT.i0_ne_t (by decide)) (by decide) (by decide) z) ?_
  show OG p e below Φ T1 m 28 #[rv b, iv 2] []
  refine os (fun _ z => XS.iloadN X1.here hx rfl (hb hby d14_28) rfl z) ?_
  refine os (fun _ z => XS.iconst X1.here hx rfl (hb hby d14_29) z) ?_
  show OG p e below Φ T1 m 30 #[rv b, iv 2] [(.int 1), (.int 2)]
  refine os (fun _ z => XT.ishl X1.here hx rfl (hb hby d14_30) rfl z) ?_
  show OG p e below Φ T1 m 31 #[rv b, iv 2] [(.int 4)]
  refine os (fun _ z => XS.istoreN X1.here hx rfl (hb hby d14_31) rfl (l' := #[rv b, iv 4]) rfl z) ?_
  show OG p e below Φ T1 m 32 #[rv b, iv 4] []
  refine os (fun _ z => XS.aloadN X1.here hx rfl (hb hby d14_32) rfl rfl z) ?_
  refine os (fun _ z => XS.iloadN X1.here hx rfl (hb hby d14_33) rfl z) ?_
  show OG p e below Φ T1 m 34 #[rv b, iv 4] [(.int 4), (.ref b)]
  refine os (fun _ z => XS.iinc X1.here hx rfl (hb hby d14_34) rfl (l' := #[rv b, iv ((4 : Int32) + (1 : Int32))]) rfl z) ?_
  show OG p e below Φ T1 m 37 #[rv b, iv 5] [(.int 4), (.ref b)]
  obtain ⟨cl2, Aq2, -, S2, M2, H2, -⟩ := id V_b
  have in2 : ¬ ((4 : Int32) < 0 ∨ cl2.slots.size ≤ (4 : Int32).toNatClampNeg) := inb_of S2 ⟨by decide, by decide⟩
  have at2 : cl2.slots[(4 : Int32).toNatClampNeg]? = some (.int (ohb c2_)) := H2.at in2 rfl
  refine os (fun _ z => X1.baloadBytes hx (by rw [e1]; exact Aq2.1) (oia hZ Aq2.2.1) Aq2.2.2 in2 at2 (g := (mkF m 37 #[rv b, iv 5] [(.int 4), (.ref b)])) rfl rfl (hb hby d14_37) _ z) ?_
  show OG p e below Φ T1 m 38 #[rv b, iv 5] [(.int (ohb c2_))]
  refine os (fun _ z => XS.sipush X1.here hx rfl (hb hby d14_38) z) ?_
  refine os (fun _ z => XS.iand X1.here hx rfl (hb hby d14_41) rfl z) ?_
  show OG p e below Φ T1 m 42 #[rv b, iv 5] [(.int ((ohb c2_) &&& (255 : Int32)))]
  obtain ⟨T3, X3, e3, st3⟩ := getS2 X1 hx hZ hown (host := "") (Or.inl (ow66 hw)) Via.refl e1 S_hb (g := (mkF m 42 #[rv b, iv 5] [(.int ((ohb c2_) &&& (255 : Int32)))])) rfl (hb hby d14_42)
  refine os st3 ?_
  show OG p e below Φ T3 m 45 #[rv b, iv 5] [(.int 0), (.int ((ohb c2_) &&& (255 : Int32)))]
  refine os (fun _ z => XT.ishl X3.here hx rfl (hb hby d14_45) rfl z) ?_
  show OG p e below Φ T3 m 46 #[rv b, iv 5] [(.int (((ohb c2_) &&& (255 : Int32)) <<< ((0 : Int32) &&& 31)))]
  refine os (fun _ z => XS.aloadN X3.here hx rfl (hb hby d14_46) rfl rfl z) ?_
  refine os (fun _ z => XS.iloadN X3.here hx rfl (hb hby d14_47) rfl z) ?_
  show OG p e below Φ T3 m 48 #[rv b, iv 5] [(.int 5), (.ref b), (.int (((ohb c2_) &&& (255 : Int32)) <<< ((0 : Int32) &&& 31)))]
  obtain ⟨cl4, Aq4, -, S4, M4, H4, -⟩ := id V_b
  have in4 : ¬ ((5 : Int32) < 0 ∨ cl4.slots.size ≤ (5 : Int32).toNatClampNeg) := inb_of S4 ⟨by decide, by decide⟩
  have at4 : cl4.slots[(5 : Int32).toNatClampNeg]? = some (.int (olb c2_)) := H4.at in4 rfl
  refine os (fun _ z => X3.baloadBytes hx (by rw [e3]; exact Aq4.1) (oia hZ Aq4.2.1) Aq4.2.2 in4 at4 (g := (mkF m 48 #[rv b, iv 5] [(.int 5), (.ref b), (.int (((ohb c2_) &&& (255 : Int32)) <<< ((0 : Int32) &&& 31)))])) rfl rfl (hb hby d14_48) _ z) ?_
  show OG p e below Φ T3 m 49 #[rv b, iv 5] [(.int (olb c2_)), (.int (((ohb c2_) &&& (255 : Int32)) <<< ((0 : Int32) &&& 31)))]
  refine os (fun _ z => XS.sipush X3.here hx rfl (hb hby d14_49) z) ?_
  refine os (fun _ z => XS.iand X3.here hx rfl (hb hby d14_52) rfl z) ?_
  show OG p e below Φ T3 m 53 #[rv b, iv 5] [(.int ((olb c2_) &&& (255 : Int32))), (.int (((ohb c2_) &&& (255 : Int32)) <<< ((0 : Int32) &&& 31)))]
  obtain ⟨T5, X5, e5, st5⟩ := getS2 X3 hx hZ hown (host := "") (Or.inl (ow67 hw)) Via.refl e3 S_lb (g := (mkF m 53 #[rv b, iv 5] [(.int ((olb c2_) &&& (255 : Int32))), (.int (((ohb c2_) &&& (255 : Int32)) <<< ((0 : Int32) &&& 31)))])) rfl (hb hby d14_53)
  refine os st5 ?_
  show OG p e below Φ T5 m 56 #[rv b, iv 5] [(.int 8), (.int ((olb c2_) &&& (255 : Int32))), (.int (((ohb c2_) &&& (255 : Int32)) <<< ((0 : Int32) &&& 31)))]
  refine os (fun _ z => XT.ishl X5.here hx rfl (hb hby d14_56) rfl z) ?_
  show OG p e below Φ T5 m 57 #[rv b, iv 5] [(.int (((olb c2_) &&& (255 : Int32)) <<< ((8 : Int32) &&& 31))), (.int (((ohb c2_) &&& (255 : Int32)) <<< ((0 : Int32) &&& 31)))]
  refine os (fun _ z => XT.ior X5.here hx rfl (hb hby d14_57) rfl z) ?_
  show OG p e below Φ T5 m 58 #[rv b, iv 5] [(.int ((((ohb c2_) &&& (255 : Int32)) <<< ((0 : Int32) &&& 31)) ||| (((olb c2_) &&& (255 : Int32)) <<< ((8 : Int32) &&& 31))))]
  refine os (fun _ z => XT.i2c X5.here hx rfl (hb hby d14_58) rfl z) ?_
  show OG p e below Φ T5 m 59 #[rv b, iv 5] [(.int (((((ohb c2_) &&& (255 : Int32)) <<< ((0 : Int32) &&& 31)) ||| (((olb c2_) &&& (255 : Int32)) <<< ((8 : Int32) &&& 31))).toUInt32.toUInt16.toUInt32.toInt32))]
  refine OGo.fin X5 hlk (v := (some (.int (((((ohb c2_) &&& (255 : Int32)) <<< ((0 : Int32) &&& 31)) ||| (((olb c2_) &&& (255 : Int32)) <<< ((8 : Int32) &&& 31))).toUInt32.toUInt16.toUInt32.toInt32)))) (fun h => by rw [hret] at h; cases h) (by decide) (by decide) (fun fs hr => X5.ireturnOut hx hret (XT.narrow_c _) (by simp) (hb hby d14_59) hr) fun U eU hF => hΦ _ _ _ ?_ hF
  rw [eU, e5]
  show Q_rsb4_2gc Z b cb c0_ c1_ c2_ c3_ h0 n0 _ _ _
  exact ⟨congrArg (fun z => some (Value.int z)) (own_gc' _ hr2), N0, rfl⟩

theorem ef_rsb4_2c3 (m : MethodId) (x0 : Addr) (x1 : Int32) (x2 : Int32) : entryFrame m #[(.ref x0), (.int x1), (.int x2)] 6 = mkF m 0 #[.val (.ref x0), .val (.int x1), .val (.int x2), .unset, .unset, .unset] [] := by first | (simp [entryFrame, mkF, argsToLocals, Value.category]; done) | rfl
def Q_rsb4_2c3 (Z : State) (a : Addr) (ca : ClassId) (c0_ : Int32) (c1_ : Int32) (c2_ : Int32) (c3_ : Int32) (h0 : Heap) (n0 : Nat) (v : Option Value) (h : Heap) (L : List Loc) : Prop := ∃ b cb, v = some (.ref b) ∧ Fr n0 L ∧ Keep h0 h [] ∧ Arv Z h b cb .byte (8 : Int32) [(.int (ohb c0_)), (.int (olb c0_)), (.int (ohb c1_)), (.int (olb c1_)), (.int (ohb c2_)), (.int (olb c2_)), (.int (ohb c3_)), (.int (olb c3_))] (.int (0 : Int32)) ∧ h0.size ≤ b
set_option maxRecDepth 65536 in
set_option maxHeartbeats 40000000 in
theorem rsb4_2c3 (l : Launch) (Z : State) (a0 : Array Value) (hw : ∀ d ∈ tables_1, d.before a0 Z = true) (ws : List Jvm.Cond) (a : Addr) (ca : ClassId) (c0_ : Int32) (c1_ : Int32) (c2_ : Int32) (c3_ : Int32) (h0 : Heap) (n0 : Nat) (Z0 : n0 ≤ h0.size) (V_a : Arv Z h0 a ca .char (4 : Int32) [(.int c0_), (.int c1_), (.int c2_), (.int c3_)] (.int (0 : Int32))) (O_0 : Old Z n0 h0) (S_ad : Sta Z Z.heap "java/lang/StringUTF16" "$assertionsDisabled" "Z" (.int (1 : Int32))) (S_hb : Sta Z Z.heap "java/lang/StringUTF16" "HI_BYTE_SHIFT" "I" (.int (0 : Int32))) (S_lb : Sta Z Z.heap "java/lang/StringUTF16" "LO_BYTE_SHIFT" "I" (.int (8 : Int32))) (hl0 : ¬ (255 : Int32) < c0_) (hl1 : ¬ (255 : Int32) < c1_) (hb2 : (255 : Int32) < c2_) (hr2 : nar .char c2_ = c2_) :
    OCon l Z (⟨"java/lang/StringUTF16", "compress", "([CII)[B"⟩ : MethodName) jdk_52_method_16_code 6 (some (.array .byte)) ws ({ frames := 3, cells := 2, slots := 12, locals := 40 } : Room) #[(.ref a), (.int (0 : Int32)), (.int (4 : Int32))] h0 (Q_rsb4_2c3 Z a ca c0_ c1_ c2_ c3_ h0 n0) := by
  refine OCon.of (plainFor_of_name pn1) ?_
  intro p e s m below meth c s₁ Φ X0 hx hby hml hown hnm hret hlk hZ e0 hΦ
  have N0 := Fr.nil n0
  refine os (fun _ z => castTop (ef_rsb4_2c3 m a (0 : Int32) (4 : Int32)) z) ?_
  have K0 := Keep.refl h0 []
  show OG p e below Φ s₁ m 0 #[rv a, iv 0, iv 4, .unset, .unset, .unset] []
  refine os (fun _ z => XS.iloadN X0.here hx rfl (hb hby d4_0) rfl z) ?_
  obtain ⟨T1, h1, c1, X1, e1, E1, Ar1, st1⟩ := newP (aty := .byte) X0 hx hZ (ow1 hw) e0 (g := (mkF m 1 #[rv a, iv 0, iv 4, .unset, .unset, .unset] [(.int 4)])) rfl (hb hby d4_1) rfl (by decide) (cap := 4) (by decide) (by decide) (by decide) (by decide)
  obtain ⟨b1, g1⟩ : ∃ z, z = h0.size := ⟨_, rfl⟩
  rw [← g1] at Ar1 st1
  have ne1_a : a ≠ b1 := by rw [g1]; exact Nat.ne_of_lt V_a.lt
  have F2 := V_a.ext E1
  have F3 := O_0.ext E1
  have gb1 : n0 ≤ b1 := Nat.le_trans Z0 (Nat.le_of_eq g1.symm)
  have sz1 : h0.size ≤ b1 := Nat.le_trans K0.1 (Nat.le_of_eq g1.symm)
  have K1 := K0.ext E1
  have Zs1 : n0 ≤ h1.size := Nat.le_trans Z0 E1.1
  have V1 : Arv Z h1 b1 c1 .byte (4 : Int32) [(.int (0 : Int32)), (.int (0 : Int32)), (.int (0 : Int32)), (.int (0 : Int32))] (.int (0 : Int32)) := (Arv.new Ar1 (by decide)).pad (pad_rep [] _ 4)
  refine os st1 ?_
  show OG p e below Φ T1 m 3 #[rv a, iv 0, iv 4, .unset, .unset, .unset] [(.ref b1)]
  refine os (fun _ z => XS.astoreN X1.here hx rfl (hb hby d4_3) rfl rfl (l' := #[rv a, iv 0, iv 4, rv b1, .unset, .unset]) rfl z) ?_
  show OG p e below Φ T1 m 4 #[rv a, iv 0, iv 4, rv b1, .unset, .unset] []
  refine os (fun _ z => XS.aloadN X1.here hx rfl (hb hby d4_4) rfl rfl z) ?_
  refine os (fun _ z => XS.iloadN X1.here hx rfl (hb hby d4_5) rfl z) ?_
  show OG p e below Φ T1 m 6 #[rv a, iv 0, iv 4, rv b1, .unset, .unset] [(.int 0), (.ref a)]
  refine os (fun _ z => XS.aloadN X1.here hx rfl (hb hby d4_6) rfl rfl z) ?_
  refine os (fun _ z => XS.iconst X1.here hx rfl (hb hby d4_7) z) ?_
  show OG p e below Φ T1 m 8 #[rv a, iv 0, iv 4, rv b1, .unset, .unset] [(.int 0), (.ref b1), (.int 0), (.ref a)]
  refine os (fun _ z => XS.iloadN X1.here hx rfl (hb hby d4_8) rfl z) ?_
  obtain ⟨_, T4, L4, X4, hQ4, st4⟩ := own_callSt X1 hx hZ hown (ow22 hw) (ow23 hw) (ow20 hw) (ow24 hw) (by decide) (rsb4_2c2 l Z a0 hw [] a ca b1 c1 c0_ c1_ c2_ c3_ h1 n0 Zs1 F2 V1 ne1_a gb1 hl0 hl1 hb2) e1 (W := 0) (by decide) (by decide) (by decide) (by decide) (pc := 9) (ls := #[rv a, iv 0, iv 4, rv b1, .unset, .unset]) (stk := [(.int 4), (.int 0), (.ref b1), (.int 0), (.ref a)]) (by rw [hml]; rfl) (argsL := [(.ref a), (.int 0), (.ref b1), (.int 0), (.int 4)]) (rest := []) (lenOf pd1 rfl) rfl rfl (Nat.le_of_eq rfl) (hb hby d4_9)
  obtain ⟨rfl, Nq4, Kq4⟩ := hQ4
  have N4 := Fr.app N0 Nq4
  have Zs4 : n0 ≤ T4.heap.size := Nat.le_trans Zs1 Kq4.1
  have F5 := F2.keep Kq4 (ninS ne1_a nin0)
  have F6 := F3.keep Kq4 (allS gb1 all0)
  have K4 := K1.trans Kq4 (allS (Or.inr sz1) all0)
  refine os st4 ?_
  show OG p e below Φ T4 m 12 #[rv a, iv 0, iv 4, rv b1, .unset, .unset] [(.int 2)]
  refine os (fun _ z => XS.istore X4.here hx rfl (hb hby d4_12) rfl (l' := #[rv a, iv 0, iv 4, rv b1, iv 2, .unset]) rfl z) ?_
  show OG p e below Φ T4 m 14 #[rv a, iv 0, iv 4, rv b1, iv 2, .unset] []
  refine os (fun _ z => XS.iload X4.here hx rfl (hb hby d4_14) rfl z) ?_
  refine os (fun _ z => XS.iloadN X4.here hx rfl (hb hby d4_16) rfl z) ?_
  show OG p e below Φ T4 m 17 #[rv a, iv 0, iv 4, rv b1, iv 2, .unset] [(.int 4), (.int 2)]
  refine os (fun _ z => XS.icmpNo X4.here hx rfl (hb hby d4_17) rfl (XT.ii_eq_f (by decide)) z) ?_
  show OG p e below Φ T4 m 20 #[rv a, iv 0, iv 4, rv b1, iv 2, .unset] []
  refine os (fun _ z => XS.aloadN X4.here hx rfl (hb hby d4_20) rfl rfl z) ?_
  refine os (fun _ z => XS.iloadN X4.here hx rfl (hb hby d4_21) rfl z) ?_
  show OG p e below Φ T4 m 22 #[rv a, iv 0, iv 4, rv b1, iv 2, .unset] [(.int 0), (.ref a)]
  refine os (fun _ z => XS.iloadN X4.here hx rfl (hb hby d4_22) rfl z) ?_
  obtain ⟨_, T7, L7, X7, hQ7, st7⟩ := own_callSt X4 hx hZ hown (ow52 hw) (ow53 hw) (ow20 hw) (ow54 hw) (by decide) (rsb4_0tb l Z a0 hw [] a ca c0_ c1_ c2_ c3_ T4.heap n0 Zs4 F5 F6 S_ad S_hb S_lb) rfl (W := 0) (by decide) (by decide) (by decide) (by decide) (pc := 23) (ls := #[rv a, iv 0, iv 4, rv b1, iv 2, .unset]) (stk := [(.int 4), (.int 0), (.ref a)]) (by rw [hml]; rfl) (argsL := [(.ref a), (.int 0), (.int 4)]) (rest := []) (lenOf pd2 rfl) rfl rfl (Nat.le_of_eq rfl) (hb hby d4_23)
  obtain ⟨b7, cb7, rfl, Nq7, Kq7, Vq7, hz7⟩ := hQ7
  have nq7_a : a ≠ b7 := Nat.ne_of_lt (Nat.lt_of_lt_of_le F5.lt hz7)
  have gq7 : n0 ≤ b7 := Nat.le_trans Zs4 hz7
  have sq7 : h0.size ≤ b7 := Nat.le_trans K4.1 hz7
  have N7 := Fr.app N4 Nq7
  have Zs7 : n0 ≤ T7.heap.size := Nat.le_trans Zs4 Kq7.1
  have F8 := F5.keep Kq7 nin0
  have F9 := F6.keep Kq7 all0
  have K7 := K4.trans Kq7 all0
  refine os st7 ?_
  show OG p e below Φ T7 m 26 #[rv a, iv 0, iv 4, rv b1, iv 2, .unset] [(.ref b7)]
  refine os (fun _ z => XS.astore X7.here hx rfl (hb hby d4_26) rfl rfl (l' := #[rv a, iv 0, iv 4, rv b1, iv 2, rv b7]) rfl z) ?_
  show OG p e below Φ T7 m 28 #[rv a, iv 0, iv 4, rv b1, iv 2, rv b7] []
  refine os (fun _ z => XS.aload X7.here hx rfl (hb hby d4_28) rfl rfl z) ?_
  refine os (fun _ z => XS.iload X7.here hx rfl (hb hby d4_30) rfl z) ?_
  show OG p e below Φ T7 m 32 #[rv a, iv 0, iv 4, rv b1, iv 2, rv b7] [(.int 2), (.ref b7)]
  obtain ⟨_, T10, L10, X10, hQ10, st10⟩ := own_callSt X7 hx hZ hown (ow68 hw) (ow69 hw) (ow20 hw) (ow70 hw) (by decide) (rsb4_2gc l Z a0 hw [] b7 cb7 c0_ c1_ c2_ c3_ T7.heap n0 Zs7 Vq7 (S_ad.ext F9.2) (S_hb.ext F9.2) (S_lb.ext F9.2) hr2) rfl (W := 0) (by decide) (by decide) (by decide) (by decide) (pc := 32) (ls := #[rv a, iv 0, iv 4, rv b1, iv 2, rv b7]) (stk := [(.int 2), (.ref b7)]) (by rw [hml]; rfl) (argsL := [(.ref b7), (.int 2)]) (rest := []) (lenOf pd7 rfl) rfl rfl (Nat.le_of_eq rfl) (hb hby d4_32)
  obtain ⟨rfl, Nq10, e10⟩ := hQ10
  have N10 := Fr.app N7 Nq10
  refine os st10 ?_
  show OG p e below Φ T10 m 35 #[rv a, iv 0, iv 4, rv b1, iv 2, rv b7] [(.int c2_)]
  refine os (fun _ z => XS.sipush X10.here hx rfl (hb hby d4_35) z) ?_
  refine os (fun _ z => XS.icmpYes X10.here hx rfl (pc0 := 38) (pc' := 54) rfl (hb hby d4_38) rfl (XT.ii_gt_t hb2) (by decide) (by decide) z) ?_
  show OG p e below Φ T10 m 54 #[rv a, iv 0, iv 4, rv b1, iv 2, rv b7] []
  refine os (fun _ z => XS.aload X10.here hx rfl (hb hby d4_54) rfl rfl z) ?_
  refine OGo.fin X10 hlk (v := (some (.ref b7))) (fun h => by rw [hret] at h; cases h) (by decide) (by decide) (fun fs hr => X10.areturnOut hx rfl hret rfl (hb hby d4_56) hr) fun U eU hF => hΦ _ _ _ ?_ hF
  rw [eU, e10]
  show Q_rsb4_2c3 Z a ca c0_ c1_ c2_ c3_ h0 n0 _ _ _
  exact ⟨_, _, rfl, N10, K7, Vq7, sq7⟩

theorem ef_rsb4_2i4 (m : MethodId) (x0 : Addr) (x1 : Addr) (x2 : Int32) (x3 : Int32) : entryFrame m #[(.ref x0), (.ref x1), (.int x2), (.int x3), .null] 6 = mkF m 0 #[.val (.ref x0), .val (.ref x1), .val (.int x2), .val (.int x3), .val .null, .unset] [] := by first | (simp [entryFrame, mkF, argsToLocals, Value.category]; done) | rfl
def Q_rsb4_2i4 (Z : State) (s_ : Addr) (a : Addr) (ca : ClassId) (qc : Int32) (c0_ : Int32) (c1_ : Int32) (c2_ : Int32) (c3_ : Int32) (h0 : Heap) (n0 : Nat) (v : Option Value) (h : Heap) (L : List Loc) : Prop := v = none ∧ Fr n0 L ∧ Keep h0 h [s_] ∧ Exa Z h s_ "java/lang/String" ∧ ∃ b cb, Fld Z h s_ "java/lang/String" "value" "[B" (.ref b) ∧ Fld Z h s_ "java/lang/String" "coder" "B" (.int (1 : Int32)) ∧ Arv Z h b cb .byte (8 : Int32) [(.int (ohb c0_)), (.int (olb c0_)), (.int (ohb c1_)), (.int (olb c1_)), (.int (ohb c2_)), (.int (olb c2_)), (.int (ohb c3_)), (.int (olb c3_))] (.int (0 : Int32)) ∧ h0.size ≤ b
set_option maxRecDepth 65536 in
set_option maxHeartbeats 40000000 in
theorem rsb4_2i4 (l : Launch) (Z : State) (a0 : Array Value) (hw : ∀ d ∈ tables_1, d.before a0 Z = true) (ws : List Jvm.Cond) (s_ : Addr) (a : Addr) (ca : ClassId) (qc : Int32) (c0_ : Int32) (c1_ : Int32) (c2_ : Int32) (c3_ : Int32) (h0 : Heap) (n0 : Nat) (Z0 : n0 ≤ h0.size) (E_s : Exa Z h0 s_ "java/lang/String") (g_s : n0 ≤ s_) (F_v : Fld Z h0 s_ "java/lang/String" "value" "[B" .null) (F_c : Fld Z h0 s_ "java/lang/String" "coder" "B" (.int (0 : Int32))) (V_a : Arv Z h0 a ca .char (4 : Int32) [(.int c0_), (.int c1_), (.int c2_), (.int c3_)] (.int (0 : Int32))) (nsa : s_ ≠ a) (S_cs : Sta Z Z.heap "java/lang/String" "COMPACT_STRINGS" "Z" (.int qc)) (hq : ¬ qc = 0) (O_0 : Old Z n0 h0) (S_ad : Sta Z Z.heap "java/lang/StringUTF16" "$assertionsDisabled" "Z" (.int (1 : Int32))) (S_hb : Sta Z Z.heap "java/lang/StringUTF16" "HI_BYTE_SHIFT" "I" (.int (0 : Int32))) (S_lb : Sta Z Z.heap "java/lang/StringUTF16" "LO_BYTE_SHIFT" "I" (.int (8 : Int32))) (hl0 : ¬ (255 : Int32) < c0_) (hl1 : ¬ (255 : Int32) < c1_) (hb2 : (255 : Int32) < c2_) (hr2 : nar .char c2_ = c2_) :
    OCon l Z (⟨"java/lang/String", "<init>", "([CIILjava/lang/Void;)V"⟩ : MethodName) jdk_42_method_149_code 6 none ws ({ frames := 4, cells := 2, slots := 12, locals := 57 } : Room) #[(.ref s_), (.ref a), (.int (0 : Int32)), (.int (4 : Int32)), .null] h0 (Q_rsb4_2i4 Z s_ a ca qc c0_ c1_ c2_ c3_ h0 n0) := by
  refine OCon.of (plainFor_of_name pn0) ?_
  intro p e s m below meth c s₁ Φ X0 hx hby hml hown hnm hret hlk hZ e0 hΦ
  have N0 := Fr.nil n0
  refine os (fun _ z => castTop (ef_rsb4_2i4 m s_ a (0 : Int32) (4 : Int32)) z) ?_
  have K0 := Keep.refl h0 [s_]
  show OG p e below Φ s₁ m 0 #[rv s_, rv a, iv 0, iv 4, .val .null, .unset] []
  refine os (fun _ z => XS.aloadN X0.here hx rfl (hb hby d2_0) rfl rfl z) ?_
  obtain ⟨T1, X1, e1, st1⟩ := initO X0 hx hZ hown (ow14 hw) (ow15 hw) (ow16 hw) e0 (g := (mkF m 1 #[rv s_, rv a, iv 0, iv 4, .val .null, .unset] [(.ref s_)])) rfl (by rw [hml]; rfl) rfl (hb hby d2_1) (by decide) (W := 0) (Nat.le_of_eq rfl) (by decide)
  refine os st1 ?_
  show OG p e below Φ T1 m 4 #[rv s_, rv a, iv 0, iv 4, .val .null, .unset] []
  refine os (fun _ z => XS.iloadN X1.here hx rfl (hb hby d2_4) rfl z) ?_
  refine os (fun _ z => XS.ifYes X1.here hx rfl (pc0 := 5) (pc' := 27) rfl (hb hby d2_5) rfl (XT.i0_ne_t (by decide)) (by decide) (by decide) z) ?_
  show OG p e below Φ T1 m 27 #[rv s_, rv a, iv 0, iv 4, .val .null, .unset] []
  have Sq := S_cs.ext O_0.2
  obtain ⟨T2, X2, e2, st2⟩ := getS2 X1 hx hZ hown (host := "") (Or.inl (ow17 hw)) Via.refl e1 Sq (g := (mkF m 27 #[rv s_, rv a, iv 0, iv 4, .val .null, .unset] [])) rfl (hb hby d2_27)
  refine os st2 ?_
  show OG p e below Φ T2 m 30 #[rv s_, rv a, iv 0, iv 4, .val .null, .unset] [(.int qc)]
  refine os (fun _ z => XS.ifNo X2.here hx rfl (hb hby d2_30) rfl (XT.i0_eq_f hq) z) ?_
  show OG p e below Φ T2 m 33 #[rv s_, rv a, iv 0, iv 4, .val .null, .unset] []
  refine os (fun _ z => XS.aloadN X2.here hx rfl (hb hby d2_33) rfl rfl z) ?_
  refine os (fun _ z => XS.iloadN X2.here hx rfl (hb hby d2_34) rfl z) ?_
  show OG p e below Φ T2 m 35 #[rv s_, rv a, iv 0, iv 4, .val .null, .unset] [(.int 0), (.ref a)]
  refine os (fun _ z => XS.iloadN X2.here hx rfl (hb hby d2_35) rfl z) ?_
  obtain ⟨_, T3, L3, X3, hQ3, st3⟩ := own_callSt X2 hx hZ hown (ow18 hw) (ow19 hw) (ow20 hw) (ow21 hw) (by decide) (rsb4_2c3 l Z a0 hw [] a ca c0_ c1_ c2_ c3_ h0 n0 Z0 V_a O_0 S_ad S_hb S_lb hl0 hl1 hb2 hr2) e2 (W := 0) (by decide) (by decide) (by decide) (by decide) (pc := 36) (ls := #[rv s_, rv a, iv 0, iv 4, .val .null, .unset]) (stk := [(.int 4), (.int 0), (.ref a)]) (by rw [hml]; rfl) (argsL := [(.ref a), (.int 0), (.int 4)]) (rest := []) (lenOf pd2 rfl) rfl rfl (Nat.le_of_eq rfl) (hb hby d2_36)
  obtain ⟨b3, cb3, rfl, Nq3, Kq3, Vq3, hz3⟩ := hQ3
  have nq3_a : a ≠ b3 := Nat.ne_of_lt (Nat.lt_of_lt_of_le V_a.lt hz3)
  have nq3_s_ : s_ ≠ b3 := Nat.ne_of_lt (Nat.lt_of_lt_of_le E_s.lt hz3)
  have gq3 : n0 ≤ b3 := Nat.le_trans Z0 hz3
  have sq3 : h0.size ≤ b3 := Nat.le_trans K0.1 hz3
  have N3 := Fr.app N0 Nq3
  have Zs3 : n0 ≤ T3.heap.size := Nat.le_trans Z0 Kq3.1
  have F4 := E_s.keep Kq3
  have F5 := F_v.keep Kq3 nin0
  have F6 := F_c.keep Kq3 nin0
  have F7 := V_a.keep Kq3 nin0
  have F8 := O_0.keep Kq3 all0
  have K3 := K0.trans Kq3 all0
  refine os st3 ?_
  show OG p e below Φ T3 m 39 #[rv s_, rv a, iv 0, iv 4, .val .null, .unset] [(.ref b3)]
  refine os (fun _ z => XS.astore X3.here hx rfl (hb hby d2_39) rfl rfl (l' := #[rv s_, rv a, iv 0, iv 4, .val .null, rv b3]) rfl z) ?_
  show OG p e below Φ T3 m 41 #[rv s_, rv a, iv 0, iv 4, .val .null, rv b3] []
  refine os (fun _ z => XS.aloadN X3.here hx rfl (hb hby d2_41) rfl rfl z) ?_
  refine os (fun _ z => XS.aload X3.here hx rfl (hb hby d2_42) rfl rfl z) ?_
  show OG p e below Φ T3 m 44 #[rv s_, rv a, iv 0, iv 4, .val .null, rv b3] [(.ref b3), (.ref s_)]
  refine os (fun _ z => XS.iloadN X3.here hx rfl (hb hby d2_44) rfl z) ?_
  obtain ⟨_, T9, L9, X9, hQ9, st9⟩ := own_callSt X3 hx hZ hown (ow25 hw) (ow26 hw) (ow20 hw) (ow27 hw) (by decide) (rsb4_0cf l Z a0 hw [] b3 cb3 c0_ c1_ c2_ c3_ T3.heap n0 Zs3 Vq3) rfl (W := 1) (by decide) (by decide) (by decide) (by decide) (pc := 45) (ls := #[rv s_, rv a, iv 0, iv 4, .val .null, rv b3]) (stk := [(.int 4), (.ref b3), (.ref s_)]) (by rw [hml]; rfl) (argsL := [(.ref b3), (.int 4)]) (rest := [(.ref s_)]) (lenOf pd3 rfl) rfl rfl (Nat.le_of_eq rfl) (hb hby d2_45)
  obtain ⟨rfl, Nq9, e9⟩ := hQ9
  have N9 := Fr.app N3 Nq9
  refine os st9 ?_
  show OG p e below Φ T9 m 48 #[rv s_, rv a, iv 0, iv 4, .val .null, rv b3] [(.int 1), (.ref s_)]
  obtain ⟨T10, h10, X10, e10, W10, st10⟩ := putF X9 hx hZ hown (host := "") (Or.inl (ow28 hw)) Via.refl e9 F6 F4 (Or.inr ⟨(ow29 hw), rfl, hnm⟩) (ow5 hw) (ty := .byte) (by decide) (by decide) (by decide) (g := (mkF m 48 #[rv s_, rv a, iv 0, iv 4, .val .null, rv b3] [(.int 1), (.ref s_)])) rfl rfl (hb hby d2_48)
  have F11 := F4.wr W10
  have F12 := F5.other W10 (Or.inr (slot_ne (Or.inr (ow31 hw)) (Or.inr (ow29 hw)) (by decide) (t := (.array .byte)) (t' := .byte) (by decide) (by decide)))
  have F13 := F6.same W10
  have F14 := F7.other W10 (Ne.symm nsa)
  have F15 := F8.wr W10 g_s
  have F16 := Vq3.other W10 (Ne.symm nq3_s_)
  have K10 := K3.wr W10 (Or.inl (List.mem_of_getElem? (i := 0) rfl))
  have N10 := Fr.snoc X10 N9 g_s
  have Zs10 : n0 ≤ h10.size := by rw [W10.size]; exact Zs3
  refine os st10 ?_
  show OG p e below Φ T10 m 51 #[rv s_, rv a, iv 0, iv 4, .val .null, rv b3] []
  refine os (fun _ z => XS.aloadN X10.here hx rfl (hb hby d2_51) rfl rfl z) ?_
  refine os (fun _ z => XS.aload X10.here hx rfl (hb hby d2_52) rfl rfl z) ?_
  show OG p e below Φ T10 m 54 #[rv s_, rv a, iv 0, iv 4, .val .null, rv b3] [(.ref b3), (.ref s_)]
  obtain ⟨T17, h17, X17, e17, W17, st17⟩ := putF X10 hx hZ hown (host := "") (Or.inl (ow30 hw)) Via.refl e10 F12 F11 (Or.inr ⟨(ow31 hw), rfl, hnm⟩) (ow5 hw) (ty := (.array .byte)) (by decide) rfl rfl (g := (mkF m 54 #[rv s_, rv a, iv 0, iv 4, .val .null, rv b3] [(.ref b3), (.ref s_)])) rfl rfl (hb hby d2_54)
  have F18 := F11.wr W17
  have F19 := F12.same W17
  have F20 := F13.other W17 (Or.inr (slot_ne (Or.inr (ow29 hw)) (Or.inr (ow31 hw)) (by decide) (t := .byte) (t' := (.array .byte)) (by decide) (by decide)))
  have F21 := F14.other W17 (Ne.symm nsa)
  have F22 := F15.wr W17 g_s
  have F23 := F16.other W17 (Ne.symm nq3_s_)
  have K17 := K10.wr W17 (Or.inl (List.mem_of_getElem? (i := 0) rfl))
  have N17 := Fr.snoc X17 N10 g_s
  have Zs17 : n0 ≤ h17.size := by rw [W17.size]; exact Zs10
  refine os st17 ?_
  show OG p e below Φ T17 m 57 #[rv s_, rv a, iv 0, iv 4, .val .null, rv b3] []
  refine OGo.fin X17 hlk (v := none) (fun _ => rfl) (by decide) (by decide) (fun fs hr => X17.returnOut hx hret (hb hby d2_57) hr) fun U eU hF => hΦ _ _ _ ?_ hF
  rw [eU, e17]
  show Q_rsb4_2i4 Z s_ a ca qc c0_ c1_ c2_ c3_ h0 n0 _ _ _
  exact ⟨rfl, N17, K17, F18, _, _, F19, F20, F23, sq3⟩

theorem ef_rsb4_2i1 (m : MethodId) (x0 : Addr) (x1 : Addr) : entryFrame m #[(.ref x0), (.ref x1)] 2 = mkF m 0 #[.val (.ref x0), .val (.ref x1)] [] := by first | (simp [entryFrame, mkF, argsToLocals, Value.category]; done) | rfl
def Q_rsb4_2i1 (Z : State) (s_ : Addr) (a : Addr) (ca : ClassId) (qc : Int32) (c0_ : Int32) (c1_ : Int32) (c2_ : Int32) (c3_ : Int32) (h0 : Heap) (n0 : Nat) (v : Option Value) (h : Heap) (L : List Loc) : Prop := v = none ∧ Fr n0 L ∧ Keep h0 h [s_] ∧ Exa Z h s_ "java/lang/String" ∧ ∃ b cb, Fld Z h s_ "java/lang/String" "value" "[B" (.ref b) ∧ Fld Z h s_ "java/lang/String" "coder" "B" (.int (1 : Int32)) ∧ Arv Z h b cb .byte (8 : Int32) [(.int (ohb c0_)), (.int (olb c0_)), (.int (ohb c1_)), (.int (olb c1_)), (.int (ohb c2_)), (.int (olb c2_)), (.int (ohb c3_)), (.int (olb c3_))] (.int (0 : Int32)) ∧ h0.size ≤ b
set_option maxRecDepth 65536 in
set_option maxHeartbeats 40000000 in
theorem rsb4_2i1 (l : Launch) (Z : State) (a0 : Array Value) (hw : ∀ d ∈ tables_1, d.before a0 Z = true) (ws : List Jvm.Cond) (s_ : Addr) (a : Addr) (ca : ClassId) (qc : Int32) (c0_ : Int32) (c1_ : Int32) (c2_ : Int32) (c3_ : Int32) (h0 : Heap) (n0 : Nat) (Z0 : n0 ≤ h0.size) (E_s : Exa Z h0 s_ "java/lang/String") (g_s : n0 ≤ s_) (F_v : Fld Z h0 s_ "java/lang/String" "value" "[B" .null) (F_c : Fld Z h0 s_ "java/lang/String" "coder" "B" (.int (0 : Int32))) (V_a : Arv Z h0 a ca .char (4 : Int32) [(.int c0_), (.int c1_), (.int c2_), (.int c3_)] (.int (0 : Int32))) (nsa : s_ ≠ a) (S_cs : Sta Z Z.heap "java/lang/String" "COMPACT_STRINGS" "Z" (.int qc)) (hq : ¬ qc = 0) (O_0 : Old Z n0 h0) (S_ad : Sta Z Z.heap "java/lang/StringUTF16" "$assertionsDisabled" "Z" (.int (1 : Int32))) (S_hb : Sta Z Z.heap "java/lang/StringUTF16" "HI_BYTE_SHIFT" "I" (.int (0 : Int32))) (S_lb : Sta Z Z.heap "java/lang/StringUTF16" "LO_BYTE_SHIFT" "I" (.int (8 : Int32))) (hl0 : ¬ (255 : Int32) < c0_) (hl1 : ¬ (255 : Int32) < c1_) (hb2 : (255 : Int32) < c2_) (hr2 : nar .char c2_ = c2_) :
    OCon l Z (⟨"java/lang/String", "<init>", "([C)V"⟩ : MethodName) jdk_42_method_3_code 2 none ws ({ frames := 5, cells := 2, slots := 12, locals := 74 } : Room) #[(.ref s_), (.ref a)] h0 (Q_rsb4_2i1 Z s_ a ca qc c0_ c1_ c2_ c3_ h0 n0) := by
  refine OCon.of (plainFor_of_name pn0) ?_
  intro p e s m below meth c s₁ Φ X0 hx hby hml hown hnm hret hlk hZ e0 hΦ
  have N0 := Fr.nil n0
  refine os (fun _ z => castTop (ef_rsb4_2i1 m s_ a) z) ?_
  have K0 := Keep.refl h0 [s_]
  show OG p e below Φ s₁ m 0 #[rv s_, rv a] []
  refine os (fun _ z => XS.aloadN X0.here hx rfl (hb hby d1_0) rfl rfl z) ?_
  refine os (fun _ z => XS.aloadN X0.here hx rfl (hb hby d1_1) rfl rfl z) ?_
  show OG p e below Φ s₁ m 2 #[rv s_, rv a] [(.ref a), (.ref s_)]
  refine os (fun _ z => XS.iconst X0.here hx rfl (hb hby d1_2) z) ?_
  refine os (fun _ z => XS.aloadN X0.here hx rfl (hb hby d1_3) rfl rfl z) ?_
  show OG p e below Φ s₁ m 4 #[rv s_, rv a] [(.ref a), (.int 0), (.ref a), (.ref s_)]
  obtain ⟨cl1, Aq1, -, S1, M1, -, -⟩ := id V_a
  refine os (fun _ z => X0.arraylength hx (by rw [e0]; exact Aq1.1) (oia hZ Aq1.2.1) (g := (mkF m 4 #[rv s_, rv a] [(.ref a), (.int 0), (.ref a), (.ref s_)])) rfl rfl (hb hby d1_4) _ z) ?_
  rw [len_of S1 M1]
  show OG p e below Φ s₁ m 5 #[rv s_, rv a] [(.int 4), (.int 0), (.ref a), (.ref s_)]
  refine os (fun _ z => XS.aconstNull X0.here hx rfl (hb hby d1_5) z) ?_
  obtain ⟨_, T2, L2, X2, hQ2, st2⟩ := own_callSp X0 hx hZ rfl hown (ow10 hw) (ow11 hw) (ow6 hw) (ow13 hw) (by decide) (rsb4_2i4 l Z a0 hw [] s_ a ca qc c0_ c1_ c2_ c3_ h0 n0 Z0 E_s g_s F_v F_c V_a nsa S_cs hq O_0 S_ad S_hb S_lb hl0 hl1 hb2 hr2) e0 (W := 0) (by decide) (by decide) (by decide) (by decide) (pc := 6) (ls := #[rv s_, rv a]) (stk := [.null, (.int 4), (.int 0), (.ref a), (.ref s_)]) (by rw [hml]; rfl) (a := s_) (argsL := [(.ref a), (.int 0), (.int 4), .null]) (rest := []) (lenOf pd0 rfl) rfl rfl (Nat.le_of_eq rfl) (hb hby d1_6)
  obtain ⟨rfl, Nq2, Kq2, Eq2, b2, cb2, Fv2, Fc2, Vq2, hz2⟩ := hQ2
  have nq2_a : a ≠ b2 := Nat.ne_of_lt (Nat.lt_of_lt_of_le V_a.lt hz2)
  have nq2_s_ : s_ ≠ b2 := Nat.ne_of_lt (Nat.lt_of_lt_of_le E_s.lt hz2)
  have gq2 : n0 ≤ b2 := Nat.le_trans Z0 hz2
  have sq2 : h0.size ≤ b2 := Nat.le_trans K0.1 hz2
  have N2 := Fr.app N0 Nq2
  have Zs2 : n0 ≤ T2.heap.size := Nat.le_trans Z0 Kq2.1
  have F3 := V_a.keep Kq2 (ninS (Ne.symm nsa) nin0)
  have F4 := O_0.keep Kq2 (allS g_s all0)
  have K2 := K0.trans Kq2 (allS (Or.inl (List.mem_of_getElem? (i := 0) rfl)) all0)
  refine os st2 ?_
  show OG p e below Φ T2 m 9 #[rv s_, rv a] []
  refine OGo.fin X2 hlk (v := none) (fun _ => rfl) (by decide) (by decide) (fun fs hr => X2.returnOut hx hret (hb hby d1_9) hr) fun U eU hF => hΦ _ _ _ ?_ hF
  rw [eU]
  show Q_rsb4_2i1 Z s_ a ca qc c0_ c1_ c2_ c3_ h0 n0 _ _ _
  exact ⟨rfl, N2, K2, Eq2, _, _, Fv2, Fc2, Vq2, sq2⟩

theorem ef_rsb4_3c2 (m : MethodId) (x0 : Addr) (x1 : Int32) (x2 : Addr) (x3 : Int32) (x4 : Int32) : entryFrame m #[(.ref x0), (.int x1), (.ref x2), (.int x3), (.int x4)] 7 = mkF m 0 #[.val (.ref x0), .val (.int x1), .val (.ref x2), .val (.int x3), .val (.int x4), .unset, .unset] [] := by first | (simp [entryFrame, mkF, argsToLocals, Value.category]; done) | rfl
def Q_rsb4_3c2 (Z : State) (a : Addr) (ca : ClassId) (b : Addr) (cb : ClassId) (c0_ : Int32) (c1_ : Int32) (c2_ : Int32) (c3_ : Int32) (h0 : Heap) (n0 : Nat) (v : Option Value) (h : Heap) (L : List Loc) : Prop := v = some (.int (3 : Int32)) ∧ Fr n0 L ∧ Keep h0 h [b]
set_option maxRecDepth 65536 in
set_option maxHeartbeats 40000000 in
theorem rsb4_3c2 (l : Launch) (Z : State) (a0 : Array Value) (hw : ∀ d ∈ tables_1, d.before a0 Z = true) (ws : List Jvm.Cond) (a : Addr) (ca : ClassId) (b : Addr) (cb : ClassId) (c0_ : Int32) (c1_ : Int32) (c2_ : Int32) (c3_ : Int32) (h0 : Heap) (n0 : Nat) (Z0 : n0 ≤ h0.size) (V_a : Arv Z h0 a ca .char (4 : Int32) [(.int c0_), (.int c1_), (.int c2_), (.int c3_)] (.int (0 : Int32))) (V_b : Arv Z h0 b cb .byte (4 : Int32) [(.int (0 : Int32)), (.int (0 : Int32)), (.int (0 : Int32)), (.int (0 : Int32))] (.int (0 : Int32))) (nab : a ≠ b) (g_b : n0 ≤ b) (hl0 : ¬ (255 : Int32) < c0_) (hl1 : ¬ (255 : Int32) < c1_) (hl2 : ¬ (255 : Int32) < c2_) (hb3 : (255 : Int32) < c3_) :
    OCon l Z (⟨"java/lang/StringUTF16", "compress", "([CI[BII)I"⟩ : MethodName) jdk_52_method_21_code 7 (some .int) ws ({ frames := 0, cells := 0, slots := 0, locals := 0 } : Room) #[(.ref a), (.int (0 : Int32)), (.ref b), (.int (0 : Int32)), (.int (4 : Int32))] h0 (Q_rsb4_3c2 Z a ca b cb c0_ c1_ c2_ c3_ h0 n0) := by
  refine OCon.of (plainFor_of_name pn1) ?_
  intro p e s m below meth c s₁ Φ X0 hx hby hml hown hnm hret hlk hZ e0 hΦ
  have N0 := Fr.nil n0
  refine os (fun _ z => castTop (ef_rsb4_3c2 m a (0 : Int32) b (0 : Int32) (4 : Int32)) z) ?_
  have K0 := Keep.refl h0 [b]
  show OG p e below Φ s₁ m 0 #[rv a, iv 0, rv b, iv 0, iv 4, .unset, .unset] []
  refine os (fun _ z => XS.iconst X0.here hx rfl (hb hby d5_0) z) ?_
  refine os (fun _ z => XS.istore X0.here hx rfl (hb hby d5_1) rfl (l' := #[rv a, iv 0, rv b, iv 0, iv 4, iv 0, .unset]) rfl z) ?_
  show OG p e below Φ s₁ m 3 #[rv a, iv 0, rv b, iv 0, iv 4, iv 0, .unset] []
  refine os (fun _ z => XS.iload X0.here hx rfl (hb hby d5_3) rfl z) ?_
  refine os (fun _ z => XS.iload X0.here hx rfl (hb hby d5_5) rfl z) ?_
  show OG p e below Φ s₁ m 7 #[rv a, iv 0, rv b, iv 0, iv 4, iv 0, .unset] [(.int 4), (.int 0)]
  refine os (fun _ z => XS.icmpNo X0.here hx rfl (hb hby d5_7) rfl (XT.ii_ge_f (by decide)) z) ?_
  show OG p e below Φ s₁ m 10 #[rv a, iv 0, rv b, iv 0, iv 4, iv 0, .unset] []
  refine os (fun _ z => XS.aloadN X0.here hx rfl (hb hby d5_10) rfl rfl z) ?_
  refine os (fun _ z => XS.iloadN X0.here hx rfl (hb hby d5_11) rfl z) ?_
  show OG p e below Φ s₁ m 12 #[rv a, iv 0, rv b, iv 0, iv 4, iv 0, .unset] [(.int 0), (.ref a)]
  obtain ⟨cl1, Aq1, -, S1, M1, H1, -⟩ := id V_a
  have in1 : ¬ ((0 : Int32) < 0 ∨ cl1.slots.size ≤ (0 : Int32).toNatClampNeg) := inb_of S1 ⟨by decide, by decide⟩
  have at1 : cl1.slots[(0 : Int32).toNatClampNeg]? = some (.int c0_) := H1.at in1 rfl
  refine os (fun _ z => X0.caload hx (by rw [e0]; exact Aq1.1) (oia hZ Aq1.2.1) Aq1.2.2 in1 at1 (g := (mkF m 12 #[rv a, iv 0, rv b, iv 0, iv 4, iv 0, .unset] [(.int 0), (.ref a)])) rfl rfl (hb hby d5_12) _ z) ?_
  show OG p e below Φ s₁ m 13 #[rv a, iv 0, rv b, iv 0, iv 4, iv 0, .unset] [(.int c0_)]
  refine os (fun _ z => XS.istore X0.here hx rfl (hb hby d5_13) rfl (l' := #[rv a, iv 0, rv b, iv 0, iv 4, iv 0, iv c0_]) rfl z) ?_
  show OG p e below Φ s₁ m 15 #[rv a, iv 0, rv b, iv 0, iv 4, iv 0, iv c0_] []
  refine os (fun _ z => XS.iload X0.here hx rfl (hb hby d5_15) rfl z) ?_
  refine os (fun _ z => XS.sipush X0.here hx rfl (hb hby d5_17) z) ?_
  show OG p e below Φ s₁ m 20 #[rv a, iv 0, rv b, iv 0, iv 4, iv 0, iv c0_] [(.int 255), (.int c0_)]
  refine os (fun _ z => XS.icmpYes X0.here hx rfl (pc0 := 20) (pc' := 26) rfl (hb hby d5_20) rfl (XT.ii_le_t hl0) (by decide) (by decide) z) ?_
  show OG p e below Φ s₁ m 26 #[rv a, iv 0, rv b, iv 0, iv 4, iv 0, iv c0_] []
  refine os (fun _ z => XS.aloadN X0.here hx rfl (hb hby d5_26) rfl rfl z) ?_
  refine os (fun _ z => XS.iloadN X0.here hx rfl (hb hby d5_27) rfl z) ?_
  show OG p e below Φ s₁ m 28 #[rv a, iv 0, rv b, iv 0, iv 4, iv 0, iv c0_] [(.int 0), (.ref b)]
  refine os (fun _ z => XS.iload X0.here hx rfl (hb hby d5_28) rfl z) ?_
  refine os (fun _ z => XT.i2b X0.here hx rfl (hb hby d5_30) rfl z) ?_
  show OG p e below Φ s₁ m 31 #[rv a, iv 0, rv b, iv 0, iv 4, iv 0, iv c0_] [(.int (c0_.toInt8.toInt32)), (.int 0), (.ref b)]
  obtain ⟨cl2, Aq2, Cq2, S2, M2, H2, G2⟩ := id V_b
  have in2 : ¬ ((0 : Int32) < 0 ∨ cl2.slots.size ≤ (0 : Int32).toNatClampNeg) := inb_of S2 ⟨by decide, by decide⟩
  obtain ⟨T2, h2, X2, e2, W2, st2⟩ := stB X0 hx hZ e0 Aq2 in2 (g := (mkF m 31 #[rv a, iv 0, rv b, iv 0, iv 4, iv 0, iv c0_] [(.int (c0_.toInt8.toInt32)), (.int 0), (.ref b)])) rfl rfl (hb hby d5_31)
  have W2 : Wr h0 h2 b (0 : Int32).toNatClampNeg (.int (nar .byte (c0_.toInt8.toInt32))) := W2
  have F3 := V_a.other W2 nab
  have V2 : Arv Z h2 b cb .byte (4 : Int32) [(.int (nar .byte (c0_.toInt8.toInt32))), (.int (0 : Int32)), (.int (0 : Int32)), (.int (0 : Int32))] (.int (0 : Int32)) := Arv.set Aq2 Cq2 S2 M2 H2 G2 (fits_nar_byte _) W2 0 (by decide) (by show 0 < 4; decide)
  have K2 := K0.wr W2 (Or.inl (List.mem_of_getElem? (i := 0) rfl))
  have N2 := Fr.snoc X2 N0 g_b
  have Zs2 : n0 ≤ h2.size := by rw [W2.size]; exact Z0
  refine os st2 ?_
  show OG p e below Φ T2 m 32 #[rv a, iv 0, rv b, iv 0, iv 4, iv 0, iv c0_] []
  refine os (fun _ z => XS.iinc X2.here hx rfl (hb hby d5_32) rfl (l' := #[rv a, iv ((0 : Int32) + (1 : Int32)), rv b, iv 0, iv 4, iv 0, iv c0_]) rfl z) ?_
  show OG p e below Φ T2 m 35 #[rv a, iv 1, rv b, iv 0, iv 4, iv 0, iv c0_] []
  refine os (fun _ z => XS.iinc X2.here hx rfl (hb hby d5_35) rfl (l' := #[rv a, iv 1, rv b, iv ((0 : Int32) + (1 : Int32)), iv 4, iv 0, iv c0_]) rfl z) ?_
  show OG p e below Φ T2 m 38 #[rv a, iv 1, rv b, iv 1, iv 4, iv 0, iv c0_] []
  refine os (fun _ z => XS.iinc X2.here hx rfl (hb hby d5_38) rfl (l' := #[rv a, iv 1, rv b, iv 1, iv 4, iv ((0 : Int32) + (1 : Int32)), iv c0_]) rfl z) ?_
  show OG p e below Φ T2 m 41 #[rv a, iv 1, rv b, iv 1, iv 4, iv 1, iv c0_] []
  refine os (fun _ z => XS.goto X2.here hx rfl (pc0 := 41) (pc' := 3) rfl (hb hby d5_41) (by decide) (by decide) z) ?_
  show OG p e below Φ T2 m 3 #[rv a, iv 1, rv b, iv 1, iv 4, iv 1, iv c0_] []
  refine os (fun _ z => XS.iload X2.here hx rfl (hb hby d5_3) rfl z) ?_
  refine os (fun _ z => XS.iload X2.here hx rfl (hb hby d5_5) rfl z) ?_
  show OG p e below Φ T2 m 7 #[rv a, iv 1, rv b, iv 1, iv 4, iv 1, iv c0_] [(.int 4), (.int 1)]
  refine os (fun _ z => XS.icmpNo X2.here hx rfl (hb hby d5_7) rfl (XT.ii_ge_f (by decide)) z) ?_
  show OG p e below Φ T2 m 10 #[rv a, iv 1, rv b, iv 1, iv 4, iv 1, iv c0_] []
  refine os (fun _ z => XS.aloadN X2.here hx rfl (hb hby d5_10) rfl rfl z) ?_
  refine os (fun _ z => XS.iloadN X2.here hx rfl (hb hby d5_11) rfl z) ?_
  show OG p e below Φ T2 m 12 #[rv a, iv 1, rv b, iv 1, iv 4, iv 1, iv c0_] [(.int 1), (.ref a)]
  obtain ⟨cl4, Aq4, -, S4, M4, H4, -⟩ := id F3
  have in4 : ¬ ((1 : Int32) < 0 ∨ cl4.slots.size ≤ (1 : Int32).toNatClampNeg) := inb_of S4 ⟨by decide, by decide⟩
  have at4 : cl4.slots[(1 : Int32).toNatClampNeg]? = some (.int c1_) := H4.at in4 rfl
  refine os (fun _ z => X2.caload hx (by rw [e2]; exact Aq4.1) (oia hZ Aq4.2.1) Aq4.2.2 in4 at4 (g := (mkF m 12 #[rv a, iv 1, rv b, iv 1, iv 4, iv 1, iv c0_] [(.int 1), (.ref a)])) rfl rfl (hb hby d5_12) _ z) ?_
  show OG p e below Φ T2 m 13 #[rv a, iv 1, rv b, iv 1, iv 4, iv 1, iv c0_] [(.int c1_)]
  refine os (fun _ z => XS.istore X2.here hx rfl (hb hby d5_13) rfl (l' := #[rv a, iv 1, rv b, iv 1, iv 4, iv 1, iv c1_]) rfl z) ?_
  show OG p e below Φ T2 m 15 #[rv a, iv 1, rv b, iv 1, iv 4, iv 1, iv c1_] []
  refine os (fun _ z => XS.iload X2.here hx rfl (hb hby d5_15) rfl z) ?_
  refine os (fun _ z => XS.sipush X2.here hx rfl (hb hby d5_17) z) ?_
  show OG p e below Φ T2 m 20 #[rv a, iv 1, rv b, iv 1, iv 4, iv 1, iv c1_] [(.int 255), (.int c1_)]
  refine os (fun _ z => XS.icmpYes X2.here hx rfl (pc0 := 20) (pc' := 26) rfl (hb hby d5_20) rfl (XT.ii_le_t hl1) (by decide) (by decide) z) ?_
  show OG p e below Φ T2 m 26 #[rv a, iv 1, rv b, iv 1, iv 4, iv 1, iv c1_] []
  refine os (fun _ z => XS.aloadN X2.here hx rfl (hb hby d5_26) rfl rfl z) ?_
  refine os (fun _ z => XS.iloadN X2.here hx rfl (hb hby d5_27) rfl z) ?_
  show OG p e below Φ T2 m 28 #[rv a, iv 1, rv b, iv 1, iv 4, iv 1, iv c1_] [(.int 1), (.ref b)]
  refine os (fun _ z => XS.iload X2.here hx rfl (hb hby d5_28) rfl z) ?_
  refine os (fun _ z => XT.i2b X2.here hx rfl (hb hby d5_30) rfl z) ?_
  show OG p e below Φ T2 m 31 #[rv a, iv 1, rv b, iv 1, iv 4, iv 1, iv c1_] [(.int (c1_.toInt8.toInt32)), (.int 1), (.ref b)]
  obtain ⟨cl5, Aq5, Cq5, S5, M5, H5, G5⟩ := id V2
  have in5 : ¬ ((1 : Int32) < 0 ∨ cl5.slots.size ≤ (1 : Int32).toNatClampNeg) := inb_of S5 ⟨by decide, by decide⟩
  obtain ⟨T5, h5, X5, e5, W5, st5⟩ := stB X2 hx hZ e2 Aq5 in5 (g := (mkF m 31 #[rv a, iv 1, rv b, iv 1, iv 4, iv 1, iv c1_] [(.int (c1_.toInt8.toInt32)), (.int 1), (.ref b)])) rfl rfl (hb hby d5_31)
  have W5 : Wr h2 h5 b (1 : Int32).toNatClampNeg (.int (nar .byte (c1_.toInt8.toInt32))) := W5
  have F6 := F3.other W5 nab
  have V5 : Arv Z h5 b cb .byte (4 : Int32) [(.int (nar .byte (c0_.toInt8.toInt32))), (.int (nar .byte (c1_.toInt8.toInt32))), (.int (0 : Int32)), (.int (0 : Int32))] (.int (0 : Int32)) := Arv.set Aq5 Cq5 S5 M5 H5 G5 (fits_nar_byte _) W5 1 (by decide) (by show 1 < 4; decide)
  have K5 := K2.wr W5 (Or.inl (List.mem_of_getElem? (i := 0) rfl))
  have N5 := Fr.snoc X5 N2 g_b
  have Zs5 : n0 ≤ h5.size := by rw [W5.size]; exact Zs2
  refine os st5 ?_
  show OG p e below Φ T5 m 32 #[rv a, iv 1, rv b, iv 1, iv 4, iv 1, iv c1_] []
  refine os (fun _ z => XS.iinc X5.here hx rfl (hb hby d5_32) rfl (l' := #[rv a, iv ((1 : Int32) + (1 : Int32)), rv b, iv 1, iv 4, iv 1, iv c1_]) rfl z) ?_
  show OG p e below Φ T5 m 35 #[rv a, iv 2, rv b, iv 1, iv 4, iv 1, iv c1_] []
  refine os (fun _ z => XS.iinc X5.here hx rfl (hb hby d5_35) rfl (l' := #[rv a, iv 2, rv b, iv ((1 : Int32) + (1 : Int32)), iv 4, iv 1, iv c1_]) rfl z) ?_
  show OG p e below Φ T5 m 38 #[rv a, iv 2, rv b, iv 2, iv 4, iv 1, iv c1_] []
  refine os (fun _ z => XS.iinc X5.here hx rfl (hb hby d5_38) rfl (l' := #[rv a, iv 2, rv b, iv 2, iv 4, iv ((1 : Int32) + (1 : Int32)), iv c1_]) rfl z) ?_
  show OG p e below Φ T5 m 41 #[rv a, iv 2, rv b, iv 2, iv 4, iv 2, iv c1_] []
  refine os (fun _ z => XS.goto X5.here hx rfl (pc0 := 41) (pc' := 3) rfl (hb hby d5_41) (by decide) (by decide) z) ?_
  show OG p e below Φ T5 m 3 #[rv a, iv 2, rv b, iv 2, iv 4, iv 2, iv c1_] []
  refine os (fun _ z => XS.iload X5.here hx rfl (hb hby d5_3) rfl z) ?_
  refine os (fun _ z => XS.iload X5.here hx rfl (hb hby d5_5) rfl z) ?_
  show OG p e below Φ T5 m 7 #[rv a, iv 2, rv b, iv 2, iv 4, iv 2, iv c1_] [(.int 4), (.int 2)]
  refine os (fun _ z => XS.icmpNo X5.here hx rfl (hb hby d5_7) rfl (XT.ii_ge_f (by decide)) z) ?_
  show OG p e below Φ T5 m 10 #[rv a, iv 2, rv b, iv 2, iv 4, iv 2, iv c1_] []
  refine os (fun _ z => XS.aloadN X5.here hx rfl (hb hby d5_10) rfl rfl z) ?_
  refine os (fun _ z => XS.iloadN X5.here hx rfl (hb hby d5_11) rfl z) ?_
  show OG p e below Φ T5 m 12 #[rv a, iv 2, rv b, iv 2, iv 4, iv 2, iv c1_] [(.int 2), (.ref a)]
  obtain ⟨cl7, Aq7, -, S7, M7, H7, -⟩ := id F6
  have in7 : ¬ ((2 : Int32) < 0 ∨ cl7.slots.size ≤ (2 : Int32).toNatClampNeg) := inb_of S7 ⟨by decide, by decide⟩
  have at7 : cl7.slots[(2 : Int32).toNatClampNeg]? = some (.int c2_) := H7.at in7 rfl
  refine os (fun _ z => X5.caload hx (by rw [e5]; exact Aq7.1) (oia hZ Aq7.2.1) Aq7.2.2 in7 at7 (g := (mkF m 12 #[rv a, iv 2, rv b, iv 2, iv 4, iv 2, iv c1_] [(.int 2), (.ref a)])) rfl rfl (hb hby d5_12) _ z) ?_
  show OG p e below Φ T5 m 13 #[rv a, iv 2, rv b, iv 2, iv 4, iv 2, iv c1_] [(.int c2_)]
  refine os (fun _ z => XS.istore X5.here hx rfl (hb hby d5_13) rfl (l' := #[rv a, iv 2, rv b, iv 2, iv 4, iv 2, iv c2_]) rfl z) ?_
  show OG p e below Φ T5 m 15 #[rv a, iv 2, rv b, iv 2, iv 4, iv 2, iv c2_] []
  refine os (fun _ z => XS.iload X5.here hx rfl (hb hby d5_15) rfl z) ?_
  refine os (fun _ z => XS.sipush X5.here hx rfl (hb hby d5_17) z) ?_
  show OG p e below Φ T5 m 20 #[rv a, iv 2, rv b, iv 2, iv 4, iv 2, iv c2_] [(.int 255), (.int c2_)]
  refine os (fun _ z => XS.icmpYes X5.here hx rfl (pc0 := 20) (pc' := 26) rfl (hb hby d5_20) rfl (XT.ii_le_t hl2) (by decide) (by decide) z) ?_
  show OG p e below Φ T5 m 26 #[rv a, iv 2, rv b, iv 2, iv 4, iv 2, iv c2_] []
  refine os (fun _ z => XS.aloadN X5.here hx rfl (hb hby d5_26) rfl rfl z) ?_
  refine os (fun _ z => XS.iloadN X5.here hx rfl (hb hby d5_27) rfl z) ?_
  show OG p e below Φ T5 m 28 #[rv a, iv 2, rv b, iv 2, iv 4, iv 2, iv c2_] [(.int 2), (.ref b)]
  refine os (fun _ z => XS.iload X5.here hx rfl (hb hby d5_28) rfl z) ?_
  refine os (fun _ z => XT.i2b X5.here hx rfl (hb hby d5_30) rfl z) ?_
  show OG p e below Φ T5 m 31 #[rv a, iv 2, rv b, iv 2, iv 4, iv 2, iv c2_] [(.int (c2_.toInt8.toInt32)), (.int 2), (.ref b)]
  obtain ⟨cl8, Aq8, Cq8, S8, M8, H8, G8⟩ := id V5
  have in8 : ¬ ((2 : Int32) < 0 ∨ cl8.slots.size ≤ (2 : Int32).toNatClampNeg) := inb_of S8 ⟨by decide, by decide⟩
  obtain ⟨T8, h8, X8, e8, W8, st8⟩ := stB X5 hx hZ e5 Aq8 in8 (g := (mkF m 31 #[rv a, iv 2, rv b, iv 2, iv 4, iv 2, iv c2_] [(.int (c2_.toInt8.toInt32)), (.int 2), (.ref b)])) rfl rfl (hb hby d5_31)
  have W8 : Wr h5 h8 b (2 : Int32).toNatClampNeg (.int (nar .byte (c2_.toInt8.toInt32))) := W8
  have F9 := F6.other W8 nab
  have V8 : Arv Z h8 b cb .byte (4 : Int32) [(.int (nar .byte (c0_.toInt8.toInt32))), (.int (nar .byte (c1_.toInt8.toInt32))), (.int (nar .byte (c2_.toInt8.toInt32))), (.int (0 : Int32))] (.int (0 : Int32)) := Arv.set Aq8 Cq8 S8 M8 H8 G8 (fits_nar_byte _) W8 2 (by decide) (by show 2 < 4; decide)
  have K8 := K5.wr W8 (Or.inl (List.mem_of_getElem? (i := 0) rfl))
  have N8 := Fr.snoc X8 N5 g_b
  have Zs8 : n0 ≤ h8.size := by rw [W8.size]; exact Zs5
  refine os st8 ?_
  show OG p e below Φ T8 m 32 #[rv a, iv 2, rv b, iv 2, iv 4, iv 2, iv c2_] []
  refine os (fun _ z => XS.iinc X8.here hx rfl (hb hby d5_32) rfl (l' := #[rv a, iv ((2 : Int32) + (1 : Int32)), rv b, iv 2, iv 4, iv 2, iv c2_]) rfl z) ?_
  show OG p e below Φ T8 m 35 #[rv a, iv 3, rv b, iv 2, iv 4, iv 2, iv c2_] []
  refine os (fun _ z => XS.iinc X8.here hx rfl (hb hby d5_35) rfl (l' := #[rv a, iv 3, rv b, iv ((2 : Int32) + (1 : Int32)), iv 4, iv 2, iv c2_]) rfl z) ?_
  show OG p e below Φ T8 m 38 #[rv a, iv 3, rv b, iv 3, iv 4, iv 2, iv c2_] []
  refine os (fun _ z => XS.iinc X8.here hx rfl (hb hby d5_38) rfl (l' := #[rv a, iv 3, rv b, iv 3, iv 4, iv ((2 : Int32) + (1 : Int32)), iv c2_]) rfl z) ?_
  show OG p e below Φ T8 m 41 #[rv a, iv 3, rv b, iv 3, iv 4, iv 3, iv c2_] []
  refine os (fun _ z => XS.goto X8.here hx rfl (pc0 := 41) (pc' := 3) rfl (hb hby d5_41) (by decide) (by decide) z) ?_
  show OG p e below Φ T8 m 3 #[rv a, iv 3, rv b, iv 3, iv 4, iv 3, iv c2_] []
  refine os (fun _ z => XS.iload X8.here hx rfl (hb hby d5_3) rfl z) ?_
  refine os (fun _ z => XS.iload X8.here hx rfl (hb hby d5_5) rfl z) ?_
  show OG p e below Φ T8 m 7 #[rv a, iv 3, rv b, iv 3, iv 4, iv 3, iv c2_] [(.int 4), (.int 3)]
  refine os (fun _ z => XS.icmpNo X8.here hx rfl (hb hby d5_7) rfl (XT.ii_ge_f (by decide)) z) ?_
  show OG p e below Φ T8 m 10 #[rv a, iv 3, rv b, iv 3, iv 4, iv 3, iv c2_] []
  refine os (fun _ z => XS.aloadN X8.here hx rfl (hb hby d5_10) rfl rfl z) ?_
  refine os (fun _ z => XS.iloadN X8.here hx rfl (hb hby d5_11) rfl z) ?_
  show OG p e below Φ T8 m 12 #[rv a, iv 3, rv b, iv 3, iv 4, iv 3, iv c2_] [(.int 3), (.ref a)]
  obtain ⟨cl10, Aq10, -, S10, M10, H10, -⟩ := id F9
  have in10 : ¬ ((3 : Int32) < 0 ∨ cl10.slots.size ≤ (3 : Int32).toNatClampNeg) := inb_of S10 ⟨by decide, by decide⟩
  have at10 : cl10.slots[(3 : Int32).toNatClampNeg]? = some (.int c3_) := H10.at in10 rfl
  refine os (fun _ z => X8.caload hx (by rw [e8]; exact Aq10.1) (oia hZ Aq10.2.1) Aq10.2.2 in10 at10 (g := (mkF m 12 #[rv a, iv 3, rv b, iv 3, iv 4, iv 3, iv c2_] [(.int 3), (.ref a)])) rfl rfl (hb hby d5_12) _ z) ?_
  show OG p e below Φ T8 m 13 #[rv a, iv 3, rv b, iv 3, iv 4, iv 3, iv c2_] [(.int c3_)]
  refine os (fun _ z => XS.istore X8.here hx rfl (hb hby d5_13) rfl (l' := #[rv a, iv 3, rv b, iv 3, iv 4, iv 3, iv c3_]) rfl z) ?_
  show OG p e below Φ T8 m 15 #[rv a, iv 3, rv b, iv 3, iv 4, iv 3, iv c3_] []
  refine os (fun _ z => XS.iload X8.here hx rfl (hb hby d5_15) rfl z) ?_
  refine os (fun _ z => XS.sipush X8.here hx rfl (hb hby d5_17) z) ?_
  show OG p e below Φ T8 m 20 #[rv a, iv 3, rv b, iv 3, iv 4, iv 3, iv c3_] [(.int 255), (.int c3_)]
  refine os (fun _ z => XS.icmpNo X8.here hx rfl (hb hby d5_20) rfl (XT.ii_le_f hb3) z) ?_
  show OG p e below Φ T8 m 23 #[rv a, iv 3, rv b, iv 3, iv 4, iv 3, iv c3_] []
  refine os (fun _ z => XS.iload X8.here hx rfl (hb hby d5_23) rfl z) ?_
  refine OGo.fin X8 hlk (v := (some (.int 3))) (fun h => by rw [hret] at h; cases h) (by decide) (by decide) (fun fs hr => X8.ireturnOut hx hret rfl (by simp) (hb hby d5_25) hr) fun U eU hF => hΦ _ _ _ ?_ hF
  rw [eU, e8]
  show Q_rsb4_3c2 Z a ca b cb c0_ c1_ c2_ c3_ h0 n0 _ _ _
  exact ⟨rfl, N8, K8⟩

theorem ef_rsb4_3gc (m : MethodId) (x0 : Addr) (x1 : Int32) : entryFrame m #[(.ref x0), (.int x1)] 2 = mkF m 0 #[.val (.ref x0), .val (.int x1)] [] := by first | (simp [entryFrame, mkF, argsToLocals, Value.category]; done) | rfl
def Q_rsb4_3gc (Z : State) (b : Addr) (cb : ClassId) (c0_ : Int32) (c1_ : Int32) (c2_ : Int32) (c3_ : Int32) (h0 : Heap) (n0 : Nat) (v : Option Value) (h : Heap) (L : List Loc) : Prop := v = some (.int c3_) ∧ Fr n0 L ∧ h = h0
set_option maxRecDepth 65536 in
set_option maxHeartbeats 40000000 in
theorem rsb4_3gc (l : Launch) (Z : State) (a0 : Array Value) (hw : ∀ d ∈ tables_1, d.before a0 Z = true) (ws : List Jvm.Cond) (b : Addr) (cb : ClassId) (c0_ : Int32) (c1_ : Int32) (c2_ : Int32) (c3_ : Int32) (h0 : Heap) (n0 : Nat) (Z0 : n0 ≤ h0.size) (V_b : Arv Z h0 b cb .byte (8 : Int32) [(.int (ohb c0_)), (.int (olb c0_)), (.int (ohb c1_)), (.int (olb c1_)), (.int (ohb c2_)), (.int (olb c2_)), (.int (ohb c3_)), (.int (olb c3_))] (.int (0 : Int32))) (S_ad : Sta Z h0 "java/lang/StringUTF16" "$assertionsDisabled" "Z" (.int (1 : Int32))) (S_hb : Sta Z h0 "java/lang/StringUTF16" "HI_BYTE_SHIFT" "I" (.int (0 : Int32))) (S_lb : Sta Z h0 "java/lang/StringUTF16" "LO_BYTE_SHIFT" "I" (.int (8 : Int32))) (hr3 : nar .char c3_ = c3_) :
    OCon l Z (⟨"java/lang/StringUTF16", "getChar", "([BI)C"⟩ : MethodName) jdk_52_method_5_code 2 (some .char) ws ({ frames := 0, cells := 0, slots := 0, locals := 0 } : Room) #[(.ref b), (.int (3 : Int32))] h0 (Q_rsb4_3gc Z b cb c0_ c1_ c2_ c3_ h0 n0) := by
  refine OCon.of (plainFor_of_name pn1) ?_
  intro p e s m below meth c s₁ Φ X0 hx hby hml hown hnm hret hlk hZ e0 hΦ
  have N0 := Fr.nil n0
  refine os (fun _ z => castTop (ef_rsb4_3gc m b (3 : Int32)) z) ?_
  show OG p e below Φ s₁ m 0 #[rv b, iv 3] []
  obtain ⟨T1, X1, e1, st1⟩ := getS2 X0 hx hZ hown (host := "") (Or.inl (ow65 hw)) Via.refl e0 S_ad (g := (mkF m 0 #[rv b, iv 3] [])) rfl (hb hby d14_0)
  refine os st1 ?_
  show OG p e below Φ T1 m 3 #[rv b, iv 3] [(.int 1)]
  refine os (fun _ z => XS.ifYes X1.here hx rfl (pc0 := 3) (pc' := 28) rfl (hb hby d14_3) rfl (XT.i0_ne_t (by decide)) (by decide) (by decide) z) ?_
  show OG p e below Φ T1 m 28 #[rv b, iv 3] []
  refine os (fun _ z => XS.iloadN X1.here hx rfl (hb hby d14_28) rfl z) ?_
  refine os (fun _ z => XS.iconst X1.here hx rfl (hb hby d14_29) z) ?_
  show OG p e below Φ T1 m 30 #[rv b, iv 3] [(.int 1), (.int 3)]
  refine os (fun _ z => XT.ishl X1.here hx rfl (hb hby d14_30) rfl z) ?_
  show OG p e below Φ T1 m 31 #[rv b, iv 3] [(.int 6)]
  refine os (fun _ z => XS.istoreN X1.here hx rfl (hb hby d14_31) rfl (l' := #[rv b, iv 6]) rfl z) ?_
  show OG p e below Φ T1 m 32 #[rv b, iv 6] []
  refine os (fun _ z => XS.aloadN X1.here hx rfl (hb hby d14_32) rfl rfl z) ?_
  refine os (fun _ z => XS.iloadN X1.here hx rfl (hb hby d14_33) rfl z) ?_
  show OG p e below Φ T1 m 34 #[rv b, iv 6] [(.int 6), (.ref b)]
  refine os (fun _ z => XS.iinc X1.here hx rfl (hb hby d14_34) rfl (l' := #[rv b, iv ((6 : Int32) + (1 : Int32))]) rfl z) ?_
  show OG p e below Φ T1 m 37 #[rv b, iv 7] [(.int 6), (.ref b)]
  obtain ⟨cl2, Aq2, -, S2, M2, H2, -⟩ := id V_b
  have in2 : ¬ ((6 : Int32) < 0 ∨ cl2.slots.size ≤ (6 : Int32).toNatClampNeg) := inb_of S2 ⟨by decide, by decide⟩
  have at2 : cl2.slots[(6 : Int32).toNatClampNeg]? = some (.int (ohb c3_)) := H2.at in2 rfl
  refine os (fun _ z => X1.baloadBytes hx (by rw [e1]; exact Aq2.1) (oia hZ Aq2.2.1) Aq2.2.2 in2 at2 (g := (mkF m 37 #[rv b, iv 7] [(.int 6), (.ref b)])) rfl rfl (hb hby d14_37) _ z) ?_
  show OG p e below Φ T1 m 38 #[rv b, iv 7] [(.int (ohb c3_))]
  refine os (fun _ z => XS.sipush X1.here hx rfl (hb hby d14_38) z) ?_
  refine os (fun _ z => XS.iand X1.here hx rfl (hb hby d14_41) rfl z) ?_
  show OG p e below Φ T1 m 42 #[rv b, iv 7] [(.int ((ohb c3_) &&& (255 : Int32)))]
  obtain ⟨T3, X3, e3, st3⟩ := getS2 X1 hx hZ hown (host := "") (Or.inl (ow66 hw)) Via.refl e1 S_hb (g := (mkF m 42 #[rv b, iv 7] [(.int ((ohb c3_) &&& (255 : Int32)))])) rfl (hb hby d14_42)
  refine os st3 ?_
  show OG p e below Φ T3 m 45 #[rv b, iv 7] [(.int 0), (.int ((ohb c3_) &&& (255 : Int32)))]
  refine os (fun _ z => XT.ishl X3.here hx rfl (hb hby d14_45) rfl z) ?_
  show OG p e below Φ T3 m 46 #[rv b, iv 7] [(.int (((ohb c3_) &&& (255 : Int32)) <<< ((0 : Int32) &&& 31)))]
  refine os (fun _ z => XS.aloadN X3.here hx rfl (hb hby d14_46) rfl rfl z) ?_
  refine os (fun _ z => XS.iloadN X3.here hx rfl (hb hby d14_47) rfl z) ?_
  show OG p e below Φ T3 m 48 #[rv b, iv 7] [(.int 7), (.ref b), (.int (((ohb c3_) &&& (255 : Int32)) <<< ((0 : Int32) &&& 31)))]
  obtain ⟨cl4, Aq4, -, S4, M4, H4, -⟩ := id V_b
  have in4 : ¬ ((7 : Int32) < 0 ∨ cl4.slots.size ≤ (7 : Int32).toNatClampNeg) := inb_of S4 ⟨by decide, by decide⟩
  have at4 : cl4.slots[(7 : Int32).toNatClampNeg]? = some (.int (olb c3_)) := H4.at in4 rfl
  refine os (fun _ z => X3.baloadBytes hx (by rw [e3]; exact Aq4.1) (oia hZ Aq4.2.1) Aq4.2.2 in4 at4 (g := (mkF m 48 #[rv b, iv 7] [(.int 7), (.ref b), (.int (((ohb c3_) &&& (255 : Int32)) <<< ((0 : Int32) &&& 31)))])) rfl rfl (hb hby d14_48) _ z) ?_
  show OG p e below Φ T3 m 49 #[rv b, iv 7] [(.int (olb c3_)), (.int (((ohb c3_) &&& (255 : Int32)) <<< ((0 : Int32) &&& 31)))]
  refine os (fun _ z => XS.sipush X3.here hx rfl (hb hby d14_49) z) ?_
  refine os (fun _ z => XS.iand X3.here hx rfl (hb hby d14_52) rfl z) ?_
  show OG p e below Φ T3 m 53 #[rv b, iv 7] [(.int ((olb c3_) &&& (255 : Int32))), (.int (((ohb c3_) &&& (255 : Int32)) <<< ((0 : Int32) &&& 31)))]
  obtain ⟨T5, X5, e5, st5⟩ := getS2 X3 hx hZ hown (host := "") (Or.inl (ow67 hw)) Via.refl e3 S_lb (g := (mkF m 53 #[rv b, iv 7] [(.int ((olb c3_) &&& (255 : Int32))), (.int (((ohb c3_) &&& (255 : Int32)) <<< ((0 : Int32) &&& 31)))])) rfl (hb hby d14_53)
  refine os st5 ?_
  show OG p e below Φ T5 m 56 #[rv b, iv 7] [(.int 8), (.int ((olb c3_) &&& (255 : Int32))), (.int (((ohb c3_) &&& (255 : Int32)) <<< ((0 : Int32) &&& 31)))]
  refine os (fun _ z => XT.ishl X5.here hx rfl (hb hby d14_56) rfl z) ?_
  show OG p e below Φ T5 m 57 #[rv b, iv 7] [(.int (((olb c3_) &&& (255 : Int32)) <<< ((8 : Int32) &&& 31))), (.int (((ohb c3_) &&& (255 : Int32)) <<< ((0 : Int32) &&& 31)))]
  refine os (fun _ z => XT.ior X5.here hx rfl (hb hby d14_57) rfl z) ?_
  show OG p e below Φ T5 m 58 #[rv b, iv 7] [(.int ((((ohb c3_) &&& (255 : Int32)) <<< ((0 : Int32) &&& 31)) ||| (((olb c3_) &&& (255 : Int32)) <<< ((8 : Int32) &&& 31))))]
  refine os (fun _ z => XT.i2c X5.here hx rfl (hb hby d14_58) rfl z) ?_
  show OG p e below Φ T5 m 59 #[rv b, iv 7] [(.int (((((ohb c3_) &&& (255 : Int32)) <<< ((0 : Int32) &&& 31)) ||| (((olb c3_) &&& (255 : Int32)) <<< ((8 : Int32) &&& 31))).toUInt32.toUInt16.toUInt32.toInt32))]
  refine OGo.fin X5 hlk (v := (some (.int (((((ohb c3_) &&& (255 : Int32)) <<< ((0 : Int32) &&& 31)) ||| (((olb c3_) &&& (255 : Int32)) <<< ((8 : Int32) &&& 31))).toUInt32.toUInt16.toUInt32.toInt32)))) (fun h => by rw [hret] at h; cases h) (by decide) (by decide) (fun fs hr => X5.ireturnOut hx hret (XT.narrow_c _) (by simp) (hb hby d14_59) hr) fun U eU hF => hΦ _ _ _ ?_ hF
  rw [eU, e5]
  show Q_rsb4_3gc Z b cb c0_ c1_ c2_ c3_ h0 n0 _ _ _
  exact ⟨congrArg (fun z => some (Value.int z)) (own_gc' _ hr3), N0, rfl⟩

theorem ef_rsb4_3c3 (m : MethodId) (x0 : Addr) (x1 : Int32) (x2 : Int32) : entryFrame m #[(.ref x0), (.int x1), (.int x2)] 6 = mkF m 0 #[.val (.ref x0), .val (.int x1), .val (.int x2), .unset, .unset, .unset] [] := by first | (simp [entryFrame, mkF, argsToLocals, Value.category]; done) | rfl
def Q_rsb4_3c3 (Z : State) (a : Addr) (ca : ClassId) (c0_ : Int32) (c1_ : Int32) (c2_ : Int32) (c3_ : Int32) (h0 : Heap) (n0 : Nat) (v : Option Value) (h : Heap) (L : List Loc) : Prop := ∃ b cb, v = some (.ref b) ∧ Fr n0 L ∧ Keep h0 h [] ∧ Arv Z h b cb .byte (8 : Int32) [(.int (ohb c0_)), (.int (olb c0_)), (.int (ohb c1_)), (.int (olb c1_)), (.int (ohb c2_)), (.int (olb c2_)), (.int (ohb c3_)), (.int (olb c3_))] (.int (0 : Int32)) ∧ h0.size ≤ b
set_option maxRecDepth 65536 in
set_option maxHeartbeats 40000000 in
theorem rsb4_3c3 (l : Launch) (Z : State) (a0 : Array Value) (hw : ∀ d ∈ tables_1, d.before a0 Z = true) (ws : List Jvm.Cond) (a : Addr) (ca : ClassId) (c0_ : Int32) (c1_ : Int32) (c2_ : Int32) (c3_ : Int32) (h0 : Heap) (n0 : Nat) (Z0 : n0 ≤ h0.size) (V_a : Arv Z h0 a ca .char (4 : Int32) [(.int c0_), (.int c1_), (.int c2_), (.int c3_)] (.int (0 : Int32))) (O_0 : Old Z n0 h0) (S_ad : Sta Z Z.heap "java/lang/StringUTF16" "$assertionsDisabled" "Z" (.int (1 : Int32))) (S_hb : Sta Z Z.heap "java/lang/StringUTF16" "HI_BYTE_SHIFT" "I" (.int (0 : Int32))) (S_lb : Sta Z Z.heap "java/lang/StringUTF16" "LO_BYTE_SHIFT" "I" (.int (8 : Int32))) (hl0 : ¬ (255 : Int32) < c0_) (hl1 : ¬ (255 : Int32) < c1_) (hl2 : ¬ (255 : Int32) < c2_) (hb3 : (255 : Int32) < c3_) (hr3 : nar .char c3_ = c3_) :
    OCon l Z (⟨"java/lang/StringUTF16", "compress", "([CII)[B"⟩ : MethodName) jdk_52_method_16_code 6 (some (.array .byte)) ws ({ frames := 3, cells := 2, slots := 12, locals := 40 } : Room) #[(.ref a), (.int (0 : Int32)), (.int (4 : Int32))] h0 (Q_rsb4_3c3 Z a ca c0_ c1_ c2_ c3_ h0 n0) := by
  refine OCon.of (plainFor_of_name pn1) ?_
  intro p e s m below meth c s₁ Φ X0 hx hby hml hown hnm hret hlk hZ e0 hΦ
  have N0 := Fr.nil n0
  refine os (fun _ z => castTop (ef_rsb4_3c3 m a (0 : Int32) (4 : Int32)) z) ?_
  have K0 := Keep.refl h0 []
  show OG p e below Φ s₁ m 0 #[rv a, iv 0, iv 4, .unset, .unset, .unset] []
  refine os (fun _ z => XS.iloadN X0.here hx rfl (hb hby d4_0) rfl z) ?_
  obtain ⟨T1, h1, c1, X1, e1, E1, Ar1, st1⟩ := newP (aty := .byte) X0 hx hZ (ow1 hw) e0 (g := (mkF m 1 #[rv a, iv 0, iv 4, .unset, .unset, .unset] [(.int 4)])) rfl (hb hby d4_1) rfl (by decide) (cap := 4) (by decide) (by decide) (by decide) (by decide)
  obtain ⟨b1, g1⟩ : ∃ z, z = h0.size := ⟨_, rfl⟩
  rw [← g1] at Ar1 st1
  have ne1_a : a ≠ b1 := by rw [g1]; exact Nat.ne_of_lt V_a.lt
  have F2 := V_a.ext E1
  have F3 := O_0.ext E1
  have gb1 : n0 ≤ b1 := Nat.le_trans Z0 (Nat.le_of_eq g1.symm)
  have sz1 : h0.size ≤ b1 := Nat.le_trans K0.1 (Nat.le_of_eq g1.symm)
  have K1 := K0.ext E1
  have Zs1 : n0 ≤ h1.size := Nat.le_trans Z0 E1.1
  have V1 : Arv Z h1 b1 c1 .byte (4 : Int32) [(.int (0 : Int32)), (.int (0 : Int32)), (.int (0 : Int32)), (.int (0 : Int32))] (.int (0 : Int32)) := (Arv.new Ar1 (by decide)).pad (pad_rep [] _ 4)
  refine os st1 ?_
  show OG p e below Φ T1 m 3 #[rv a, iv 0, iv 4, .unset, .unset, .unset] [(.ref b1)]
  refine os (fun _ z => XS.astoreN X1.here hx rfl (hb hby d4_3) rfl rfl (l' := #[rv a, iv 0, iv 4, rv b1, .unset, .unset]) rfl z) ?_
  show OG p e below Φ T1 m 4 #[rv a, iv 0, iv 4, rv b1, .unset, .unset] []
  refine os (fun _ z => XS.aloadN X1.here hx rfl (hb hby d4_4) rfl rfl z) ?_
  refine os (fun _ z => XS.iloadN X1.here hx rfl (hb hby d4_5) rfl z) ?_
  show OG p e below Φ T1 m 6 #[rv a, iv 0, iv 4, rv b1, .unset, .unset] [(.int 0), (.ref a)]
  refine os (fun _ z => XS.aloadN X1.here hx rfl (hb hby d4_6) rfl rfl z) ?_
  refine os (fun _ z => XS.iconst X1.here hx rfl (hb hby d4_7) z) ?_
  show OG p e below Φ T1 m 8 #[rv a, iv 0, iv 4, rv b1, .unset, .unset] [(.int 0), (.ref b1), (.int 0), (.ref a)]
  refine os (fun _ z => XS.iloadN X1.here hx rfl (hb hby d4_8) rfl z) ?_
  obtain ⟨_, T4, L4, X4, hQ4, st4⟩ := own_callSt X1 hx hZ hown (ow22 hw) (ow23 hw) (ow20 hw) (ow24 hw) (by decide) (rsb4_3c2 l Z a0 hw [] a ca b1 c1 c0_ c1_ c2_ c3_ h1 n0 Zs1 F2 V1 ne1_a gb1 hl0 hl1 hl2 hb3) e1 (W := 0) (by decide) (by decide) (by decide) (by decide) (pc := 9) (ls := #[rv a, iv 0, iv 4, rv b1, .unset, .unset]) (stk := [(.int 4), (.int 0), (.ref b1), (.int 0), (.ref a)]) (by rw [hml]; rfl) (argsL := [(.ref a), (.int 0), (.ref b1), (.int 0), (.int 4)]) (rest := []) (lenOf pd1 rfl) rfl rfl (Nat.le_of_eq rfl) (hb hby d4_9)
  obtain ⟨rfl, Nq4, Kq4⟩ := hQ4
  have N4 := Fr.app N0 Nq4
  have Zs4 : n0 ≤ T4.heap.size := Nat.le_trans Zs1 Kq4.1
  have F5 := F2.keep Kq4 (ninS ne1_a nin0)
  have F6 := F3.keep Kq4 (allS gb1 all0)
  have K4 := K1.trans Kq4 (allS (Or.inr sz1) all0)
  refine os st4 ?_
  show OG p e below Φ T4 m 12 #[rv a, iv 0, iv 4, rv b1, .unset, .unset] [(.int 3)]
  refine os (fun _ z => XS.istore X4.here hx rfl (hb hby d4_12) rfl (l' := #[rv a, iv 0, iv 4, rv b1, iv 3, .unset]) rfl z) ?_
  show OG p e below Φ T4 m 14 #[rv a, iv 0, iv 4, rv b1, iv 3, .unset] []
  refine os (fun _ z => XS.iload X4.here hx rfl (hb hby d4_14) rfl z) ?_
  refine os (fun _ z => XS.iloadN X4.here hx rfl (hb hby d4_16) rfl z) ?_
  show OG p e below Φ T4 m 17 #[rv a, iv 0, iv 4, rv b1, iv 3, .unset] [(.int 4), (.int 3)]
  refine os (fun _ z => XS.icmpNo X4.here hx rfl (hb hby d4_17) rfl (XT.ii_eq_f (by decide)) z) ?_
  show OG p e below Φ T4 m 20 #[rv a, iv 0, iv 4, rv b1, iv 3, .unset] []
  refine os (fun _ z => XS.aloadN X4.here hx rfl (hb hby d4_20) rfl rfl z) ?_
  refine os (fun _ z => XS.iloadN X4.here hx rfl (hb hby d4_21) rfl z) ?_
  show OG p e below Φ T4 m 22 #[rv a, iv 0, iv 4, rv b1, iv 3, .unset] [(.int 0), (.ref a)]
  refine os (fun _ z => XS.iloadN X4.here hx rfl (hb hby d4_22) rfl z) ?_
  obtain ⟨_, T7, L7, X7, hQ7, st7⟩ := own_callSt X4 hx hZ hown (ow52 hw) (ow53 hw) (ow20 hw) (ow54 hw) (by decide) (rsb4_0tb l Z a0 hw [] a ca c0_ c1_ c2_ c3_ T4.heap n0 Zs4 F5 F6 S_ad S_hb S_lb) rfl (W := 0) (by decide) (by decide) (by decide) (by decide) (pc := 23) (ls := #[rv a, iv 0, iv 4, rv b1, iv 3, .unset]) (stk := [(.int 4), (.int 0), (.ref a)]) (by rw [hml]; rfl) (argsL := [(.ref a), (.int 0), (.int 4)]) (rest := []) (lenOf pd2 rfl) rfl rfl (Nat.le_of_eq rfl) (hb hby d4_23)
  obtain ⟨b7, cb7, rfl, Nq7, Kq7, Vq7, hz7⟩ := hQ7
  have nq7_a : a ≠ b7 := Nat.ne_of_lt (Nat.lt_of_lt_of_le F5.lt hz7)
  have gq7 : n0 ≤ b7 := Nat.le_trans Zs4 hz7
  have sq7 : h0.size ≤ b7 := Nat.le_trans K4.1 hz7
  have N7 := Fr.app N4 Nq7
  have Zs7 : n0 ≤ T7.heap.size := Nat.le_trans Zs4 Kq7.1
  have F8 := F5.keep Kq7 nin0
  have F9 := F6.keep Kq7 all0
  have K7 := K4.trans Kq7 all0
  refine os st7 ?_
  show OG p e below Φ T7 m 26 #[rv a, iv 0, iv 4, rv b1, iv 3, .unset] [(.ref b7)]
  refine os (fun _ z => XS.astore X7.here hx rfl (hb hby d4_26) rfl rfl (l' := #[rv a, iv 0, iv 4, rv b1, iv 3, rv b7]) rfl z) ?_
  show OG p e below Φ T7 m 28 #[rv a, iv 0, iv 4, rv b1, iv 3, rv b7] []
  refine os (fun _ z => XS.aload X7.here hx rfl (hb hby d4_28) rfl rfl z) ?_
  refine os (fun _ z => XS.iload X7.here hx rfl (hb hby d4_30) rfl z) ?_
  show OG p e below Φ T7 m 32 #[rv a, iv 0, iv 4, rv b1, iv 3, rv b7] [(.int 3), (.ref b7)]
  obtain ⟨_, T10, L10, X10, hQ10, st10⟩ := own_callSt X7 hx hZ hown (ow68 hw) (ow69 hw) (ow20 hw) (ow70 hw) (by decide) (rsb4_3gc l Z a0 hw [] b7 cb7 c0_ c1_ c2_ c3_ T7.heap n0 Zs7 Vq7 (S_ad.ext F9.2) (S_hb.ext F9.2) (S_lb.ext F9.2) hr3) rfl (W := 0) (by decide) (by decide) (by decide) (by decide) (pc := 32) (ls := #[rv a, iv 0, iv 4, rv b1, iv 3, rv b7]) (stk := [(.int 3), (.ref b7)]) (by rw [hml]; rfl) (argsL := [(.ref b7), (.int 3)]) (rest := []) (lenOf pd7 rfl) rfl rfl (Nat.le_of_eq rfl) (hb hby d4_32)
  obtain ⟨rfl, Nq10, e10⟩ := hQ10
  have N10 := Fr.app N7 Nq10
  refine os st10 ?_
  show OG p e below Φ T10 m 35 #[rv a, iv 0, iv 4, rv b1, iv 3, rv b7] [(.int c3_)]
  refine os (fun _ z => XS.sipush X10.here hx rfl (hb hby d4_35) z) ?_
  refine os (fun _ z => XS.icmpYes X10.here hx rfl (pc0 := 38) (pc' := 54) rfl (hb hby d4_38) rfl (XT.ii_gt_t hb3) (by decide) (by decide) z) ?_
  show OG p e below Φ T10 m 54 #[rv a, iv 0, iv 4, rv b1, iv 3, rv b7] []
  refine os (fun _ z => XS.aload X10.here hx rfl (hb hby d4_54) rfl rfl z) ?_
  refine OGo.fin X10 hlk (v := (some (.ref b7))) (fun h => by rw [hret] at h; cases h) (by decide) (by decide) (fun fs hr => X10.areturnOut hx rfl hret rfl (hb hby d4_56) hr) fun U eU hF => hΦ _ _ _ ?_ hF
  rw [eU, e10]
  show Q_rsb4_3c3 Z a ca c0_ c1_ c2_ c3_ h0 n0 _ _ _
  exact ⟨_, _, rfl, N10, K7, Vq7, sq7⟩

theorem ef_rsb4_3i4 (m : MethodId) (x0 : Addr) (x1 : Addr) (x2 : Int32) (x3 : Int32) : entryFrame m #[(.ref x0), (.ref x1), (.int x2), (.int x3), .null] 6 = mkF m 0 #[.val (.ref x0), .val (.ref x1), .val (.int x2), .val (.int x3), .val .null, .unset] [] := by first | (simp [entryFrame, mkF, argsToLocals, Value.category]; done) | rfl
def Q_rsb4_3i4 (Z : State) (s_ : Addr) (a : Addr) (ca : ClassId) (qc : Int32) (c0_ : Int32) (c1_ : Int32) (c2_ : Int32) (c3_ : Int32) (h0 : Heap) (n0 : Nat) (v : Option Value) (h : Heap) (L : List Loc) : Prop := v = none ∧ Fr n0 L ∧ Keep h0 h [s_] ∧ Exa Z h s_ "java/lang/String" ∧ ∃ b cb, Fld Z h s_ "java/lang/String" "value" "[B" (.ref b) ∧ Fld Z h s_ "java/lang/String" "coder" "B" (.int (1 : Int32)) ∧ Arv Z h b cb .byte (8 : Int32) [(.int (ohb c0_)), (.int (olb c0_)), (.int (ohb c1_)), (.int (olb c1_)), (.int (ohb c2_)), (.int (olb c2_)), (.int (ohb c3_)), (.int (olb c3_))] (.int (0 : Int32)) ∧ h0.size ≤ b
set_option maxRecDepth 65536 in
set_option maxHeartbeats 40000000 in
theorem rsb4_3i4 (l : Launch) (Z : State) (a0 : Array Value) (hw : ∀ d ∈ tables_1, d.before a0 Z = true) (ws : List Jvm.Cond) (s_ : Addr) (a : Addr) (ca : ClassId) (qc : Int32) (c0_ : Int32) (c1_ : Int32) (c2_ : Int32) (c3_ : Int32) (h0 : Heap) (n0 : Nat) (Z0 : n0 ≤ h0.size) (E_s : Exa Z h0 s_ "java/lang/String") (g_s : n0 ≤ s_) (F_v : Fld Z h0 s_ "java/lang/String" "value" "[B" .null) (F_c : Fld Z h0 s_ "java/lang/String" "coder" "B" (.int (0 : Int32))) (V_a : Arv Z h0 a ca .char (4 : Int32) [(.int c0_), (.int c1_), (.int c2_), (.int c3_)] (.int (0 : Int32))) (nsa : s_ ≠ a) (S_cs : Sta Z Z.heap "java/lang/String" "COMPACT_STRINGS" "Z" (.int qc)) (hq : ¬ qc = 0) (O_0 : Old Z n0 h0) (S_ad : Sta Z Z.heap "java/lang/StringUTF16" "$assertionsDisabled" "Z" (.int (1 : Int32))) (S_hb : Sta Z Z.heap "java/lang/StringUTF16" "HI_BYTE_SHIFT" "I" (.int (0 : Int32))) (S_lb : Sta Z Z.heap "java/lang/StringUTF16" "LO_BYTE_SHIFT" "I" (.int (8 : Int32))) (hl0 : ¬ (255 : Int32) < c0_) (hl1 : ¬ (255 : Int32) < c1_) (hl2 : ¬ (255 : Int32) < c2_) (hb3 : (255 : Int32) < c3_) (hr3 : nar .char c3_ = c3_) :
    OCon l Z (⟨"java/lang/String", "<init>", "([CIILjava/lang/Void;)V"⟩ : MethodName) jdk_42_method_149_code 6 none ws ({ frames := 4, cells := 2, slots := 12, locals := 57 } : Room) #[(.ref s_), (.ref a), (.int (0 : Int32)), (.int (4 : Int32)), .null] h0 (Q_rsb4_3i4 Z s_ a ca qc c0_ c1_ c2_ c3_ h0 n0) := by
  refine OCon.of (plainFor_of_name pn0) ?_
  intro p e s m below meth c s₁ Φ X0 hx hby hml hown hnm hret hlk hZ e0 hΦ
  have N0 := Fr.nil n0
  refine os (fun _ z => castTop (ef_rsb4_3i4 m s_ a (0 : Int32) (4 : Int32)) z) ?_
  have K0 := Keep.refl h0 [s_]
  show OG p e below Φ s₁ m 0 #[rv s_, rv a, iv 0, iv 4, .val .null, .unset] []
  refine os (fun _ z => XS.aloadN X0.here hx rfl (hb hby d2_0) rfl rfl z) ?_
  obtain ⟨T1, X1, e1, st1⟩ := initO X0 hx hZ hown (ow14 hw) (ow15 hw) (ow16 hw) e0 (g := (mkF m 1 #[rv s_, rv a, iv 0, iv 4, .val .null, .unset] [(.ref s_)])) rfl (by rw [hml]; rfl) rfl (hb hby d2_1) (by decide) (W := 0) (Nat.le_of_eq rfl) (by decide)
  refine os st1 ?_
  show OG p e below Φ T1 m 4 #[rv s_, rv a, iv 0, iv 4, .val .null, .unset] []
  refine os (fun _ z => XS.iloadN X1.here hx rfl (hb hby d2_4) rfl z) ?_
  refine os (fun _ z => XS.ifYes X1.here hx rfl (pc0 := 5) (pc' := 27) rfl (hb hby d2_5) rfl (XT.i0_ne_t (by decide)) (by decide) (by decide) z) ?_
  show OG p e below Φ T1 m 27 #[rv s_, rv a, iv 0, iv 4, .val .null, .unset] []
  have Sq := S_cs.ext O_0.2
  obtain ⟨T2, X2, e2, st2⟩ := getS2 X1 hx hZ hown (host := "") (Or.inl (ow17 hw)) Via.refl e1 Sq (g := (mkF m 27 #[rv s_, rv a, iv 0, iv 4, .val .null, .unset] [])) rfl (hb hby d2_27)
  refine os st2 ?_
  show OG p e below Φ T2 m 30 #[rv s_, rv a, iv 0, iv 4, .val .null, .unset] [(.int qc)]
  refine os (fun _ z => XS.ifNo X2.here hx rfl (hb hby d2_30) rfl (XT.i0_eq_f hq) z) ?_
  show OG p e below Φ T2 m 33 #[rv s_, rv a, iv 0, iv 4, .val .null, .unset] []
  refine os (fun _ z => XS.aloadN X2.here hx rfl (hb hby d2_33) rfl rfl z) ?_
  refine os (fun _ z => XS.iloadN X2.here hx rfl (hb hby d2_34) rfl z) ?_
  show OG p e below Φ T2 m 35 #[rv s_, rv a, iv 0, iv 4, .val .null, .unset] [(.int 0), (.ref a)]
  refine os (fun _ z => XS.iloadN X2.here hx rfl (hb hby d2_35) rfl z) ?_
  obtain ⟨_, T3, L3, X3, hQ3, st3⟩ := own_callSt X2 hx hZ hown (ow18 hw) (ow19 hw) (ow20 hw) (ow21 hw) (by decide) (rsb4_3c3 l Z a0 hw [] a ca c0_ c1_ c2_ c3_ h0 n0 Z0 V_a O_0 S_ad S_hb S_lb hl0 hl1 hl2 hb3 hr3) e2 (W := 0) (by decide) (by decide) (by decide) (by decide) (pc := 36) (ls := #[rv s_, rv a, iv 0, iv 4, .val .null, .unset]) (stk := [(.int 4), (.int 0), (.ref a)]) (by rw [hml]; rfl) (argsL := [(.ref a), (.int 0), (.int 4)]) (rest := []) (lenOf pd2 rfl) rfl rfl (Nat.le_of_eq rfl) (hb hby d2_36)
  obtain ⟨b3, cb3, rfl, Nq3, Kq3, Vq3, hz3⟩ := hQ3
  have nq3_a : a ≠ b3 := Nat.ne_of_lt (Nat.lt_of_lt_of_le V_a.lt hz3)
  have nq3_s_ : s_ ≠ b3 := Nat.ne_of_lt (Nat.lt_of_lt_of_le E_s.lt hz3)
  have gq3 : n0 ≤ b3 := Nat.le_trans Z0 hz3
  have sq3 : h0.size ≤ b3 := Nat.le_trans K0.1 hz3
  have N3 := Fr.app N0 Nq3
  have Zs3 : n0 ≤ T3.heap.size := Nat.le_trans Z0 Kq3.1
  have F4 := E_s.keep Kq3
  have F5 := F_v.keep Kq3 nin0
  have F6 := F_c.keep Kq3 nin0
  have F7 := V_a.keep Kq3 nin0
  have F8 := O_0.keep Kq3 all0
  have K3 := K0.trans Kq3 all0
  refine os st3 ?_
  show OG p e below Φ T3 m 39 #[rv s_, rv a, iv 0, iv 4, .val .null, .unset] [(.ref b3)]
  refine os (fun _ z => XS.astore X3.here hx rfl (hb hby d2_39) rfl rfl (l' := #[rv s_, rv a, iv 0, iv 4, .val .null, rv b3]) rfl z) ?_
  show OG p e below Φ T3 m 41 #[rv s_, rv a, iv 0, iv 4, .val .null, rv b3] []
  refine os (fun _ z => XS.aloadN X3.here hx rfl (hb hby d2_41) rfl rfl z) ?_
  refine os (fun _ z => XS.aload X3.here hx rfl (hb hby d2_42) rfl rfl z) ?_
  show OG p e below Φ T3 m 44 #[rv s_, rv a, iv 0, iv 4, .val .null, rv b3] [(.ref b3), (.ref s_)]
  refine os (fun _ z => XS.iloadN X3.here hx rfl (hb hby d2_44) rfl z) ?_
  obtain ⟨_, T9, L9, X9, hQ9, st9⟩ := own_callSt X3 hx hZ hown (ow25 hw) (ow26 hw) (ow20 hw) (ow27 hw) (by decide) (rsb4_0cf l Z a0 hw [] b3 cb3 c0_ c1_ c2_ c3_ T3.heap n0 Zs3 Vq3) rfl (W := 1) (by decide) (by decide) (by decide) (by decide) (pc := 45) (ls := #[rv s_, rv a, iv 0, iv 4, .val .null, rv b3]) (stk := [(.int 4), (.ref b3), (.ref s_)]) (by rw [hml]; rfl) (argsL := [(.ref b3), (.int 4)]) (rest := [(.ref s_)]) (lenOf pd3 rfl) rfl rfl (Nat.le_of_eq rfl) (hb hby d2_45)
  obtain ⟨rfl, Nq9, e9⟩ := hQ9
  have N9 := Fr.app N3 Nq9
  refine os st9 ?_
  show OG p e below Φ T9 m 48 #[rv s_, rv a, iv 0, iv 4, .val .null, rv b3] [(.int 1), (.ref s_)]
  obtain ⟨T10, h10, X10, e10, W10, st10⟩ := putF X9 hx hZ hown (host := "") (Or.inl (ow28 hw)) Via.refl e9 F6 F4 (Or.inr ⟨(ow29 hw), rfl, hnm⟩) (ow5 hw) (ty := .byte) (by decide) (by decide) (by decide) (g := (mkF m 48 #[rv s_, rv a, iv 0, iv 4, .val .null, rv b3] [(.int 1), (.ref s_)])) rfl rfl (hb hby d2_48)
  have F11 := F4.wr W10
  have F12 := F5.other W10 (Or.inr (slot_ne (Or.inr (ow31 hw)) (Or.inr (ow29 hw)) (by decide) (t := (.array .byte)) (t' := .byte) (by decide) (by decide)))
  have F13 := F6.same W10
  have F14 := F7.other W10 (Ne.symm nsa)
  have F15 := F8.wr W10 g_s
  have F16 := Vq3.other W10 (Ne.symm nq3_s_)
  have K10 := K3.wr W10 (Or.inl (List.mem_of_getElem? (i := 0) rfl))
  have N10 := Fr.snoc X10 N9 g_s
  have Zs10 : n0 ≤ h10.size := by rw [W10.size]; exact Zs3
  refine os st10 ?_
  show OG p e below Φ T10 m 51 #[rv s_, rv a, iv 0, iv 4, .val .null, rv b3] []
  refine os (fun _ z => XS.aloadN X10.here hx rfl (hb hby d2_51) rfl rfl z) ?_
  refine os (fun _ z => XS.aload X10.here hx rfl (hb hby d2_52) rfl rfl z) ?_
  show OG p e below Φ T10 m 54 #[rv s_, rv a, iv 0, iv 4, .val .null, rv b3] [(.ref b3), (.ref s_)]
  obtain ⟨T17, h17, X17, e17, W17, st17⟩ := putF X10 hx hZ hown (host := "") (Or.inl (ow30 hw)) Via.refl e10 F12 F11 (Or.inr ⟨(ow31 hw), rfl, hnm⟩) (ow5 hw) (ty := (.array .byte)) (by decide) rfl rfl (g := (mkF m 54 #[rv s_, rv a, iv 0, iv 4, .val .null, rv b3] [(.ref b3), (.ref s_)])) rfl rfl (hb hby d2_54)
  have F18 := F11.wr W17
  have F19 := F12.same W17
  have F20 := F13.other W17 (Or.inr (slot_ne (Or.inr (ow29 hw)) (Or.inr (ow31 hw)) (by decide) (t := .byte) (t' := (.array .byte)) (by decide) (by decide)))
  have F21 := F14.other W17 (Ne.symm nsa)
  have F22 := F15.wr W17 g_s
  have F23 := F16.other W17 (Ne.symm nq3_s_)
  have K17 := K10.wr W17 (Or.inl (List.mem_of_getElem? (i := 0) rfl))
  have N17 := Fr.snoc X17 N10 g_s
  have Zs17 : n0 ≤ h17.size := by rw [W17.size]; exact Zs10
  refine os st17 ?_
  show OG p e below Φ T17 m 57 #[rv s_, rv a, iv 0, iv 4, .val .null, rv b3] []
  refine OGo.fin X17 hlk (v := none) (fun _ => rfl) (by decide) (by decide) (fun fs hr => X17.returnOut hx hret (hb hby d2_57) hr) fun U eU hF => hΦ _ _ _ ?_ hF
  rw [eU, e17]
  show Q_rsb4_3i4 Z s_ a ca qc c0_ c1_ c2_ c3_ h0 n0 _ _ _
  exact ⟨rfl, N17, K17, F18, _, _, F19, F20, F23, sq3⟩

theorem ef_rsb4_3i1 (m : MethodId) (x0 : Addr) (x1 : Addr) : entryFrame m #[(.ref x0), (.ref x1)] 2 = mkF m 0 #[.val (.ref x0), .val (.ref x1)] [] := by first | (simp [entryFrame, mkF, argsToLocals, Value.category]; done) | rfl
def Q_rsb4_3i1 (Z : State) (s_ : Addr) (a : Addr) (ca : ClassId) (qc : Int32) (c0_ : Int32) (c1_ : Int32) (c2_ : Int32) (c3_ : Int32) (h0 : Heap) (n0 : Nat) (v : Option Value) (h : Heap) (L : List Loc) : Prop := v = none ∧ Fr n0 L ∧ Keep h0 h [s_] ∧ Exa Z h s_ "java/lang/String" ∧ ∃ b cb, Fld Z h s_ "java/lang/String" "value" "[B" (.ref b) ∧ Fld Z h s_ "java/lang/String" "coder" "B" (.int (1 : Int32)) ∧ Arv Z h b cb .byte (8 : Int32) [(.int (ohb c0_)), (.int (olb c0_)), (.int (ohb c1_)), (.int (olb c1_)), (.int (ohb c2_)), (.int (olb c2_)), (.int (ohb c3_)), (.int (olb c3_))] (.int (0 : Int32)) ∧ h0.size ≤ b
set_option maxRecDepth 65536 in
set_option maxHeartbeats 40000000 in
theorem rsb4_3i1 (l : Launch) (Z : State) (a0 : Array Value) (hw : ∀ d ∈ tables_1, d.before a0 Z = true) (ws : List Jvm.Cond) (s_ : Addr) (a : Addr) (ca : ClassId) (qc : Int32) (c0_ : Int32) (c1_ : Int32) (c2_ : Int32) (c3_ : Int32) (h0 : Heap) (n0 : Nat) (Z0 : n0 ≤ h0.size) (E_s : Exa Z h0 s_ "java/lang/String") (g_s : n0 ≤ s_) (F_v : Fld Z h0 s_ "java/lang/String" "value" "[B" .null) (F_c : Fld Z h0 s_ "java/lang/String" "coder" "B" (.int (0 : Int32))) (V_a : Arv Z h0 a ca .char (4 : Int32) [(.int c0_), (.int c1_), (.int c2_), (.int c3_)] (.int (0 : Int32))) (nsa : s_ ≠ a) (S_cs : Sta Z Z.heap "java/lang/String" "COMPACT_STRINGS" "Z" (.int qc)) (hq : ¬ qc = 0) (O_0 : Old Z n0 h0) (S_ad : Sta Z Z.heap "java/lang/StringUTF16" "$assertionsDisabled" "Z" (.int (1 : Int32))) (S_hb : Sta Z Z.heap "java/lang/StringUTF16" "HI_BYTE_SHIFT" "I" (.int (0 : Int32))) (S_lb : Sta Z Z.heap "java/lang/StringUTF16" "LO_BYTE_SHIFT" "I" (.int (8 : Int32))) (hl0 : ¬ (255 : Int32) < c0_) (hl1 : ¬ (255 : Int32) < c1_) (hl2 : ¬ (255 : Int32) < c2_) (hb3 : (255 : Int32) < c3_) (hr3 : nar .char c3_ = c3_) :
    OCon l Z (⟨"java/lang/String", "<init>", "([C)V"⟩ : MethodName) jdk_42_method_3_code 2 none ws ({ frames := 5, cells := 2, slots := 12, locals := 74 } : Room) #[(.ref s_), (.ref a)] h0 (Q_rsb4_3i1 Z s_ a ca qc c0_ c1_ c2_ c3_ h0 n0) := by
  refine OCon.of (plainFor_of_name pn0) ?_
  intro p e s m below meth c s₁ Φ X0 hx hby hml hown hnm hret hlk hZ e0 hΦ
  have N0 := Fr.nil n0
  refine os (fun _ z => castTop (ef_rsb4_3i1 m s_ a) z) ?_
  have K0 := Keep.refl h0 [s_]
  show OG p e below Φ s₁ m 0 #[rv s_, rv a] []
  refine os (fun _ z => XS.aloadN X0.here hx rfl (hb hby d1_0) rfl rfl z) ?_
  refine os (fun _ z => XS.aloadN X0.here hx rfl (hb hby d1_1) rfl rfl z) ?_
  show OG p e below Φ s₁ m 2 #[rv s_, rv a] [(.ref a), (.ref s_)]
  refine os (fun _ z => XS.iconst X0.here hx rfl (hb hby d1_2) z) ?_
  refine os (fun _ z => XS.aloadN X0.here hx rfl (hb hby d1_3) rfl rfl z) ?_
  show OG p e below Φ s₁ m 4 #[rv s_, rv a] [(.ref a), (.int 0), (.ref a), (.ref s_)]
  obtain ⟨cl1, Aq1, -, S1, M1, -, -⟩ := id V_a
  refine os (fun _ z => X0.arraylength hx (by rw [e0]; exact Aq1.1) (oia hZ Aq1.2.1) (g := (mkF m 4 #[rv s_, rv a] [(.ref a), (.int 0), (.ref a), (.ref s_)])) rfl rfl (hb hby d1_4) _ z) ?_
  rw [len_of S1 M1]
  show OG p e below Φ s₁ m 5 #[rv s_, rv a] [(.int 4), (.int 0), (.ref a), (.ref s_)]
  refine os (fun _ z => XS.aconstNull X0.here hx rfl (hb hby d1_5) z) ?_
  obtain ⟨_, T2, L2, X2, hQ2, st2⟩ := own_callSp X0 hx hZ rfl hown (ow10 hw) (ow11 hw) (ow6 hw) (ow13 hw) (by decide) (rsb4_3i4 l Z a0 hw [] s_ a ca qc c0_ c1_ c2_ c3_ h0 n0 Z0 E_s g_s F_v F_c V_a nsa S_cs hq O_0 S_ad S_hb S_lb hl0 hl1 hl2 hb3 hr3) e0 (W := 0) (by decide) (by decide) (by decide) (by decide) (pc := 6) (ls := #[rv s_, rv a]) (stk := [.null, (.int 4), (.int 0), (.ref a), (.ref s_)]) (by rw [hml]; rfl) (a := s_) (argsL := [(.ref a), (.int 0), (.int 4), .null]) (rest := []) (lenOf pd0 rfl) rfl rfl (Nat.le_of_eq rfl) (hb hby d1_6)
  obtain ⟨rfl, Nq2, Kq2, Eq2, b2, cb2, Fv2, Fc2, Vq2, hz2⟩ := hQ2
  have nq2_a : a ≠ b2 := Nat.ne_of_lt (Nat.lt_of_lt_of_le V_a.lt hz2)
  have nq2_s_ : s_ ≠ b2 := Nat.ne_of_lt (Nat.lt_of_lt_of_le E_s.lt hz2)
  have gq2 : n0 ≤ b2 := Nat.le_trans Z0 hz2
  have sq2 : h0.size ≤ b2 := Nat.le_trans K0.1 hz2
  have N2 := Fr.app N0 Nq2
  have Zs2 : n0 ≤ T2.heap.size := Nat.le_trans Z0 Kq2.1
  have F3 := V_a.keep Kq2 (ninS (Ne.symm nsa) nin0)
  have F4 := O_0.keep Kq2 (allS g_s all0)
  have K2 := K0.trans Kq2 (allS (Or.inl (List.mem_of_getElem? (i := 0) rfl)) all0)
  refine os st2 ?_
  show OG p e below Φ T2 m 9 #[rv s_, rv a] []
  refine OGo.fin X2 hlk (v := none) (fun _ => rfl) (by decide) (by decide) (fun fs hr => X2.returnOut hx hret (hb hby d1_9) hr) fun U eU hF => hΦ _ _ _ ?_ hF
  rw [eU]
  show Q_rsb4_3i1 Z s_ a ca qc c0_ c1_ c2_ c3_ h0 n0 _ _ _
  exact ⟨rfl, N2, K2, Eq2, _, _, Fv2, Fc2, Vq2, sq2⟩

theorem d9_0 : decode jdk_42_method_152_code 0 = .ok (.getstatic 38, 3) := by decide +kernel
theorem d9_3 : decode jdk_42_method_152_code 3 = .ok (.ifCond .eq 10, 3) := by decide +kernel
theorem d9_6 : decode jdk_42_method_152_code 6 = .ok (.aload_n 0, 1) := by decide +kernel
theorem d9_7 : decode jdk_42_method_152_code 7 = .ok (.getfield 15, 3) := by decide +kernel
theorem d9_10 : decode jdk_42_method_152_code 10 = .ok (.goto 4, 3) := by decide +kernel
theorem d9_14 : decode jdk_42_method_152_code 14 = .ok (.ireturn, 1) := by decide +kernel
theorem ef_rgoco (m : MethodId) (x0 : Addr) : entryFrame m #[(.ref x0)] 1 = mkF m 0 #[.val (.ref x0)] [] := by first | (simp [entryFrame, mkF, argsToLocals, Value.category]; done) | rfl
def Q_rgoco (Z : State) (s_ : Addr) (cd : Int32) (qc : Int32) (h0 : Heap) (n0 : Nat) (v : Option Value) (h : Heap) (L : List Loc) : Prop := v = some (.int cd) ∧ Fr n0 L ∧ h = h0
set_option maxRecDepth 65536 in
set_option maxHeartbeats 40000000 in
theorem rgoco (l : Launch) (Z : State) (a0 : Array Value) (hw : ∀ d ∈ tables_1, d.before a0 Z = true) (ws : List Jvm.Cond) (s_ : Addr) (cd : Int32) (qc : Int32) (h0 : Heap) (n0 : Nat) (Z0 : n0 ≤ h0.size) (F_c : Fld Z h0 s_ "java/lang/String" "coder" "B" (.int cd)) (hcd : cd = 0 ∨ cd = 1) (S_q : Sta Z h0 "java/lang/String" "COMPACT_STRINGS" "Z" (.int qc)) (hq : ¬ qc = 0) :
    OCon l Z (⟨"java/lang/String", "coder", "()B"⟩ : MethodName) jdk_42_method_152_code 1 (some .byte) ws ({ frames := 0, cells := 0, slots := 0, locals := 0 } : Room) #[(.ref s_)] h0 (Q_rgoco Z s_ cd qc h0 n0) := by
  refine OCon.of (plainFor_of_name pn0) ?_
  intro p e s m below meth c s₁ Φ X0 hx hby hml hown hnm hret hlk hZ e0 hΦ
  have N0 := Fr.nil n0
  refine os (fun _ z => castTop (ef_rgoco m s_) z) ?_
  show OG p e below Φ s₁ m 0 #[rv s_] []
  obtain ⟨T1, X1, e1, st1⟩ := getS2 X0 hx hZ hown (host := "") (Or.inl (ow17 hw)) Via.refl e0 S_q (g := (mkF m 0 #[rv s_] [])) rfl (hb hby d9_0)
  refine os st1 ?_
  show OG p e below Φ T1 m 3 #[rv s_] [(.int qc)]
  refine os (fun _ z => XS.ifNo X1.here hx rfl (hb hby d9_3) rfl (XT.i0_eq_f hq) z) ?_
  show OG p e below Φ T1 m 6 #[rv s_] []
  refine os (fun _ z => XS.aloadN X1.here hx rfl (hb hby d9_6) rfl rfl z) ?_
  obtain ⟨T2, X2, e2, st2⟩ := getF X1 hx hZ hown (host := "") (Or.inl (ow28 hw)) Via.refl e1 F_c (g := (mkF m 7 #[rv s_] [(.ref s_)])) rfl rfl (hb hby d9_7)
  refine os st2 ?_
  show OG p e below Φ T2 m 10 #[rv s_] [(.int cd)]
  refine os (fun _ z => XS.goto X2.here hx rfl (pc0 := 10) (pc' := 14) rfl (hb hby d9_10) (by decide) (by decide) z) ?_
  show OG p e below Φ T2 m 14 #[rv s_] [(.int cd)]
  refine OGo.fin X2 hlk (v := (some (.int cd))) (fun h => by rw [hret] at h; cases h) (by decide) (by decide) (fun fs hr => X2.ireturnOut hx hret (own_nb hcd) (by simp) (hb hby d9_14) hr) fun U eU hF => hΦ _ _ _ ?_ hF
  rw [eU, e2]
  show Q_rgoco Z s_ cd qc h0 n0 _ _ _
  exact ⟨rfl, N0, rfl⟩

theorem d8_0 : decode jdk_42_method_54_code 0 = .ok (.aload_n 0, 1) := by decide +kernel
theorem d8_1 : decode jdk_42_method_54_code 1 = .ok (.getfield 9, 3) := by decide +kernel
theorem d8_4 : decode jdk_42_method_54_code 4 = .ok (.arraylength, 1) := by decide +kernel
theorem d8_5 : decode jdk_42_method_54_code 5 = .ok (.aload_n 0, 1) := by decide +kernel
theorem d8_6 : decode jdk_42_method_54_code 6 = .ok (.invokevirtual 335, 3) := by decide +kernel
theorem pd8 : parseMethodDescriptor "()B" = some ⟨[], some .byte⟩ := by decide +kernel
theorem d8_9 : decode jdk_42_method_54_code 9 = .ok (.ishr, 1) := by decide +kernel
theorem d8_10 : decode jdk_42_method_54_code 10 = .ok (.ireturn, 1) := by decide +kernel
theorem ef_rgole (m : MethodId) (x0 : Addr) : entryFrame m #[(.ref x0)] 1 = mkF m 0 #[.val (.ref x0)] [] := by first | (simp [entryFrame, mkF, argsToLocals, Value.category]; done) | rfl
def Q_rgole (Z : State) (s_ : Addr) (b : Addr) (cb : ClassId) (z_ : Int32) (cd : Int32) (vs : List Value) (n_ : Int32) (qc : Int32) (h0 : Heap) (n0 : Nat) (v : Option Value) (h : Heap) (L : List Loc) : Prop := v = some (.int n_) ∧ Fr n0 L ∧ h = h0
set_option maxRecDepth 65536 in
set_option maxHeartbeats 40000000 in
theorem rgole (l : Launch) (Z : State) (a0 : Array Value) (hw : ∀ d ∈ tables_1, d.before a0 Z = true) (ws : List Jvm.Cond) (s_ : Addr) (b : Addr) (cb : ClassId) (z_ : Int32) (cd : Int32) (vs : List Value) (n_ : Int32) (qc : Int32) (h0 : Heap) (n0 : Nat) (Z0 : n0 ≤ h0.size) (E_s : Exa Z h0 s_ "java/lang/String") (F_v : Fld Z h0 s_ "java/lang/String" "value" "[B" (.ref b)) (F_c : Fld Z h0 s_ "java/lang/String" "coder" "B" (.int cd)) (V_b : Arv Z h0 b cb .byte z_ vs (.int 0)) (hcd : cd = 0 ∨ cd = 1) (hn : (z_ >>> (cd &&& 31)) = n_) (S_q : Sta Z h0 "java/lang/String" "COMPACT_STRINGS" "Z" (.int qc)) (hq : ¬ qc = 0) :
    OCon l Z (⟨"java/lang/String", "length", "()I"⟩ : MethodName) jdk_42_method_54_code 1 (some .int) ws ({ frames := 1, cells := 0, slots := 0, locals := 13 } : Room) #[(.ref s_)] h0 (Q_rgole Z s_ b cb z_ cd vs n_ qc h0 n0) := by
  refine OCon.of (plainFor_of_name pn0) ?_
  intro p e s m below meth c s₁ Φ X0 hx hby hml hown hnm hret hlk hZ e0 hΦ
  have N0 := Fr.nil n0
  refine os (fun _ z => castTop (ef_rgole m s_) z) ?_
  show OG p e below Φ s₁ m 0 #[rv s_] []
  refine os (fun _ z => XS.aloadN X0.here hx rfl (hb hby d8_0) rfl rfl z) ?_
  obtain ⟨T1, X1, e1, st1⟩ := getF X0 hx hZ hown (host := "") (Or.inl (ow30 hw)) Via.refl e0 F_v (g := (mkF m 1 #[rv s_] [(.ref s_)])) rfl rfl (hb hby d8_1)
  refine os st1 ?_
  show OG p e below Φ T1 m 4 #[rv s_] [(.ref b)]
  obtain ⟨cl2, Aq2, -, S2, M2, -, -⟩ := id V_b
  refine os (fun _ z => X1.arraylength hx (by rw [e1]; exact Aq2.1) (oia hZ Aq2.2.1) (g := (mkF m 4 #[rv s_] [(.ref b)])) rfl rfl (hb hby d8_4) _ z) ?_
  rw [len_of S2 M2]
  show OG p e below Φ T1 m 5 #[rv s_] [(.int z_)]
  refine os (fun _ z => XS.aloadN X1.here hx rfl (hb hby d8_5) rfl rfl z) ?_
  obtain ⟨_, T3, L3, X3, hQ3, st3⟩ := own_callVi X1 hx hZ hown (ow45 hw) (ow46 hw) (notFace_of_selects (args := #[]) (mvT hZ (ow48 hw))) (ow48 hw) (ow47 hw) (ow6 hw) (ow49 hw) (by decide) (rgoco l Z a0 hw [] s_ cd qc h0 n0 Z0 F_c hcd S_q hq) e1 (W := 1) (by decide) (by decide) (by decide) (by decide) E_s (pc := 6) (ls := #[rv s_]) (stk := [(.ref s_), (.int z_)]) (by rw [hml]; rfl) (argsL := []) (rest := [(.int z_)]) (lenOf pd8 rfl) rfl rfl (Nat.le_of_eq rfl) (hb hby d8_6)
  obtain ⟨rfl, Nq3, e3⟩ := hQ3
  have N3 := Fr.app N0 Nq3
  refine os st3 ?_
  show OG p e below Φ T3 m 9 #[rv s_] [(.int cd), (.int z_)]
  refine os (fun _ z => XT.ishr X3.here hx rfl (hb hby d8_9) rfl z) ?_
  show OG p e below Φ T3 m 10 #[rv s_] [(.int (z_ >>> (cd &&& 31)))]
  refine OGo.fin X3 hlk (v := (some (.int (z_ >>> (cd &&& 31))))) (fun h => by rw [hret] at h; cases h) (by decide) (by decide) (fun fs hr => X3.ireturnOut hx hret rfl (by simp) (hb hby d8_10) hr) fun U eU hF => hΦ _ _ _ ?_ hF
  rw [eU, e3]
  show Q_rgole Z s_ b cb z_ cd vs n_ qc h0 n0 _ _ _
  exact ⟨by rw [hn], N3, rfl⟩

theorem pn2 : plainName "com/example/bindery/bindery/service/KeptPictures" = true := by first | (simp [plainName, overriddenIn]; done) | decide +kernel
theorem d7_0 : decode prog_70_method_4_code 0 = .ok (.aload_n 1, 1) := by decide +kernel
theorem d7_1 : decode prog_70_method_4_code 1 = .ok (.arraylength, 1) := by decide +kernel
theorem d7_2 : decode prog_70_method_4_code 2 = .ok (.i2l, 1) := by decide +kernel
theorem d7_3 : decode prog_70_method_4_code 3 = .ok (.ldc2_w 69, 3) := by decide +kernel
theorem d7_6 : decode prog_70_method_4_code 6 = .ok (.aload_n 0, 1) := by decide +kernel
theorem d7_7 : decode prog_70_method_4_code 7 = .ok (.invokevirtual 71, 3) := by decide +kernel
theorem pd9 : parseMethodDescriptor "()I" = some ⟨[], some .int⟩ := by decide +kernel
theorem d7_10 : decode prog_70_method_4_code 10 = .ok (.i2l, 1) := by decide +kernel
theorem d7_11 : decode prog_70_method_4_code 11 = .ok (.lmul, 1) := by decide +kernel
theorem d7_12 : decode prog_70_method_4_code 12 = .ok (.ladd, 1) := by decide +kernel
theorem d7_13 : decode prog_70_method_4_code 13 = .ok (.ldc2_w 75, 3) := by decide +kernel
theorem d7_16 : decode prog_70_method_4_code 16 = .ok (.ladd, 1) := by decide +kernel
theorem d7_17 : decode prog_70_method_4_code 17 = .ok (.lreturn, 1) := by decide +kernel
theorem ef_rsz (m : MethodId) (x0 : Addr) (x1 : Addr) : entryFrame m #[(.ref x0), (.ref x1)] 2 = mkF m 0 #[.val (.ref x0), .val (.ref x1)] [] := by first | (simp [entryFrame, mkF, argsToLocals, Value.category]; done) | rfl
def Q_rsz (Z : State) (s_ : Addr) (a : Addr) (n_ : Int32) (m_ : Int32) (qc : Int32) (h0 : Heap) (n0 : Nat) (v : Option Value) (h : Heap) (L : List Loc) : Prop := v = some (.long (own_sz m_ n_)) ∧ Fr n0 L ∧ h = h0
set_option maxRecDepth 65536 in
set_option maxHeartbeats 40000000 in
theorem rsz (l : Launch) (Z : State) (a0 : Array Value) (hw : ∀ d ∈ tables_1, d.before a0 Z = true) (ws : List Jvm.Cond) (s_ : Addr) (a : Addr) (n_ : Int32) (m_ : Int32) (qc : Int32) (h0 : Heap) (n0 : Nat) (Z0 : n0 ≤ h0.size) (O_s : OStr Z h0 s_ n_) (O_a : OArr Z h0 a m_) (S_q : Sta Z h0 "java/lang/String" "COMPACT_STRINGS" "Z" (.int qc)) (hq : ¬ qc = 0) :
    OCon l Z (⟨"com/example/bindery/bindery/service/KeptPictures", "size", "(Ljava/lang/String;[B)J"⟩ : MethodName) prog_70_method_4_code 2 (some .long) ws ({ frames := 2, cells := 0, slots := 0, locals := 29 } : Room) #[(.ref s_), (.ref a)] h0 (Q_rsz Z s_ a n_ m_ qc h0 n0) := by
  refine OCon.of (plainFor_of_name pn2) ?_
  intro p e s m below meth c s₁ Φ X0 hx hby hml hown hnm hret hlk hZ e0 hΦ
  have N0 := Fr.nil n0
  refine os (fun _ z => castTop (ef_rsz m s_ a) z) ?_
  show OG p e below Φ s₁ m 0 #[rv s_, rv a] []
  refine os (fun _ z => XS.aloadN X0.here hx rfl (hb hby d7_0) rfl rfl z) ?_
  obtain ⟨cl1, Aq1, S1, M1⟩ := id O_a
  refine os (fun _ z => X0.arraylength hx (by rw [e0]; exact Aq1.1) (oia hZ Aq1.2.1) (g := (mkF m 1 #[rv s_, rv a] [(.ref a)])) rfl rfl (hb hby d7_1) _ z) ?_
  rw [len_of S1 M1]
  show OG p e below Φ s₁ m 2 #[rv s_, rv a] [(.int m_)]
  refine os (fun _ z => XT.i2l X0.here hx rfl (hb hby d7_2) rfl z) ?_
  show OG p e below Φ s₁ m 3 #[rv s_, rv a] [(.long (m_.toInt64))]
  refine os (fun _ z => X0.ldc2J hx hown (mvT hZ (ow39 hw)) rfl (hb hby d7_3) z) ?_
  refine os (fun _ z => XS.aloadN X0.here hx rfl (hb hby d7_6) rfl rfl z) ?_
  show OG p e below Φ s₁ m 7 #[rv s_, rv a] [(.ref s_), (.long 2), (.long (m_.toInt64))]
  obtain ⟨oE2, ob2, oc2, oz2, od2, ov2, oF2, oG2, oV2, oh2, on2⟩ := id O_s
  obtain ⟨_, T2, L2, X2, hQ2, st2⟩ := own_callVi X0 hx hZ hown (ow40 hw) (ow41 hw) (notFace_of_selects (args := #[]) (mvT hZ (ow43 hw))) (ow43 hw) (ow42 hw) (ow6 hw) (ow44 hw) (by decide) (rgole l Z a0 hw [] s_ ob2 oc2 oz2 od2 ov2 n_ qc h0 n0 Z0 oE2 oF2 oG2 oV2 oh2 on2 S_q hq) e0 (W := 4) (by decide) (by decide) (by decide) (by decide) O_s.1 (pc := 7) (ls := #[rv s_, rv a]) (stk := [(.ref s_), (.long 2), (.long (m_.toInt64))]) (by rw [hml]; rfl) (argsL := []) (rest := [(.long 2), (.long (m_.toInt64))]) (lenOf pd9 rfl) rfl rfl (Nat.le_of_eq rfl) (hb hby d7_7)
  obtain ⟨rfl, Nq2, e2⟩ := hQ2
  have N2 := Fr.app N0 Nq2
  refine os st2 ?_
  show OG p e below Φ T2 m 10 #[rv s_, rv a] [(.int n_), (.long 2), (.long (m_.toInt64))]
  refine os (fun _ z => XT.i2l X2.here hx rfl (hb hby d7_10) rfl z) ?_
  show OG p e below Φ T2 m 11 #[rv s_, rv a] [(.long (n_.toInt64)), (.long 2), (.long (m_.toInt64))]
  refine os (fun _ z => XT.lmul X2.here hx rfl (hb hby d7_11) rfl z) ?_
  show OG p e below Φ T2 m 12 #[rv s_, rv a] [(.long ((2 : Int64) * (n_.toInt64))), (.long (m_.toInt64))]
  refine os (fun _ z => XT.ladd X2.here hx rfl (hb hby d7_12) rfl z) ?_
  show OG p e below Φ T2 m 13 #[rv s_, rv a] [(.long ((m_.toInt64) + ((2 : Int64) * (n_.toInt64))))]
  refine os (fun _ z => X2.ldc2J hx hown (mvT hZ (ow50 hw)) rfl (hb hby d7_13) z) ?_
  refine os (fun _ z => XT.ladd X2.here hx rfl (hb hby d7_16) rfl z) ?_
  show OG p e below Φ T2 m 17 #[rv s_, rv a] [(.long (((m_.toInt64) + ((2 : Int64) * (n_.toInt64))) + (96 : Int64)))]
  refine OGo.fin X2 hlk (v := (some (.long (((m_.toInt64) + ((2 : Int64) * (n_.toInt64))) + (96 : Int64))))) (fun h => by rw [hret] at h; cases h) (by decide) (by decide) (fun fs hr => X2.lreturnOut hx hret (hb hby d7_17) hr) fun U eU hF => hΦ _ _ _ ?_ hF
  rw [eU, e2]
  show Q_rsz Z s_ a n_ m_ qc h0 n0 _ _ _
  exact ⟨rfl, N2, rfl⟩

theorem pn3 : plainName "com/example/bindery/bindery/service/KeptPicturesSizePinLaw" = true := by first | (simp [plainName, overriddenIn]; done) | decide +kernel
theorem pd10 : parseMethodDescriptor "([C)V" = some ⟨[(.array .char)], none⟩ := by decide +kernel
theorem pd11 : parseMethodDescriptor "(Ljava/lang/String;[B)J" = some ⟨[(.object "java/lang/String"), (.array .byte)], some .long⟩ := by decide +kernel
theorem ef_rm0 (m : MethodId) (x0 : Int32) (x1 : Int32) (x2 : Int32) (x3 : Int32) (x4 : Int32) (x5 : Int32) : entryFrame m #[(.int x0), (.int x1), (.int x2), (.int x3), (.int x4), (.int x5)] maxLocals = mkF m 0 #[.val (.int x0), .val (.int x1), .val (.int x2), .val (.int x3), .val (.int x4), .val (.int x5), .unset, .unset, .unset, .unset, .unset, .unset, .unset, .unset, .unset] [] := by first | (simp [entryFrame, mkF, argsToLocals, Value.category, maxLocals]; done) | rfl
def Q_rm0 (Z : State) (x0_ : Int32) (x1_ : Int32) (x2_ : Int32) (x3_ : Int32) (x4_ : Int32) (x5_ : Int32) (qc : Int32) (h0 : Heap) (n0 : Nat) (v : Option Value) (h : Heap) (L : List Loc) : Prop := v = some (.int (1 : Int32)) ∧ Fr n0 L
set_option maxRecDepth 65536 in
set_option maxHeartbeats 40000000 in
theorem rm0 (l : Launch) (Z : State) (a0 : Array Value) (hw : ∀ d ∈ tables_1, d.before a0 Z = true) (ws : List Jvm.Cond) (x0_ : Int32) (x1_ : Int32) (x2_ : Int32) (x3_ : Int32) (x4_ : Int32) (x5_ : Int32) (qc : Int32) (h0 : Heap) (n0 : Nat) (Z0 : n0 ≤ h0.size) (O_0 : Old Z n0 h0) (S_cs : Sta Z Z.heap "java/lang/String" "COMPACT_STRINGS" "Z" (.int qc)) (hq : ¬ qc = 0) (S_ad : Sta Z Z.heap "java/lang/StringUTF16" "$assertionsDisabled" "Z" (.int (1 : Int32))) (S_hb : Sta Z Z.heap "java/lang/StringUTF16" "HI_BYTE_SHIFT" "I" (.int (0 : Int32))) (S_lb : Sta Z Z.heap "java/lang/StringUTF16" "LO_BYTE_SHIFT" "I" (.int (8 : Int32))) :
    OConW l Z own_EL x code maxLocals ret ws room_1 #[(.int x0_), (.int x1_), (.int x2_), (.int x3_), (.int x4_), (.int x5_)] h0 [] (Q_rm0 Z x0_ x1_ x2_ x3_ x4_ x5_ qc h0 n0) := by
  refine OConW.of (plainFor_of_name pn3) ?_
  intro p e s m below meth c s₁ Φ X0 hx hby hml hown hnm hret hlk hZ e0 hS hkk hC hsf hΦ
  have N0 := Fr.nil n0
  refine os (fun _ z => castTop (ef_rm0 m x0_ x1_ x2_ x3_ x4_ x5_) z) ?_
  show OG p e below Φ s₁ m 0 #[iv x0_, iv x1_, iv x2_, iv x3_, iv x4_, iv x5_, .unset, .unset, .unset, .unset, .unset, .unset, .unset, .unset, .unset] []
  refine os (fun _ z => XS.iloadN X0.here hx rfl (hb hby at_0) rfl z) ?_
  refine os (fun _ z => XS.bipush X0.here hx rfl (hb hby at_1) z) ?_
  show OG p e below Φ s₁ m 3 #[iv x0_, iv x1_, iv x2_, iv x3_, iv x4_, iv x5_, .unset, .unset, .unset, .unset, .unset, .unset, .unset, .unset, .unset] [(.int 15), (.int x0_)]
  refine os (fun _ z => XS.iand X0.here hx rfl (hb hby at_3) rfl z) ?_
  show OG p e below Φ s₁ m 4 #[iv x0_, iv x1_, iv x2_, iv x3_, iv x4_, iv x5_, .unset, .unset, .unset, .unset, .unset, .unset, .unset, .unset, .unset] [(.int (x0_ &&& (15 : Int32)))]
  obtain ⟨nn, h_nn⟩ : ∃ z, z = (x0_ &&& (15 : Int32)) := ⟨_, rfl⟩
  rw [← h_nn]
  show OG p e below Φ s₁ m 4 #[iv x0_, iv x1_, iv x2_, iv x3_, iv x4_, iv x5_, .unset, .unset, .unset, .unset, .unset, .unset, .unset, .unset, .unset] [(.int nn)]
  have hn1 : ¬ nn < 0 := by rw [h_nn]; exact (own_n15 _).1
  have hn2 : nn.toNatClampNeg ≤ 15 := by rw [h_nn]; exact (own_n15 _).2
  refine os (fun _ z => XS.istore X0.here hx rfl (hb hby at_4) rfl (l' := #[iv x0_, iv x1_, iv x2_, iv x3_, iv x4_, iv x5_, iv nn, .unset, .unset, .unset, .unset, .unset, .unset, .unset, .unset]) rfl z) ?_
  show OG p e below Φ s₁ m 6 #[iv x0_, iv x1_, iv x2_, iv x3_, iv x4_, iv x5_, iv nn, .unset, .unset, .unset, .unset, .unset, .unset, .unset, .unset] []
  refine os (fun _ z => XS.iloadN X0.here hx rfl (hb hby at_6) rfl z) ?_
  refine os (fun _ z => X0.ldcI hx hown (mvT hZ (ow0 hw)) rfl (hb hby at_7) z) ?_
  show OG p e below Φ s₁ m 9 #[iv x0_, iv x1_, iv x2_, iv x3_, iv x4_, iv x5_, iv nn, .unset, .unset, .unset, .unset, .unset, .unset, .unset, .unset] [(.int 2147483647), (.int x1_)]
  refine os (fun _ z => XS.iand X0.here hx rfl (hb hby at_9) rfl z) ?_
  show OG p e below Φ s₁ m 10 #[iv x0_, iv x1_, iv x2_, iv x3_, iv x4_, iv x5_, iv nn, .unset, .unset, .unset, .unset, .unset, .unset, .unset, .unset] [(.int (x1_ &&& (2147483647 : Int32)))]
  refine os (fun _ z => XS.iconst X0.here hx rfl (hb hby at_10) z) ?_
  refine os (fun _ z => iremM X0 hx rfl (hb hby at_11) rfl (by decide) z) ?_
  show OG p e below Φ s₁ m 12 #[iv x0_, iv x1_, iv x2_, iv x3_, iv x4_, iv x5_, iv nn, .unset, .unset, .unset, .unset, .unset, .unset, .unset, .unset] [(.int ((x1_ &&& (2147483647 : Int32)) % (5 : Int32)))]
  refine os (fun _ z => XS.istore X0.here hx rfl (hb hby at_12) rfl (l' := #[iv x0_, iv x1_, iv x2_, iv x3_, iv x4_, iv x5_, iv nn, iv ((x1_ &&& (2147483647 : Int32)) % (5 : Int32)), .unset, .unset, .unset, .unset, .unset, .unset, .unset]) rfl z) ?_
  show OG p e below Φ s₁ m 14 #[iv x0_, iv x1_, iv x2_, iv x3_, iv x4_, iv x5_, iv nn, iv ((x1_ &&& (2147483647 : Int32)) % (5 : Int32)), .unset, .unset, .unset, .unset, .unset, .unset, .unset] []
  refine os (fun _ z => XS.iload X0.here hx rfl (hb hby at_14) rfl z) ?_
  show OG p e below Φ s₁ m 16 #[iv x0_, iv x1_, iv x2_, iv x3_, iv x4_, iv x5_, iv nn, iv ((x1_ &&& (2147483647 : Int32)) % (5 : Int32)), .unset, .unset, .unset, .unset, .unset, .unset, .unset] [(.int nn)]
  obtain ⟨T1, h1, c1, X1, e1, E1, Ar1, st1⟩ := newP (aty := .byte) X0 hx hZ (ow1 hw) e0 (g := (mkF m 16 #[iv x0_, iv x1_, iv x2_, iv x3_, iv x4_, iv x5_, iv nn, iv ((x1_ &&& (2147483647 : Int32)) % (5 : Int32)), .unset, .unset, .unset, .unset, .unset, .unset, .unset] [(.int nn)])) rfl (hb hby at_16) rfl hn1 (cap := 15) hn2 (by decide) (by decide) (by decide)
  obtain ⟨b1, g1⟩ : ∃ z, z = h0.size := ⟨_, rfl⟩
  rw [← g1] at Ar1 st1
  have F2 := O_0.ext E1
  have gb1 : n0 ≤ b1 := Nat.le_trans Z0 (Nat.le_of_eq g1.symm)
  have Zs1 : n0 ≤ h1.size := Nat.le_trans Z0 E1.1
  have hA3 := CHr.ext E1 hC.1
  have sf_b1 := Safe.ext E1 hC.1 (Safe.new (Nat.le_of_eq g1.symm))
  have hkk := Nat.le_trans hkk hA3.2.1
  have hC := hC.trans hA3
  have O1 : OArr Z h1 b1 nn := ⟨_, Ar1, sz_new _ _ _, hn1⟩
  refine os st1 ?_
  show OG p e below Φ T1 m 18 #[iv x0_, iv x1_, iv x2_, iv x3_, iv x4_, iv x5_, iv nn, iv ((x1_ &&& (2147483647 : Int32)) % (5 : Int32)), .unset, .unset, .unset, .unset, .unset, .unset, .unset] [(.ref b1)]
  refine os (fun _ z => XS.astore X1.here hx rfl (hb hby at_18) rfl rfl (l' := #[iv x0_, iv x1_, iv x2_, iv x3_, iv x4_, iv x5_, iv nn, iv ((x1_ &&& (2147483647 : Int32)) % (5 : Int32)), rv b1, .unset, .unset, .unset, .unset, .unset, .unset]) rfl z) ?_
  show OG p e below Φ T1 m 20 #[iv x0_, iv x1_, iv x2_, iv x3_, iv x4_, iv x5_, iv nn, iv ((x1_ &&& (2147483647 : Int32)) % (5 : Int32)), rv b1, .unset, .unset, .unset, .unset, .unset, .unset] []
  have J48 : ∀  (vmj : Vm) (kj : Nat) (Tj : State) (hj : Heap) (Lj : List Loc), Stand p l e room_1 (s.setVm vmj) m #[(.int x0_), (.int x1_), (.int x2_), (.int x3_), (.int x4_), (.int x5_)] below meth c Tj Lj 1 15 → Tj.heap = hj → Fr n0 Lj → n0 ≤ hj.size → Old Z n0 hj → OArr Z hj b1 nn →  s.Since vmj kj → kj ≤ hj.size → Z.Warmed39 (s.setVm vmj).vm → (s.setVm vmj).vm.findClass "com/example/bindery/bindery/service/KeptPicturesSizePinLaw" = some m.cls → CHr Z own_EL s.vm h0 vmj hj → OG p e below Φ Tj m 48 #[iv x0_, iv x1_, iv x2_, iv x3_, iv x4_, iv x5_, iv nn, iv ((x1_ &&& (2147483647 : Int32)) % (5 : Int32)), rv b1, .unset, .unset, .unset, .unset, .unset, .unset] [] := by
    intro  vmj kj Tj hj Lj Xj ej Nj Zj fj0 fj1 hS hkk hZ hown hC
    show OG p e below Φ Tj m 48 #[iv x0_, iv x1_, iv x2_, iv x3_, iv x4_, iv x5_, iv nn, iv ((x1_ &&& (2147483647 : Int32)) % (5 : Int32)), rv b1, .unset, .unset, .unset, .unset, .unset, .unset] []
    have J124 : ∀ (mm : Int32) (aj : Addr) (kj_ : Addr) (vmj : Vm) (kj : Nat) (Tj : State) (hj : Heap) (Lj : List Loc), Stand p l e room_1 (s.setVm vmj) m #[(.int x0_), (.int x1_), (.int x2_), (.int x3_), (.int x4_), (.int x5_)] below meth c Tj Lj 6 37 → Tj.heap = hj → Fr n0 Lj → n0 ≤ hj.size → Old Z n0 hj → OArr Z hj b1 nn → OStr Z hj kj_ mm →  s.Since vmj kj → kj ≤ hj.size → Z.Warmed39 (s.setVm vmj).vm → (s.setVm vmj).vm.findClass "com/example/bindery/bindery/service/KeptPicturesSizePinLaw" = some m.cls → CHr Z own_EL s.vm h0 vmj hj → OG p e below Φ Tj m 124 #[iv x0_, iv x1_, iv x2_, iv x3_, iv x4_, iv x5_, iv nn, iv mm, rv b1, rv aj, .unset, .unset, .unset, .unset, .unset] [(.ref kj_)] := by
      intro mm aj kj_ vmj kj Tj hj Lj Xj ej Nj Zj fj0 fj1 fj2 hS hkk hZ hown hC
      show OG p e below Φ Tj m 124 #[iv x0_, iv x1_, iv x2_, iv x3_, iv x4_, iv x5_, iv nn, iv mm, rv b1, rv aj, .unset, .unset, .unset, .unset, .unset] [(.ref kj_)]
      refine os (fun _ z => XS.astore Xj.here hx rfl (hb hby at_124) rfl rfl (l' := #[iv x0_, iv x1_, iv x2_, iv x3_, iv x4_, iv x5_, iv nn, iv mm, rv b1, rv aj, rv kj_, .unset, .unset, .unset, .unset]) rfl z) ?_
      show OG p e below Φ Tj m 126 #[iv x0_, iv x1_, iv x2_, iv x3_, iv x4_, iv x5_, iv nn, iv mm, rv b1, rv aj, rv kj_, .unset, .unset, .unset, .unset] []
      obtain ⟨T4, h4, X4, e4, E4, A4, D4, U4, st4⟩ := newO Xj hx hZ hown (ow4 hw) (ow5 hw) (ow6 hw) ej (g := (mkF m 126 #[iv x0_, iv x1_, iv x2_, iv x3_, iv x4_, iv x5_, iv nn, iv mm, rv b1, rv aj, rv kj_, .unset, .unset, .unset, .unset] [])) rfl (hb hby at_126) (by decide) (by decide)
      obtain ⟨b4, g4⟩ : ∃ z, z = hj.size := ⟨_, rfl⟩
      rw [← g4] at A4 D4 st4 U4
      have ne4_b1 : b1 ≠ b4 := by rw [g4]; exact Nat.ne_of_lt fj1.lt
      have ne4_kj_ : kj_ ≠ b4 := by rw [g4]; exact Nat.ne_of_lt fj2.lt
      have F5 := fj0.ext E4
      have F6 := fj1.ext E4
      have F7 := fj2.ext E4
      have gb4 : n0 ≤ b4 := Nat.le_trans Zj (Nat.le_of_eq g4.symm)
      have Zs4 : n0 ≤ h4.size := Nat.le_trans Zj E4.1
      have F4_29 : Fld Z h4 b4 "java/lang/String" "coder" "B" (.int (0 : Int32)) := D4 (Or.inr (ow29 hw)) (ty := .byte) (by decide)
      have F4_31 : Fld Z h4 b4 "java/lang/String" "value" "[B" .null := D4 (Or.inr (ow31 hw)) (ty := (.array .byte)) (by decide)
      have hA8 := CHr.ext E4 hC.1
      have sf_b4 := Safe.ext E4 hC.1 (Safe.new (Nat.le_of_eq g4.symm))
      have hkk := Nat.le_trans hkk hA8.2.1
      have hC := hC.trans hA8
      refine os (st4) ?_
      show OG p e below Φ T4 m 129 #[iv x0_, iv x1_, iv x2_, iv x3_, iv x4_, iv x5_, iv nn, iv mm, rv b1, rv aj, rv kj_, .unset, .unset, .unset, .unset] [(.ref b4)]
      refine os (fun _ z => XS.dup X4.here hx rfl (hb hby at_129) rfl rfl z) ?_
      refine os (fun _ z => XS.iconst X4.here hx rfl (hb hby at_130) z) ?_
      show OG p e below Φ T4 m 131 #[iv x0_, iv x1_, iv x2_, iv x3_, iv x4_, iv x5_, iv nn, iv mm, rv b1, rv aj, rv kj_, .unset, .unset, .unset, .unset] [(.int 0), (.ref b4), (.ref b4)]
      obtain ⟨T9, h9, c9, X9, e9, E9, Ar9, st9⟩ := newP (aty := .char) X4 hx hZ (ow2 hw) e4 (g := (mkF m 131 #[iv x0_, iv x1_, iv x2_, iv x3_, iv x4_, iv x5_, iv nn, iv mm, rv b1, rv aj, rv kj_, .unset, .unset, .unset, .unset] [(.int 0), (.ref b4), (.ref b4)])) rfl (hb hby at_131) rfl (by decide) (cap := 0) (by decide) (by decide) (by decide) (by decide)
      obtain ⟨b9, g9⟩ : ∃ z, z = h4.size := ⟨_, rfl⟩
      rw [← g9] at Ar9 st9
      have ne9_b1 : b1 ≠ b9 := by rw [g9]; exact Nat.ne_of_lt F6.lt
      have ne9_b4 : b4 ≠ b9 := by rw [g9]; exact Nat.ne_of_lt A4.lt
      have ne9_kj_ : kj_ ≠ b9 := by rw [g9]; exact Nat.ne_of_lt F7.lt
      have F10 := F5.ext E9
      have F11 := F6.ext E9
      have F12 := F7.ext E9
      have F13 := A4.ext E9
      have F14 := F4_29.ext E9
      have F15 := F4_31.ext E9
      have gb9 : n0 ≤ b9 := Nat.le_trans Zs4 (Nat.le_of_eq g9.symm)
      have Zs9 : n0 ≤ h9.size := Nat.le_trans Zs4 E9.1
      have hA16 := CHr.ext E9 hC.1
      have sf_b9 := Safe.ext E9 hC.1 (Safe.new (Nat.le_of_eq g9.symm))
      have sf_b4 := hA16.safe A4.lt sf_b4
      have hkk := Nat.le_trans hkk hA16.2.1
      have hC := hC.trans hA16
      have V9 : Arv Z h9 b9 c9 .char (0 : Int32) [] (.int (0 : Int32)) := (Arv.new Ar9 (by decide)).pad (pad_rep [] _ 0)
      refine os st9 ?_
      show OG p e below Φ T9 m 133 #[iv x0_, iv x1_, iv x2_, iv x3_, iv x4_, iv x5_, iv nn, iv mm, rv b1, rv aj, rv kj_, .unset, .unset, .unset, .unset] [(.ref b9), (.ref b4), (.ref b4)]
      obtain ⟨_, T17, L17, X17, hQ17, st17, hS, hZ, hown, hB17⟩ := own_callSpW X9 hx hZ rfl hown (ow7 hw) (ow8 hw) (ow6 hw) (ow9 hw) (by decide) (rsee1 l Z a0 hw [] b4 b9 c9 h9 n0 Zs9 F13 gb4 F15 F14 V9 ne9_b4) e9 (W := 1) (by decide) (by decide) (by decide) (by decide) (pc := 133) (ls := #[iv x0_, iv x1_, iv x2_, iv x3_, iv x4_, iv x5_, iv nn, iv mm, rv b1, rv aj, rv kj_, .unset, .unset, .unset, .unset]) (stk := [(.ref b9), (.ref b4), (.ref b4)]) (by rw [hml]; rfl) (a := b4) (argsL := [(.ref b9)]) (rest := [(.ref b4)]) (lenOf pd10 rfl) rfl rfl (Nat.le_of_eq rfl) (hb hby at_133) hS hkk (own_EW hw) hC (allS ⟨F13.lt, sf_b4⟩ all0)
      obtain ⟨rfl, Nq17, Kq17, Eq17, b17, cb17, Fv17, Fc17, Vq17⟩ := hQ17
      have N17 := Fr.app Nj Nq17
      have Zs17 : n0 ≤ T17.heap.size := Nat.le_trans Zs9 Kq17.1
      have F18 := F10.keep Kq17 (allS gb4 all0)
      have F19 := F11.keep Kq17 (ninS ne4_b1 nin0)
      have F20 := F12.keepS Kq17 F13 (ow5 hw) ne4_kj_
      have F21 := V9.keep Kq17 (ninS (Ne.symm ne9_b4) nin0)
      have hA22 := hB17
      have sf_b4 := hA22.safe F13.lt sf_b4
      have sf_b9 := hA22.safe V9.lt sf_b9
      have hkk := Nat.le_refl T17.heap.size
      have hC := hC.trans hA22
      refine os st17 ?_
      show OG p e below Φ T17 m 136 #[iv x0_, iv x1_, iv x2_, iv x3_, iv x4_, iv x5_, iv nn, iv mm, rv b1, rv aj, rv kj_, .unset, .unset, .unset, .unset] [(.ref b4)]
      refine os (fun _ z => XS.iconst X17.here hx rfl (hb hby at_136) z) ?_
      obtain ⟨T23, h23, c23, X23, e23, E23, Ar23, st23⟩ := newP (aty := .byte) X17 hx hZ (ow1 hw) rfl (g := (mkF m 137 #[iv x0_, iv x1_, iv x2_, iv x3_, iv x4_, iv x5_, iv nn, iv mm, rv b1, rv aj, rv kj_, .unset, .unset, .unset, .unset] [(.int 0), (.ref b4)])) rfl (hb hby at_137) rfl (by decide) (cap := 0) (by decide) (by decide) (by decide) (by decide)
      obtain ⟨b23, g23⟩ : ∃ z, z = T17.heap.size := ⟨_, rfl⟩
      rw [← g23] at Ar23 st23
      have ne23_b1 : b1 ≠ b23 := by rw [g23]; exact Nat.ne_of_lt F19.lt
      have ne23_b17 : b17 ≠ b23 := by rw [g23]; exact Nat.ne_of_lt Vq17.lt
      have ne23_b4 : b4 ≠ b23 := by rw [g23]; exact Nat.ne_of_lt Eq17.lt
      have ne23_b9 : b9 ≠ b23 := by rw [g23]; exact Nat.ne_of_lt F21.lt
      have ne23_kj_ : kj_ ≠ b23 := by rw [g23]; exact Nat.ne_of_lt F20.lt
      have F24 := F18.ext E23
      have F25 := F19.ext E23
      have F26 := F20.ext E23
      have F27 := F21.ext E23
      have F28 := Eq17.ext E23
      have F29 := Fv17.ext E23
      have F30 := Fc17.ext E23
      have F31 := Vq17.ext E23
      have gb23 : n0 ≤ b23 := Nat.le_trans Zs17 (Nat.le_of_eq g23.symm)
      have Zs23 : n0 ≤ h23.size := Nat.le_trans Zs17 E23.1
      have hA32 := CHr.ext E23 hC.1
      have sf_b23 := Safe.ext E23 hC.1 (Safe.new (Nat.le_of_eq g23.symm))
      have sf_b4 := hA32.safe Eq17.lt sf_b4
      have sf_b9 := hA32.safe F21.lt sf_b9
      have hkk := Nat.le_trans hkk hA32.2.1
      have hC := hC.trans hA32
      have V23 : Arv Z h23 b23 c23 .byte (0 : Int32) [] (.int (0 : Int32)) := (Arv.new Ar23 (by decide)).pad (pad_rep [] _ 0)
      refine os st23 ?_
      show OG p e below Φ T23 m 139 #[iv x0_, iv x1_, iv x2_, iv x3_, iv x4_, iv x5_, iv nn, iv mm, rv b1, rv aj, rv kj_, .unset, .unset, .unset, .unset] [(.ref b23), (.ref b4)]
      obtain ⟨cz33, Az33, -, Sz33, Mz33, -, -⟩ := id V23
      obtain ⟨_, T33, L33, X33, hQ33, st33⟩ := own_callSt X23 hx hZ hown (ow35 hw) (ow36 hw) (ow37 hw) (ow38 hw) (by decide) (rsz l Z a0 hw [] b4 b23 (0 : Int32) (0 : Int32) qc h23 n0 Zs23 ⟨F28, _, _, _, _, _, F29, F30, F31, by decide, by decide⟩ ⟨cz33, Az33, Sz33, Mz33⟩ (S_cs.ext F24.2) hq) e23 (W := 0) (by decide) (by decide) (by decide) (by decide) (pc := 139) (ls := #[iv x0_, iv x1_, iv x2_, iv x3_, iv x4_, iv x5_, iv nn, iv mm, rv b1, rv aj, rv kj_, .unset, .unset, .unset, .unset]) (stk := [(.ref b23), (.ref b4)]) (by rw [hml]; rfl) (argsL := [(.ref b4), (.ref b23)]) (rest := []) (lenOf pd11 rfl) rfl rfl (Nat.le_of_eq rfl) (hb hby at_139)
      obtain ⟨rfl, Nq33, e33⟩ := hQ33
      have N33 := Fr.app N17 Nq33
      refine os st33 ?_
      show OG p e below Φ T33 m 142 #[iv x0_, iv x1_, iv x2_, iv x3_, iv x4_, iv x5_, iv nn, iv mm, rv b1, rv aj, rv kj_, .unset, .unset, .unset, .unset] [(.long (own_sz (0 : Int32) (0 : Int32)))]
      refine os (fun _ z => XT.lstore X33.here hx rfl (hb hby at_142) rfl (l' := #[iv x0_, iv x1_, iv x2_, iv x3_, iv x4_, iv x5_, iv nn, iv mm, rv b1, rv aj, rv kj_, .val (.long (own_sz (0 : Int32) (0 : Int32))), .second, .unset, .unset]) rfl z) ?_
      show OG p e below Φ T33 m 144 #[iv x0_, iv x1_, iv x2_, iv x3_, iv x4_, iv x5_, iv nn, iv mm, rv b1, rv aj, rv kj_, .val (.long (own_sz (0 : Int32) (0 : Int32))), .second, .unset, .unset] []
      refine os (fun _ z => XS.aload X33.here hx rfl (hb hby at_144) rfl rfl z) ?_
      refine os (fun _ z => XS.aload X33.here hx rfl (hb hby at_146) rfl rfl z) ?_
      show OG p e below Φ T33 m 148 #[iv x0_, iv x1_, iv x2_, iv x3_, iv x4_, iv x5_, iv nn, iv mm, rv b1, rv aj, rv kj_, .val (.long (own_sz (0 : Int32) (0 : Int32))), .second, .unset, .unset] [(.ref b1), (.ref kj_)]
      obtain ⟨_, T34, L34, X34, hQ34, st34⟩ := own_callSt X33 hx hZ hown (ow35 hw) (ow36 hw) (ow37 hw) (ow38 hw) (by decide) (rsz l Z a0 hw [] kj_ b1 mm nn qc h23 n0 Zs23 F26 F25 (S_cs.ext F24.2) hq) e33 (W := 0) (by decide) (by decide) (by decide) (by decide) (pc := 148) (ls := #[iv x0_, iv x1_, iv x2_, iv x3_, iv x4_, iv x5_, iv nn, iv mm, rv b1, rv aj, rv kj_, .val (.long (own_sz (0 : Int32) (0 : Int32))), .second, .unset, .unset]) (stk := [(.ref b1), (.ref kj_)]) (by rw [hml]; rfl) (argsL := [(.ref kj_), (.ref b1)]) (rest := []) (lenOf pd11 rfl) rfl rfl (Nat.le_of_eq rfl) (hb hby at_148)
      obtain ⟨rfl, Nq34, e34⟩ := hQ34
      have N34 := Fr.app N33 Nq34
      refine os st34 ?_
      show OG p e below Φ T34 m 151 #[iv x0_, iv x1_, iv x2_, iv x3_, iv x4_, iv x5_, iv nn, iv mm, rv b1, rv aj, rv kj_, .val (.long (own_sz (0 : Int32) (0 : Int32))), .second, .unset, .unset] [(.long (own_sz nn mm))]
      refine os (fun _ z => XT.lstore X34.here hx rfl (hb hby at_151) rfl (l' := #[iv x0_, iv x1_, iv x2_, iv x3_, iv x4_, iv x5_, iv nn, iv mm, rv b1, rv aj, rv kj_, .val (.long (own_sz (0 : Int32) (0 : Int32))), .second, .val (.long (own_sz nn mm)), .second]) rfl z) ?_
      show OG p e below Φ T34 m 153 #[iv x0_, iv x1_, iv x2_, iv x3_, iv x4_, iv x5_, iv nn, iv mm, rv b1, rv aj, rv kj_, .val (.long (own_sz (0 : Int32) (0 : Int32))), .second, .val (.long (own_sz nn mm)), .second] []
      refine os (fun _ z => XT.lload X34.here hx rfl (hb hby at_153) rfl z) ?_
      refine os (fun _ z => XT.lconst X34.here hx rfl (hb hby at_155) z) ?_
      show OG p e below Φ T34 m 156 #[iv x0_, iv x1_, iv x2_, iv x3_, iv x4_, iv x5_, iv nn, iv mm, rv b1, rv aj, rv kj_, .val (.long (own_sz (0 : Int32) (0 : Int32))), .second, .val (.long (own_sz nn mm)), .second] [(.long 0), (.long (own_sz (0 : Int32) (0 : Int32)))]
      refine os (fun _ z => XT.lcmp X34.here hx rfl (hb hby at_156) rfl z) ?_
      show OG p e below Φ T34 m 157 #[iv x0_, iv x1_, iv x2_, iv x3_, iv x4_, iv x5_, iv nn, iv mm, rv b1, rv aj, rv kj_, .val (.long (own_sz (0 : Int32) (0 : Int32))), .second, .val (.long (own_sz nn mm)), .second] [(.int (XT.cmpL (own_sz (0 : Int32) (0 : Int32)) (0 : Int64)))]
      refine os (fun _ z => XS.ifNo X34.here hx rfl (hb hby at_157) rfl (XT.ll_le_f (by rw [own_sz0]; decide)) z) ?_
      show OG p e below Φ T34 m 160 #[iv x0_, iv x1_, iv x2_, iv x3_, iv x4_, iv x5_, iv nn, iv mm, rv b1, rv aj, rv kj_, .val (.long (own_sz (0 : Int32) (0 : Int32))), .second, .val (.long (own_sz nn mm)), .second] []
      refine os (fun _ z => XT.lload X34.here hx rfl (hb hby at_160) rfl z) ?_
      refine os (fun _ z => XT.lload X34.here hx rfl (hb hby at_162) rfl z) ?_
      show OG p e below Φ T34 m 164 #[iv x0_, iv x1_, iv x2_, iv x3_, iv x4_, iv x5_, iv nn, iv mm, rv b1, rv aj, rv kj_, .val (.long (own_sz (0 : Int32) (0 : Int32))), .second, .val (.long (own_sz nn mm)), .second] [(.long (own_sz (0 : Int32) (0 : Int32))), (.long (own_sz nn mm))]
      refine os (fun _ z => XS.iload X34.here hx rfl (hb hby at_164) rfl z) ?_
      refine os (fun _ z => XT.i2l X34.here hx rfl (hb hby at_166) rfl z) ?_
      show OG p e below Φ T34 m 167 #[iv x0_, iv x1_, iv x2_, iv x3_, iv x4_, iv x5_, iv nn, iv mm, rv b1, rv aj, rv kj_, .val (.long (own_sz (0 : Int32) (0 : Int32))), .second, .val (.long (own_sz nn mm)), .second] [(.long (nn.toInt64)), (.long (own_sz (0 : Int32) (0 : Int32))), (.long (own_sz nn mm))]
      refine os (fun _ z => XT.ladd X34.here hx rfl (hb hby at_167) rfl z) ?_
      show OG p e below Φ T34 m 168 #[iv x0_, iv x1_, iv x2_, iv x3_, iv x4_, iv x5_, iv nn, iv mm, rv b1, rv aj, rv kj_, .val (.long (own_sz (0 : Int32) (0 : Int32))), .second, .val (.long (own_sz nn mm)), .second] [(.long ((own_sz (0 : Int32) (0 : Int32)) + (nn.toInt64))), (.long (own_sz nn mm))]
      refine os (fun _ z => X34.ldc2J hx hown (mvT hZ (ow51 hw)) rfl (hb hby at_168) z) ?_
      refine os (fun _ z => XS.iload X34.here hx rfl (hb hby at_171) rfl z) ?_
      show OG p e below Φ T34 m 173 #[iv x0_, iv x1_, iv x2_, iv x3_, iv x4_, iv x5_, iv nn, iv mm, rv b1, rv aj, rv kj_, .val (.long (own_sz (0 : Int32) (0 : Int32))), .second, .val (.long (own_sz nn mm)), .second] [(.int mm), (.long 2), (.long ((own_sz (0 : Int32) (0 : Int32)) + (nn.toInt64))), (.long (own_sz nn mm))]
      refine os (fun _ z => XT.i2l X34.here hx rfl (hb hby at_173) rfl z) ?_
      show OG p e below Φ T34 m 174 #[iv x0_, iv x1_, iv x2_, iv x3_, iv x4_, iv x5_, iv nn, iv mm, rv b1, rv aj, rv kj_, .val (.long (own_sz (0 : Int32) (0 : Int32))), .second, .val (.long (own_sz nn mm)), .second] [(.long (mm.toInt64)), (.long 2), (.long ((own_sz (0 : Int32) (0 : Int32)) + (nn.toInt64))), (.long (own_sz nn mm))]
      refine os (fun _ z => XT.lmul X34.here hx rfl (hb hby at_174) rfl z) ?_
      show OG p e below Φ T34 m 175 #[iv x0_, iv x1_, iv x2_, iv x3_, iv x4_, iv x5_, iv nn, iv mm, rv b1, rv aj, rv kj_, .val (.long (own_sz (0 : Int32) (0 : Int32))), .second, .val (.long (own_sz nn mm)), .second] [(.long ((2 : Int64) * (mm.toInt64))), (.long ((own_sz (0 : Int32) (0 : Int32)) + (nn.toInt64))), (.long (own_sz nn mm))]
      refine os (fun _ z => XT.ladd X34.here hx rfl (hb hby at_175) rfl z) ?_
      show OG p e below Φ T34 m 176 #[iv x0_, iv x1_, iv x2_, iv x3_, iv x4_, iv x5_, iv nn, iv mm, rv b1, rv aj, rv kj_, .val (.long (own_sz (0 : Int32) (0 : Int32))), .second, .val (.long (own_sz nn mm)), .second] [(.long (((own_sz (0 : Int32) (0 : Int32)) + (nn.toInt64)) + ((2 : Int64) * (mm.toInt64)))), (.long (own_sz nn mm))]
      refine os (fun _ z => XT.lcmp X34.here hx rfl (hb hby at_176) rfl z) ?_
      show OG p e below Φ T34 m 177 #[iv x0_, iv x1_, iv x2_, iv x3_, iv x4_, iv x5_, iv nn, iv mm, rv b1, rv aj, rv kj_, .val (.long (own_sz (0 : Int32) (0 : Int32))), .second, .val (.long (own_sz nn mm)), .second] [(.int (XT.cmpL (own_sz nn mm) (((own_sz (0 : Int32) (0 : Int32)) + (nn.toInt64)) + ((2 : Int64) * (mm.toInt64)))))]
      refine os (fun _ z => XS.ifNo X34.here hx rfl (hb hby at_177) rfl (XT.ll_ne_f (own_eqs nn mm)) z) ?_
      show OG p e below Φ T34 m 180 #[iv x0_, iv x1_, iv x2_, iv x3_, iv x4_, iv x5_, iv nn, iv mm, rv b1, rv aj, rv kj_, .val (.long (own_sz (0 : Int32) (0 : Int32))), .second, .val (.long (own_sz nn mm)), .second] []
      refine os (fun _ z => XS.iconst X34.here hx rfl (hb hby at_180) z) ?_
      refine os (fun _ z => XS.goto X34.here hx rfl (pc0 := 181) (pc' := 185) rfl (hb hby at_181) (by decide) (by decide) z) ?_
      show OG p e below Φ T34 m 185 #[iv x0_, iv x1_, iv x2_, iv x3_, iv x4_, iv x5_, iv nn, iv mm, rv b1, rv aj, rv kj_, .val (.long (own_sz (0 : Int32) (0 : Int32))), .second, .val (.long (own_sz nn mm)), .second] [(.int 1)]
      refine OGo.finW X34 hlk hS e34 hkk (v := (some (.int 1))) (fun h => by rw [hret] at h; cases h) (by decide) (by decide) hZ (own_EW hw) hC (fun fs hr => X34.ireturnOut hx hret rfl (by simp) (hb hby at_185) hr) fun U eU hc hF => hΦ _ _ _ ?_ hc hF
      rw [eU]
      show Q_rm0 Z x0_ x1_ x2_ x3_ x4_ x5_ qc h0 n0 _ _ _
      exact ⟨rfl, N34⟩
    show OG p e below Φ Tj m 48 #[iv x0_, iv x1_, iv x2_, iv x3_, iv x4_, iv x5_, iv nn, iv ((x1_ &&& (2147483647 : Int32)) % (5 : Int32)), rv b1, .unset, .unset, .unset, .unset, .unset, .unset] []
    rcases own_mod5 x1_ with hk35 | hk35 | hk35 | hk35 | hk35
    · rw [hk35]
      show OG p e below Φ Tj m 48 #[iv x0_, iv x1_, iv x2_, iv x3_, iv x4_, iv x5_, iv nn, iv 0, rv b1, .unset, .unset, .unset, .unset, .unset, .unset] []
      refine os (fun _ z => XS.iload Xj.here hx rfl (hb hby at_48) rfl z) ?_
      obtain ⟨T36, h36, c36, X36, e36, E36, Ar36, st36⟩ := newP (aty := .char) Xj hx hZ (ow2 hw) ej (g := (mkF m 50 #[iv x0_, iv x1_, iv x2_, iv x3_, iv x4_, iv x5_, iv nn, iv 0, rv b1, .unset, .unset, .unset, .unset, .unset, .unset] [(.int 0)])) rfl (hb hby at_50) rfl (by decide) (cap := 0) (by decide) (by decide) (by decide) (by decide)
      obtain ⟨b36, g36⟩ : ∃ z, z = hj.size := ⟨_, rfl⟩
      rw [← g36] at Ar36 st36
      have ne36_b1 : b1 ≠ b36 := by rw [g36]; exact Nat.ne_of_lt fj1.lt
      have F37 := fj0.ext E36
      have F38 := fj1.ext E36
      have gb36 : n0 ≤ b36 := Nat.le_trans Zj (Nat.le_of_eq g36.symm)
      have Zs36 : n0 ≤ h36.size := Nat.le_trans Zj E36.1
      have hA39 := CHr.ext E36 hC.1
      have sf_b36 := Safe.ext E36 hC.1 (Safe.new (Nat.le_of_eq g36.symm))
      have hkk := Nat.le_trans hkk hA39.2.1
      have hC := hC.trans hA39
      have V36 : Arv Z h36 b36 c36 .char (0 : Int32) [] (.int (0 : Int32)) := (Arv.new Ar36 (by decide)).pad (pad_rep [] _ 0)
      refine os st36 ?_
      show OG p e below Φ T36 m 52 #[iv x0_, iv x1_, iv x2_, iv x3_, iv x4_, iv x5_, iv nn, iv 0, rv b1, .unset, .unset, .unset, .unset, .unset, .unset] [(.ref b36)]
      refine os (fun _ z => XS.astore X36.here hx rfl (hb hby at_52) rfl rfl (l' := #[iv x0_, iv x1_, iv x2_, iv x3_, iv x4_, iv x5_, iv nn, iv 0, rv b1, rv b36, .unset, .unset, .unset, .unset, .unset]) rfl z) ?_
      show OG p e below Φ T36 m 54 #[iv x0_, iv x1_, iv x2_, iv x3_, iv x4_, iv x5_, iv nn, iv 0, rv b1, rv b36, .unset, .unset, .unset, .unset, .unset] []
      refine os (fun _ z => XS.iload X36.here hx rfl (hb hby at_54) rfl z) ?_
      refine os (fun _ z => XS.ifYes X36.here hx rfl (pc0 := 56) (pc' := 68) rfl (hb hby at_56) rfl (XT.i0_le_t (by decide)) (by decide) (by decide) z) ?_
      show OG p e below Φ T36 m 68 #[iv x0_, iv x1_, iv x2_, iv x3_, iv x4_, iv x5_, iv nn, iv 0, rv b1, rv b36, .unset, .unset, .unset, .unset, .unset] []
      refine os (fun _ z => XS.iload X36.here hx rfl (hb hby at_68) rfl z) ?_
      refine os (fun _ z => XS.iconst X36.here hx rfl (hb hby at_70) z) ?_
      show OG p e below Φ T36 m 71 #[iv x0_, iv x1_, iv x2_, iv x3_, iv x4_, iv x5_, iv nn, iv 0, rv b1, rv b36, .unset, .unset, .unset, .unset, .unset] [(.int 1), (.int 0)]
      refine os (fun _ z => XS.icmpYes X36.here hx rfl (pc0 := 71) (pc' := 83) rfl (hb hby at_71) rfl (XT.ii_le_t (by decide)) (by decide) (by decide) z) ?_
      show OG p e below Φ T36 m 83 #[iv x0_, iv x1_, iv x2_, iv x3_, iv x4_, iv x5_, iv nn, iv 0, rv b1, rv b36, .unset, .unset, .unset, .unset, .unset] []
      refine os (fun _ z => XS.iload X36.here hx rfl (hb hby at_83) rfl z) ?_
      refine os (fun _ z => XS.iconst X36.here hx rfl (hb hby at_85) z) ?_
      show OG p e below Φ T36 m 86 #[iv x0_, iv x1_, iv x2_, iv x3_, iv x4_, iv x5_, iv nn, iv 0, rv b1, rv b36, .unset, .unset, .unset, .unset, .unset] [(.int 2), (.int 0)]
      refine os (fun _ z => XS.icmpYes X36.here hx rfl (pc0 := 86) (pc' := 99) rfl (hb hby at_86) rfl (XT.ii_le_t (by decide)) (by decide) (by decide) z) ?_
      show OG p e below Φ T36 m 99 #[iv x0_, iv x1_, iv x2_, iv x3_, iv x4_, iv x5_, iv nn, iv 0, rv b1, rv b36, .unset, .unset, .unset, .unset, .unset] []
      refine os (fun _ z => XS.iload X36.here hx rfl (hb hby at_99) rfl z) ?_
      refine os (fun _ z => XS.iconst X36.here hx rfl (hb hby at_101) z) ?_
      show OG p e below Φ T36 m 102 #[iv x0_, iv x1_, iv x2_, iv x3_, iv x4_, iv x5_, iv nn, iv 0, rv b1, rv b36, .unset, .unset, .unset, .unset, .unset] [(.int 3), (.int 0)]
      refine os (fun _ z => XS.icmpYes X36.here hx rfl (pc0 := 102) (pc' := 115) rfl (hb hby at_102) rfl (XT.ii_le_t (by decide)) (by decide) (by decide) z) ?_
      show OG p e below Φ T36 m 115 #[iv x0_, iv x1_, iv x2_, iv x3_, iv x4_, iv x5_, iv nn, iv 0, rv b1, rv b36, .unset, .unset, .unset, .unset, .unset] []
      obtain ⟨T40, h40, X40, e40, E40, A40, D40, U40, st40⟩ := newO X36 hx hZ hown (ow4 hw) (ow5 hw) (ow6 hw) e36 (g := (mkF m 115 #[iv x0_, iv x1_, iv x2_, iv x3_, iv x4_, iv x5_, iv nn, iv 0, rv b1, rv b36, .unset, .unset, .unset, .unset, .unset] [])) rfl (hb hby at_115) (by decide) (by decide)
      obtain ⟨b40, g40⟩ : ∃ z, z = h36.size := ⟨_, rfl⟩
      rw [← g40] at A40 D40 st40 U40
      have ne40_b1 : b1 ≠ b40 := by rw [g40]; exact Nat.ne_of_lt F38.lt
      have ne40_b36 : b36 ≠ b40 := by rw [g40]; exact Nat.ne_of_lt V36.lt
      have F41 := F37.ext E40
      have F42 := F38.ext E40
      have F43 := V36.ext E40
      have gb40 : n0 ≤ b40 := Nat.le_trans Zs36 (Nat.le_of_eq g40.symm)
      have Zs40 : n0 ≤ h40.size := Nat.le_trans Zs36 E40.1
      have F40_29 : Fld Z h40 b40 "java/lang/String" "coder" "B" (.int (0 : Int32)) := D40 (Or.inr (ow29 hw)) (ty := .byte) (by decide)
      have F40_31 : Fld Z h40 b40 "java/lang/String" "value" "[B" .null := D40 (Or.inr (ow31 hw)) (ty := (.array .byte)) (by decide)
      have hA44 := CHr.ext E40 hC.1
      have sf_b40 := Safe.ext E40 hC.1 (Safe.new (Nat.le_of_eq g40.symm))
      have sf_b36 := hA44.safe V36.lt sf_b36
      have hkk := Nat.le_trans hkk hA44.2.1
      have hC := hC.trans hA44
      refine os (st40) ?_
      show OG p e below Φ T40 m 118 #[iv x0_, iv x1_, iv x2_, iv x3_, iv x4_, iv x5_, iv nn, iv 0, rv b1, rv b36, .unset, .unset, .unset, .unset, .unset] [(.ref b40)]
      refine os (fun _ z => XS.dup X40.here hx rfl (hb hby at_118) rfl rfl z) ?_
      refine os (fun _ z => XS.aload X40.here hx rfl (hb hby at_119) rfl rfl z) ?_
      show OG p e below Φ T40 m 121 #[iv x0_, iv x1_, iv x2_, iv x3_, iv x4_, iv x5_, iv nn, iv 0, rv b1, rv b36, .unset, .unset, .unset, .unset, .unset] [(.ref b36), (.ref b40), (.ref b40)]
      obtain ⟨_, T45, L45, X45, hQ45, st45, hS, hZ, hown, hB45⟩ := own_callSpW X40 hx hZ rfl hown (ow7 hw) (ow8 hw) (ow6 hw) (ow9 hw) (by decide) (rsee1 l Z a0 hw [] b40 b36 c36 h40 n0 Zs40 A40 gb40 F40_31 F40_29 F43 (Ne.symm ne40_b36)) e40 (W := 1) (by decide) (by decide) (by decide) (by decide) (pc := 121) (ls := #[iv x0_, iv x1_, iv x2_, iv x3_, iv x4_, iv x5_, iv nn, iv 0, rv b1, rv b36, .unset, .unset, .unset, .unset, .unset]) (stk := [(.ref b36), (.ref b40), (.ref b40)]) (by rw [hml]; rfl) (a := b40) (argsL := [(.ref b36)]) (rest := [(.ref b40)]) (lenOf pd10 rfl) rfl rfl (Nat.le_of_eq rfl) (hb hby at_121) hS hkk (own_EW hw) hC (allS ⟨A40.lt, sf_b40⟩ all0)
      obtain ⟨rfl, Nq45, Kq45, Eq45, b45, cb45, Fv45, Fc45, Vq45⟩ := hQ45
      have N45 := Fr.app Nj Nq45
      have Zs45 : n0 ≤ T45.heap.size := Nat.le_trans Zs40 Kq45.1
      have F46 := F41.keep Kq45 (allS gb40 all0)
      have F47 := F42.keep Kq45 (ninS ne40_b1 nin0)
      have F48 := F43.keep Kq45 (ninS ne40_b36 nin0)
      have hA49 := hB45
      have sf_b36 := hA49.safe F43.lt sf_b36
      have sf_b40 := hA49.safe A40.lt sf_b40
      have hkk := Nat.le_refl T45.heap.size
      have hC := hC.trans hA49
      refine os st45 ?_
      show OG p e below Φ T45 m 124 #[iv x0_, iv x1_, iv x2_, iv x3_, iv x4_, iv x5_, iv nn, iv 0, rv b1, rv b36, .unset, .unset, .unset, .unset, .unset] [(.ref b40)]
      exact J124 (0 : Int32) b36 b40 _ _ _ _ _ (X45.more (by decide) (by decide)) rfl N45 Zs45 F46 F47 ⟨Eq45, _, _, _, _, _, Fv45, Fc45, Vq45, by decide, by decide⟩ hS hkk hZ hown hC
    · rw [hk35]
      show OG p e below Φ Tj m 48 #[iv x0_, iv x1_, iv x2_, iv x3_, iv x4_, iv x5_, iv nn, iv 1, rv b1, .unset, .unset, .unset, .unset, .unset, .unset] []
      refine os (fun _ z => XS.iload Xj.here hx rfl (hb hby at_48) rfl z) ?_
      obtain ⟨T50, h50, c50, X50, e50, E50, Ar50, st50⟩ := newP (aty := .char) Xj hx hZ (ow2 hw) ej (g := (mkF m 50 #[iv x0_, iv x1_, iv x2_, iv x3_, iv x4_, iv x5_, iv nn, iv 1, rv b1, .unset, .unset, .unset, .unset, .unset, .unset] [(.int 1)])) rfl (hb hby at_50) rfl (by decide) (cap := 1) (by decide) (by decide) (by decide) (by decide)
      obtain ⟨b50, g50⟩ : ∃ z, z = hj.size := ⟨_, rfl⟩
      rw [← g50] at Ar50 st50
      have ne50_b1 : b1 ≠ b50 := by rw [g50]; exact Nat.ne_of_lt fj1.lt
      have F51 := fj0.ext E50
      have F52 := fj1.ext E50
      have gb50 : n0 ≤ b50 := Nat.le_trans Zj (Nat.le_of_eq g50.symm)
      have Zs50 : n0 ≤ h50.size := Nat.le_trans Zj E50.1
      have hA53 := CHr.ext E50 hC.1
      have sf_b50 := Safe.ext E50 hC.1 (Safe.new (Nat.le_of_eq g50.symm))
      have hkk := Nat.le_trans hkk hA53.2.1
      have hC := hC.trans hA53
      have V50 : Arv Z h50 b50 c50 .char (1 : Int32) [(.int (0 : Int32))] (.int (0 : Int32)) := (Arv.new Ar50 (by decide)).pad (pad_rep [] _ 1)
      refine os st50 ?_
      show OG p e below Φ T50 m 52 #[iv x0_, iv x1_, iv x2_, iv x3_, iv x4_, iv x5_, iv nn, iv 1, rv b1, .unset, .unset, .unset, .unset, .unset, .unset] [(.ref b50)]
      refine os (fun _ z => XS.astore X50.here hx rfl (hb hby at_52) rfl rfl (l' := #[iv x0_, iv x1_, iv x2_, iv x3_, iv x4_, iv x5_, iv nn, iv 1, rv b1, rv b50, .unset, .unset, .unset, .unset, .unset]) rfl z) ?_
      show OG p e below Φ T50 m 54 #[iv x0_, iv x1_, iv x2_, iv x3_, iv x4_, iv x5_, iv nn, iv 1, rv b1, rv b50, .unset, .unset, .unset, .unset, .unset] []
      refine os (fun _ z => XS.iload X50.here hx rfl (hb hby at_54) rfl z) ?_
      refine os (fun _ z => XS.ifNo X50.here hx rfl (hb hby at_56) rfl (XT.i0_le_f (by decide)) z) ?_
      show OG p e below Φ T50 m 59 #[iv x0_, iv x1_, iv x2_, iv x3_, iv x4_, iv x5_, iv nn, iv 1, rv b1, rv b50, .unset, .unset, .unset, .unset, .unset] []
      refine os (fun _ z => XS.aload X50.here hx rfl (hb hby at_59) rfl rfl z) ?_
      refine os (fun _ z => XS.iconst X50.here hx rfl (hb hby at_61) z) ?_
      show OG p e below Φ T50 m 62 #[iv x0_, iv x1_, iv x2_, iv x3_, iv x4_, iv x5_, iv nn, iv 1, rv b1, rv b50, .unset, .unset, .unset, .unset, .unset] [(.int 0), (.ref b50)]
      refine os (fun _ z => XS.iloadN X50.here hx rfl (hb hby at_62) rfl z) ?_
      refine os (fun _ z => X50.ldcI hx hown (mvT hZ (ow3 hw)) rfl (hb hby at_63) z) ?_
      show OG p e below Φ T50 m 65 #[iv x0_, iv x1_, iv x2_, iv x3_, iv x4_, iv x5_, iv nn, iv 1, rv b1, rv b50, .unset, .unset, .unset, .unset, .unset] [(.int 65535), (.int x2_), (.int 0), (.ref b50)]
      refine os (fun _ z => XS.iand X50.here hx rfl (hb hby at_65) rfl z) ?_
      show OG p e below Φ T50 m 66 #[iv x0_, iv x1_, iv x2_, iv x3_, iv x4_, iv x5_, iv nn, iv 1, rv b1, rv b50, .unset, .unset, .unset, .unset, .unset] [(.int (x2_ &&& (65535 : Int32))), (.int 0), (.ref b50)]
      refine os (fun _ z => XT.i2c X50.here hx rfl (hb hby at_66) rfl z) ?_
      show OG p e below Φ T50 m 67 #[iv x0_, iv x1_, iv x2_, iv x3_, iv x4_, iv x5_, iv nn, iv 1, rv b1, rv b50, .unset, .unset, .unset, .unset, .unset] [(.int ((x2_ &&& (65535 : Int32)).toUInt32.toUInt16.toUInt32.toInt32)), (.int 0), (.ref b50)]
      obtain ⟨cl54, Aq54, Cq54, S54, M54, H54, G54⟩ := id V50
      have in54 : ¬ ((0 : Int32) < 0 ∨ cl54.slots.size ≤ (0 : Int32).toNatClampNeg) := inb_of S54 ⟨by decide, by decide⟩
      obtain ⟨T54, h54, X54, e54, W54, st54⟩ := stC X50 hx hZ e50 Aq54 in54 (g := (mkF m 67 #[iv x0_, iv x1_, iv x2_, iv x3_, iv x4_, iv x5_, iv nn, iv 1, rv b1, rv b50, .unset, .unset, .unset, .unset, .unset] [(.int ((x2_ &&& (65535 : Int32)).toUInt32.toUInt16.toUInt32.toInt32)), (.int 0), (.ref b50)])) rfl rfl (hb hby at_67)
      have W54 : Wr h50 h54 b50 (0 : Int32).toNatClampNeg (.int (nar .char ((x2_ &&& (65535 : Int32)).toUInt32.toUInt16.toUInt32.toInt32))) := W54
      have F55 := F51.wr W54 gb50
      have F56 := F52.other W54 ne50_b1
      have hA57 := CHr.wr W54 sf_b50 hC.1
      have sf_b50 := hA57.safe V50.lt sf_b50
      have hkk := Nat.le_trans hkk hA57.2.1
      have hC := hC.trans hA57
      have V54 : Arv Z h54 b50 c50 .char (1 : Int32) [(.int (nar .char ((x2_ &&& (65535 : Int32)).toUInt32.toUInt16.toUInt32.toInt32)))] (.int (0 : Int32)) := Arv.set Aq54 Cq54 S54 M54 H54 G54 (fits_nar_char _) W54 0 (by decide) (by show 0 < 1; decide)
      have N54 := Fr.snoc X54 Nj gb50
      have Zs54 : n0 ≤ h54.size := by rw [W54.size]; exact Zs50
      refine os st54 ?_
      show OG p e below Φ T54 m 68 #[iv x0_, iv x1_, iv x2_, iv x3_, iv x4_, iv x5_, iv nn, iv 1, rv b1, rv b50, .unset, .unset, .unset, .unset, .unset] []
      refine os (fun _ z => XS.iload X54.here hx rfl (hb hby at_68) rfl z) ?_
      refine os (fun _ z => XS.iconst X54.here hx rfl (hb hby at_70) z) ?_
      show OG p e below Φ T54 m 71 #[iv x0_, iv x1_, iv x2_, iv x3_, iv x4_, iv x5_, iv nn, iv 1, rv b1, rv b50, .unset, .unset, .unset, .unset, .unset] [(.int 1), (.int 1)]
      refine os (fun _ z => XS.icmpYes X54.here hx rfl (pc0 := 71) (pc' := 83) rfl (hb hby at_71) rfl (XT.ii_le_t (by decide)) (by decide) (by decide) z) ?_
      show OG p e below Φ T54 m 83 #[iv x0_, iv x1_, iv x2_, iv x3_, iv x4_, iv x5_, iv nn, iv 1, rv b1, rv b50, .unset, .unset, .unset, .unset, .unset] []
      refine os (fun _ z => XS.iload X54.here hx rfl (hb hby at_83) rfl z) ?_
      refine os (fun _ z => XS.iconst X54.here hx rfl (hb hby at_85) z) ?_
      show OG p e below Φ T54 m 86 #[iv x0_, iv x1_, iv x2_, iv x3_, iv x4_, iv x5_, iv nn, iv 1, rv b1, rv b50, .unset, .unset, .unset, .unset, .unset] [(.int 2), (.int 1)]
      refine os (fun _ z => XS.icmpYes X54.here hx rfl (pc0 := 86) (pc' := 99) rfl (hb hby at_86) rfl (XT.ii_le_t (by decide)) (by decide) (by decide) z) ?_
      show OG p e below Φ T54 m 99 #[iv x0_, iv x1_, iv x2_, iv x3_, iv x4_, iv x5_, iv nn, iv 1, rv b1, rv b50, .unset, .unset, .unset, .unset, .unset] []
      refine os (fun _ z => XS.iload X54.here hx rfl (hb hby at_99) rfl z) ?_
      refine os (fun _ z => XS.iconst X54.here hx rfl (hb hby at_101) z) ?_
      show OG p e below Φ T54 m 102 #[iv x0_, iv x1_, iv x2_, iv x3_, iv x4_, iv x5_, iv nn, iv 1, rv b1, rv b50, .unset, .unset, .unset, .unset, .unset] [(.int 3), (.int 1)]
      refine os (fun _ z => XS.icmpYes X54.here hx rfl (pc0 := 102) (pc' := 115) rfl (hb hby at_102) rfl (XT.ii_le_t (by decide)) (by decide) (by decide) z) ?_
      show OG p e below Φ T54 m 115 #[iv x0_, iv x1_, iv x2_, iv x3_, iv x4_, iv x5_, iv nn, iv 1, rv b1, rv b50, .unset, .unset, .unset, .unset, .unset] []
      obtain ⟨T58, h58, X58, e58, E58, A58, D58, U58, st58⟩ := newO X54 hx hZ hown (ow4 hw) (ow5 hw) (ow6 hw) e54 (g := (mkF m 115 #[iv x0_, iv x1_, iv x2_, iv x3_, iv x4_, iv x5_, iv nn, iv 1, rv b1, rv b50, .unset, .unset, .unset, .unset, .unset] [])) rfl (hb hby at_115) (by decide) (by decide)
      obtain ⟨b58, g58⟩ : ∃ z, z = h54.size := ⟨_, rfl⟩
      rw [← g58] at A58 D58 st58 U58
      have ne58_b1 : b1 ≠ b58 := by rw [g58]; exact Nat.ne_of_lt F56.lt
      have ne58_b50 : b50 ≠ b58 := by rw [g58]; exact Nat.ne_of_lt V54.lt
      have F59 := F55.ext E58
      have F60 := F56.ext E58
      have F61 := V54.ext E58
      have gb58 : n0 ≤ b58 := Nat.le_trans Zs54 (Nat.le_of_eq g58.symm)
      have Zs58 : n0 ≤ h58.size := Nat.le_trans Zs54 E58.1
      have F58_29 : Fld Z h58 b58 "java/lang/String" "coder" "B" (.int (0 : Int32)) := D58 (Or.inr (ow29 hw)) (ty := .byte) (by decide)
      have F58_31 : Fld Z h58 b58 "java/lang/String" "value" "[B" .null := D58 (Or.inr (ow31 hw)) (ty := (.array .byte)) (by decide)
      have hA62 := CHr.ext E58 hC.1
      have sf_b58 := Safe.ext E58 hC.1 (Safe.new (Nat.le_of_eq g58.symm))
      have sf_b50 := hA62.safe V54.lt sf_b50
      have hkk := Nat.le_trans hkk hA62.2.1
      have hC := hC.trans hA62
      refine os (st58) ?_
      show OG p e below Φ T58 m 118 #[iv x0_, iv x1_, iv x2_, iv x3_, iv x4_, iv x5_, iv nn, iv 1, rv b1, rv b50, .unset, .unset, .unset, .unset, .unset] [(.ref b58)]
      refine os (fun _ z => XS.dup X58.here hx rfl (hb hby at_118) rfl rfl z) ?_
      refine os (fun _ z => XS.aload X58.here hx rfl (hb hby at_119) rfl rfl z) ?_
      show OG p e below Φ T58 m 121 #[iv x0_, iv x1_, iv x2_, iv x3_, iv x4_, iv x5_, iv nn, iv 1, rv b1, rv b50, .unset, .unset, .unset, .unset, .unset] [(.ref b50), (.ref b58), (.ref b58)]
      by_cases hc63 : (255 : Int32) < (nar .char ((x2_ &&& (65535 : Int32)).toUInt32.toUInt16.toUInt32.toInt32))
      · show OG p e below Φ T58 m 121 #[iv x0_, iv x1_, iv x2_, iv x3_, iv x4_, iv x5_, iv nn, iv 1, rv b1, rv b50, .unset, .unset, .unset, .unset, .unset] [(.ref b50), (.ref b58), (.ref b58)]
        obtain ⟨_, T64, L64, X64, hQ64, st64⟩ := own_callSp X58 hx hZ rfl hown (ow7 hw) (ow8 hw) (ow6 hw) (ow9 hw) (by decide) (rsb1_0i1 l Z a0 hw [] b58 b50 c50 qc (nar .char ((x2_ &&& (65535 : Int32)).toUInt32.toUInt16.toUInt32.toInt32)) h58 n0 Zs58 A58 gb58 F58_31 F58_29 F61 (Ne.symm ne58_b50) S_cs hq F59 S_ad S_hb S_lb hc63 (own_narnar _)) e58 (W := 1) (by decide) (by decide) (by decide) (by decide) (pc := 121) (ls := #[iv x0_, iv x1_, iv x2_, iv x3_, iv x4_, iv x5_, iv nn, iv 1, rv b1, rv b50, .unset, .unset, .unset, .unset, .unset]) (stk := [(.ref b50), (.ref b58), (.ref b58)]) (by rw [hml]; rfl) (a := b58) (argsL := [(.ref b50)]) (rest := [(.ref b58)]) (lenOf pd10 rfl) rfl rfl (Nat.le_of_eq rfl) (hb hby at_121)
        obtain ⟨rfl, Nq64, Kq64, Eq64, b64, cb64, Fv64, Fc64, Vq64, hz64⟩ := hQ64
        have nq64_b1 : b1 ≠ b64 := Nat.ne_of_lt (Nat.lt_of_lt_of_le F60.lt hz64)
        have nq64_b50 : b50 ≠ b64 := Nat.ne_of_lt (Nat.lt_of_lt_of_le F61.lt hz64)
        have nq64_b58 : b58 ≠ b64 := Nat.ne_of_lt (Nat.lt_of_lt_of_le A58.lt hz64)
        have gq64 : n0 ≤ b64 := Nat.le_trans Zs58 hz64
        have N64 := Fr.app N54 Nq64
        have Zs64 : n0 ≤ T64.heap.size := Nat.le_trans Zs58 Kq64.1
        have F65 := F59.keep Kq64 (allS gb58 all0)
        have F66 := F60.keep Kq64 (ninS ne58_b1 nin0)
        have F67 := F61.keep Kq64 (ninS ne58_b50 nin0)
        have hA68 := CHr.keep Kq64 (sfS sf_b58 sf0) hC.1
        have sf_b50 := hA68.safe F61.lt sf_b50
        have sf_b58 := hA68.safe A58.lt sf_b58
        have hkk := Nat.le_trans hkk hA68.2.1
        have hC := hC.trans hA68
        refine os st64 ?_
        show OG p e below Φ T64 m 124 #[iv x0_, iv x1_, iv x2_, iv x3_, iv x4_, iv x5_, iv nn, iv 1, rv b1, rv b50, .unset, .unset, .unset, .unset, .unset] [(.ref b58)]
        exact J124 (1 : Int32) b50 b58 _ _ _ _ _ (X64.more (by decide) (by decide)) rfl N64 Zs64 F65 F66 ⟨Eq64, _, _, _, _, _, Fv64, Fc64, Vq64, by decide, by decide⟩ hS hkk hZ hown hC
      · show OG p e below Φ T58 m 121 #[iv x0_, iv x1_, iv x2_, iv x3_, iv x4_, iv x5_, iv nn, iv 1, rv b1, rv b50, .unset, .unset, .unset, .unset, .unset] [(.ref b50), (.ref b58), (.ref b58)]
        obtain ⟨_, T69, L69, X69, hQ69, st69⟩ := own_callSp X58 hx hZ rfl hown (ow7 hw) (ow8 hw) (ow6 hw) (ow9 hw) (by decide) (rsl1i1 l Z a0 hw [] b58 b50 c50 qc (nar .char ((x2_ &&& (65535 : Int32)).toUInt32.toUInt16.toUInt32.toInt32)) h58 n0 Zs58 A58 gb58 F58_31 F58_29 F61 (Ne.symm ne58_b50) (S_cs.ext F59.2) hq hc63) e58 (W := 1) (by decide) (by decide) (by decide) (by decide) (pc := 121) (ls := #[iv x0_, iv x1_, iv x2_, iv x3_, iv x4_, iv x5_, iv nn, iv 1, rv b1, rv b50, .unset, .unset, .unset, .unset, .unset]) (stk := [(.ref b50), (.ref b58), (.ref b58)]) (by rw [hml]; rfl) (a := b58) (argsL := [(.ref b50)]) (rest := [(.ref b58)]) (lenOf pd10 rfl) rfl rfl (Nat.le_of_eq rfl) (hb hby at_121)
        obtain ⟨rfl, Nq69, Kq69, Eq69, b69, cb69, Fv69, Fc69, Vq69, hz69⟩ := hQ69
        have nq69_b1 : b1 ≠ b69 := Nat.ne_of_lt (Nat.lt_of_lt_of_le F60.lt hz69)
        have nq69_b50 : b50 ≠ b69 := Nat.ne_of_lt (Nat.lt_of_lt_of_le F61.lt hz69)
        have nq69_b58 : b58 ≠ b69 := Nat.ne_of_lt (Nat.lt_of_lt_of_le A58.lt hz69)
        have gq69 : n0 ≤ b69 := Nat.le_trans Zs58 hz69
        have N69 := Fr.app N54 Nq69
        have Zs69 : n0 ≤ T69.heap.size := Nat.le_trans Zs58 Kq69.1
        have F70 := F59.keep Kq69 (allS gb58 all0)
        have F71 := F60.keep Kq69 (ninS ne58_b1 nin0)
        have F72 := F61.keep Kq69 (ninS ne58_b50 nin0)
        have hA73 := CHr.keep Kq69 (sfS sf_b58 sf0) hC.1
        have sf_b50 := hA73.safe F61.lt sf_b50
        have sf_b58 := hA73.safe A58.lt sf_b58
        have hkk := Nat.le_trans hkk hA73.2.1
        have hC := hC.trans hA73
        refine os st69 ?_
        show OG p e below Φ T69 m 124 #[iv x0_, iv x1_, iv x2_, iv x3_, iv x4_, iv x5_, iv nn, iv 1, rv b1, rv b50, .unset, .unset, .unset, .unset, .unset] [(.ref b58)]
        exact J124 (1 : Int32) b50 b58 _ _ _ _ _ (X69.more (by decide) (by decide)) rfl N69 Zs69 F70 F71 ⟨Eq69, _, _, _, _, _, Fv69, Fc69, Vq69, by decide, by decide⟩ hS hkk hZ hown hC
    · rw [hk35]
      show OG p e below Φ Tj m 48 #[iv x0_, iv x1_, iv x2_, iv x3_, iv x4_, iv x5_, iv nn, iv 2, rv b1, .unset, .unset, .unset, .unset, .unset, .unset] []
      refine os (fun _ z => XS.iload Xj.here hx rfl (hb hby at_48) rfl z) ?_
      obtain ⟨T74, h74, c74, X74, e74, E74, Ar74, st74⟩ := newP (aty := .char) Xj hx hZ (ow2 hw) ej (g := (mkF m 50 #[iv x0_, iv x1_, iv x2_, iv x3_, iv x4_, iv x5_, iv nn, iv 2, rv b1, .unset, .unset, .unset, .unset, .unset, .unset] [(.int 2)])) rfl (hb hby at_50) rfl (by decide) (cap := 2) (by decide) (by decide) (by decide) (by decide)
      obtain ⟨b74, g74⟩ : ∃ z, z = hj.size := ⟨_, rfl⟩
      rw [← g74] at Ar74 st74
      have ne74_b1 : b1 ≠ b74 := by rw [g74]; exact Nat.ne_of_lt fj1.lt
      have F75 := fj0.ext E74
      have F76 := fj1.ext E74
      have gb74 : n0 ≤ b74 := Nat.le_trans Zj (Nat.le_of_eq g74.symm)
      have Zs74 : n0 ≤ h74.size := Nat.le_trans Zj E74.1
      have hA77 := CHr.ext E74 hC.1
      have sf_b74 := Safe.ext E74 hC.1 (Safe.new (Nat.le_of_eq g74.symm))
      have hkk := Nat.le_trans hkk hA77.2.1
      have hC := hC.trans hA77
      have V74 : Arv Z h74 b74 c74 .char (2 : Int32) [(.int (0 : Int32)), (.int (0 : Int32))] (.int (0 : Int32)) := (Arv.new Ar74 (by decide)).pad (pad_rep [] _ 2)
      refine os st74 ?_
      show OG p e below Φ T74 m 52 #[iv x0_, iv x1_, iv x2_, iv x3_, iv x4_, iv x5_, iv nn, iv 2, rv b1, .unset, .unset, .unset, .unset, .unset, .unset] [(.ref b74)]
      refine os (fun _ z => XS.astore X74.here hx rfl (hb hby at_52) rfl rfl (l' := #[iv x0_, iv x1_, iv x2_, iv x3_, iv x4_, iv x5_, iv nn, iv 2, rv b1, rv b74, .unset, .unset, .unset, .unset, .unset]) rfl z) ?_
      show OG p e below Φ T74 m 54 #[iv x0_, iv x1_, iv x2_, iv x3_, iv x4_, iv x5_, iv nn, iv 2, rv b1, rv b74, .unset, .unset, .unset, .unset, .unset] []
      refine os (fun _ z => XS.iload X74.here hx rfl (hb hby at_54) rfl z) ?_
      refine os (fun _ z => XS.ifNo X74.here hx rfl (hb hby at_56) rfl (XT.i0_le_f (by decide)) z) ?_
      show OG p e below Φ T74 m 59 #[iv x0_, iv x1_, iv x2_, iv x3_, iv x4_, iv x5_, iv nn, iv 2, rv b1, rv b74, .unset, .unset, .unset, .unset, .unset] []
      refine os (fun _ z => XS.aload X74.here hx rfl (hb hby at_59) rfl rfl z) ?_
      refine os (fun _ z => XS.iconst X74.here hx rfl (hb hby at_61) z) ?_
      show OG p e below Φ T74 m 62 #[iv x0_, iv x1_, iv x2_, iv x3_, iv x4_, iv x5_, iv nn, iv 2, rv b1, rv b74, .unset, .unset, .unset, .unset, .unset] [(.int 0), (.ref b74)]
      refine os (fun _ z => XS.iloadN X74.here hx rfl (hb hby at_62) rfl z) ?_
      refine os (fun _ z => X74.ldcI hx hown (mvT hZ (ow3 hw)) rfl (hb hby at_63) z) ?_
      show OG p e below Φ T74 m 65 #[iv x0_, iv x1_, iv x2_, iv x3_, iv x4_, iv x5_, iv nn, iv 2, rv b1, rv b74, .unset, .unset, .unset, .unset, .unset] [(.int 65535), (.int x2_), (.int 0), (.ref b74)]
      refine os (fun _ z => XS.iand X74.here hx rfl (hb hby at_65) rfl z) ?_
      show OG p e below Φ T74 m 66 #[iv x0_, iv x1_, iv x2_, iv x3_, iv x4_, iv x5_, iv nn, iv 2, rv b1, rv b74, .unset, .unset, .unset, .unset, .unset] [(.int (x2_ &&& (65535 : Int32))), (.int 0), (.ref b74)]
      refine os (fun _ z => XT.i2c X74.here hx rfl (hb hby at_66) rfl z) ?_
      show OG p e below Φ T74 m 67 #[iv x0_, iv x1_, iv x2_, iv x3_, iv x4_, iv x5_, iv nn, iv 2, rv b1, rv b74, .unset, .unset, .unset, .unset, .unset] [(.int ((x2_ &&& (65535 : Int32)).toUInt32.toUInt16.toUInt32.toInt32)), (.int 0), (.ref b74)]
      obtain ⟨cl78, Aq78, Cq78, S78, M78, H78, G78⟩ := id V74
      have in78 : ¬ ((0 : Int32) < 0 ∨ cl78.slots.size ≤ (0 : Int32).toNatClampNeg) := inb_of S78 ⟨by decide, by decide⟩
      obtain ⟨T78, h78, X78, e78, W78, st78⟩ := stC X74 hx hZ e74 Aq78 in78 (g := (mkF m 67 #[iv x0_, iv x1_, iv x2_, iv x3_, iv x4_, iv x5_, iv nn, iv 2, rv b1, rv b74, .unset, .unset, .unset, .unset, .unset] [(.int ((x2_ &&& (65535 : Int32)).toUInt32.toUInt16.toUInt32.toInt32)), (.int 0), (.ref b74)])) rfl rfl (hb hby at_67)
      have W78 : Wr h74 h78 b74 (0 : Int32).toNatClampNeg (.int (nar .char ((x2_ &&& (65535 : Int32)).toUInt32.toUInt16.toUInt32.toInt32))) := W78
      have F79 := F75.wr W78 gb74
      have F80 := F76.other W78 ne74_b1
      have hA81 := CHr.wr W78 sf_b74 hC.1
      have sf_b74 := hA81.safe V74.lt sf_b74
      have hkk := Nat.le_trans hkk hA81.2.1
      have hC := hC.trans hA81
      have V78 : Arv Z h78 b74 c74 .char (2 : Int32) [(.int (nar .char ((x2_ &&& (65535 : Int32)).toUInt32.toUInt16.toUInt32.toInt32))), (.int (0 : Int32))] (.int (0 : Int32)) := Arv.set Aq78 Cq78 S78 M78 H78 G78 (fits_nar_char _) W78 0 (by decide) (by show 0 < 2; decide)
      have N78 := Fr.snoc X78 Nj gb74
      have Zs78 : n0 ≤ h78.size := by rw [W78.size]; exact Zs74
      refine os st78 ?_
      show OG p e below Φ T78 m 68 #[iv x0_, iv x1_, iv x2_, iv x3_, iv x4_, iv x5_, iv nn, iv 2, rv b1, rv b74, .unset, .unset, .unset, .unset, .unset] []
      refine os (fun _ z => XS.iload X78.here hx rfl (hb hby at_68) rfl z) ?_
      refine os (fun _ z => XS.iconst X78.here hx rfl (hb hby at_70) z) ?_
      show OG p e below Φ T78 m 71 #[iv x0_, iv x1_, iv x2_, iv x3_, iv x4_, iv x5_, iv nn, iv 2, rv b1, rv b74, .unset, .unset, .unset, .unset, .unset] [(.int 1), (.int 2)]
      refine os (fun _ z => XS.icmpNo X78.here hx rfl (hb hby at_71) rfl (XT.ii_le_f (by decide)) z) ?_
      show OG p e below Φ T78 m 74 #[iv x0_, iv x1_, iv x2_, iv x3_, iv x4_, iv x5_, iv nn, iv 2, rv b1, rv b74, .unset, .unset, .unset, .unset, .unset] []
      refine os (fun _ z => XS.aload X78.here hx rfl (hb hby at_74) rfl rfl z) ?_
      refine os (fun _ z => XS.iconst X78.here hx rfl (hb hby at_76) z) ?_
      show OG p e below Φ T78 m 77 #[iv x0_, iv x1_, iv x2_, iv x3_, iv x4_, iv x5_, iv nn, iv 2, rv b1, rv b74, .unset, .unset, .unset, .unset, .unset] [(.int 1), (.ref b74)]
      refine os (fun _ z => XS.iloadN X78.here hx rfl (hb hby at_77) rfl z) ?_
      refine os (fun _ z => X78.ldcI hx hown (mvT hZ (ow3 hw)) rfl (hb hby at_78) z) ?_
      show OG p e below Φ T78 m 80 #[iv x0_, iv x1_, iv x2_, iv x3_, iv x4_, iv x5_, iv nn, iv 2, rv b1, rv b74, .unset, .unset, .unset, .unset, .unset] [(.int 65535), (.int x3_), (.int 1), (.ref b74)]
      refine os (fun _ z => XS.iand X78.here hx rfl (hb hby at_80) rfl z) ?_
      show OG p e below Φ T78 m 81 #[iv x0_, iv x1_, iv x2_, iv x3_, iv x4_, iv x5_, iv nn, iv 2, rv b1, rv b74, .unset, .unset, .unset, .unset, .unset] [(.int (x3_ &&& (65535 : Int32))), (.int 1), (.ref b74)]
      refine os (fun _ z => XT.i2c X78.here hx rfl (hb hby at_81) rfl z) ?_
      show OG p e below Φ T78 m 82 #[iv x0_, iv x1_, iv x2_, iv x3_, iv x4_, iv x5_, iv nn, iv 2, rv b1, rv b74, .unset, .unset, .unset, .unset, .unset] [(.int ((x3_ &&& (65535 : Int32)).toUInt32.toUInt16.toUInt32.toInt32)), (.int 1), (.ref b74)]
      obtain ⟨cl82, Aq82, Cq82, S82, M82, H82, G82⟩ := id V78
      have in82 : ¬ ((1 : Int32) < 0 ∨ cl82.slots.size ≤ (1 : Int32).toNatClampNeg) := inb_of S82 ⟨by decide, by decide⟩
      obtain ⟨T82, h82, X82, e82, W82, st82⟩ := stC X78 hx hZ e78 Aq82 in82 (g := (mkF m 82 #[iv x0_, iv x1_, iv x2_, iv x3_, iv x4_, iv x5_, iv nn, iv 2, rv b1, rv b74, .unset, .unset, .unset, .unset, .unset] [(.int ((x3_ &&& (65535 : Int32)).toUInt32.toUInt16.toUInt32.toInt32)), (.int 1), (.ref b74)])) rfl rfl (hb hby at_82)
      have W82 : Wr h78 h82 b74 (1 : Int32).toNatClampNeg (.int (nar .char ((x3_ &&& (65535 : Int32)).toUInt32.toUInt16.toUInt32.toInt32))) := W82
      have F83 := F79.wr W82 gb74
      have F84 := F80.other W82 ne74_b1
      have hA85 := CHr.wr W82 sf_b74 hC.1
      have sf_b74 := hA85.safe V78.lt sf_b74
      have hkk := Nat.le_trans hkk hA85.2.1
      have hC := hC.trans hA85
      have V82 : Arv Z h82 b74 c74 .char (2 : Int32) [(.int (nar .char ((x2_ &&& (65535 : Int32)).toUInt32.toUInt16.toUInt32.toInt32))), (.int (nar .char ((x3_ &&& (65535 : Int32)).toUInt32.toUInt16.toUInt32.toInt32)))] (.int (0 : Int32)) := Arv.set Aq82 Cq82 S82 M82 H82 G82 (fits_nar_char _) W82 1 (by decide) (by show 1 < 2; decide)
      have N82 := Fr.snoc X82 N78 gb74
      have Zs82 : n0 ≤ h82.size := by rw [W82.size]; exact Zs78
      refine os st82 ?_
      show OG p e below Φ T82 m 83 #[iv x0_, iv x1_, iv x2_, iv x3_, iv x4_, iv x5_, iv nn, iv 2, rv b1, rv b74, .unset, .unset, .unset, .unset, .unset] []
      refine os (fun _ z => XS.iload X82.here hx rfl (hb hby at_83) rfl z) ?_
      refine os (fun _ z => XS.iconst X82.here hx rfl (hb hby at_85) z) ?_
      show OG p e below Φ T82 m 86 #[iv x0_, iv x1_, iv x2_, iv x3_, iv x4_, iv x5_, iv nn, iv 2, rv b1, rv b74, .unset, .unset, .unset, .unset, .unset] [(.int 2), (.int 2)]
      refine os (fun _ z => XS.icmpYes X82.here hx rfl (pc0 := 86) (pc' := 99) rfl (hb hby at_86) rfl (XT.ii_le_t (by decide)) (by decide) (by decide) z) ?_
      show OG p e below Φ T82 m 99 #[iv x0_, iv x1_, iv x2_, iv x3_, iv x4_, iv x5_, iv nn, iv 2, rv b1, rv b74, .unset, .unset, .unset, .unset, .unset] []
      refine os (fun _ z => XS.iload X82.here hx rfl (hb hby at_99) rfl z) ?_
      refine os (fun _ z => XS.iconst X82.here hx rfl (hb hby at_101) z) ?_
      show OG p e below Φ T82 m 102 #[iv x0_, iv x1_, iv x2_, iv x3_, iv x4_, iv x5_, iv nn, iv 2, rv b1, rv b74, .unset, .unset, .unset, .unset, .unset] [(.int 3), (.int 2)]
      refine os (fun _ z => XS.icmpYes X82.here hx rfl (pc0 := 102) (pc' := 115) rfl (hb hby at_102) rfl (XT.ii_le_t (by decide)) (by decide) (by decide) z) ?_
      show OG p e below Φ T82 m 115 #[iv x0_, iv x1_, iv x2_, iv x3_, iv x4_, iv x5_, iv nn, iv 2, rv b1, rv b74, .unset, .unset, .unset, .unset, .unset] []
      obtain ⟨T86, h86, X86, e86, E86, A86, D86, U86, st86⟩ := newO X82 hx hZ hown (ow4 hw) (ow5 hw) (ow6 hw) e82 (g := (mkF m 115 #[iv x0_, iv x1_, iv x2_, iv x3_, iv x4_, iv x5_, iv nn, iv 2, rv b1, rv b74, .unset, .unset, .unset, .unset, .unset] [])) rfl (hb hby at_115) (by decide) (by decide)
      obtain ⟨b86, g86⟩ : ∃ z, z = h82.size := ⟨_, rfl⟩
      rw [← g86] at A86 D86 st86 U86
      have ne86_b1 : b1 ≠ b86 := by rw [g86]; exact Nat.ne_of_lt F84.lt
      have ne86_b74 : b74 ≠ b86 := by rw [g86]; exact Nat.ne_of_lt V82.lt
      have F87 := F83.ext E86
      have F88 := F84.ext E86
      have F89 := V82.ext E86
      have gb86 : n0 ≤ b86 := Nat.le_trans Zs82 (Nat.le_of_eq g86.symm)
      have Zs86 : n0 ≤ h86.size := Nat.le_trans Zs82 E86.1
      have F86_29 : Fld Z h86 b86 "java/lang/String" "coder" "B" (.int (0 : Int32)) := D86 (Or.inr (ow29 hw)) (ty := .byte) (by decide)
      have F86_31 : Fld Z h86 b86 "java/lang/String" "value" "[B" .null := D86 (Or.inr (ow31 hw)) (ty := (.array .byte)) (by decide)
      have hA90 := CHr.ext E86 hC.1
      have sf_b86 := Safe.ext E86 hC.1 (Safe.new (Nat.le_of_eq g86.symm))
      have sf_b74 := hA90.safe V82.lt sf_b74
      have hkk := Nat.le_trans hkk hA90.2.1
      have hC := hC.trans hA90
      refine os (st86) ?_
      show OG p e below Φ T86 m 118 #[iv x0_, iv x1_, iv x2_, iv x3_, iv x4_, iv x5_, iv nn, iv 2, rv b1, rv b74, .unset, .unset, .unset, .unset, .unset] [(.ref b86)]
      refine os (fun _ z => XS.dup X86.here hx rfl (hb hby at_118) rfl rfl z) ?_
      refine os (fun _ z => XS.aload X86.here hx rfl (hb hby at_119) rfl rfl z) ?_
      show OG p e below Φ T86 m 121 #[iv x0_, iv x1_, iv x2_, iv x3_, iv x4_, iv x5_, iv nn, iv 2, rv b1, rv b74, .unset, .unset, .unset, .unset, .unset] [(.ref b74), (.ref b86), (.ref b86)]
      by_cases hc91 : (255 : Int32) < (nar .char ((x2_ &&& (65535 : Int32)).toUInt32.toUInt16.toUInt32.toInt32))
      · show OG p e below Φ T86 m 121 #[iv x0_, iv x1_, iv x2_, iv x3_, iv x4_, iv x5_, iv nn, iv 2, rv b1, rv b74, .unset, .unset, .unset, .unset, .unset] [(.ref b74), (.ref b86), (.ref b86)]
        obtain ⟨_, T92, L92, X92, hQ92, st92⟩ := own_callSp X86 hx hZ rfl hown (ow7 hw) (ow8 hw) (ow6 hw) (ow9 hw) (by decide) (rsb2_0i1 l Z a0 hw [] b86 b74 c74 qc (nar .char ((x2_ &&& (65535 : Int32)).toUInt32.toUInt16.toUInt32.toInt32)) (nar .char ((x3_ &&& (65535 : Int32)).toUInt32.toUInt16.toUInt32.toInt32)) h86 n0 Zs86 A86 gb86 F86_31 F86_29 F89 (Ne.symm ne86_b74) S_cs hq F87 S_ad S_hb S_lb hc91 (own_narnar _)) e86 (W := 1) (by decide) (by decide) (by decide) (by decide) (pc := 121) (ls := #[iv x0_, iv x1_, iv x2_, iv x3_, iv x4_, iv x5_, iv nn, iv 2, rv b1, rv b74, .unset, .unset, .unset, .unset, .unset]) (stk := [(.ref b74), (.ref b86), (.ref b86)]) (by rw [hml]; rfl) (a := b86) (argsL := [(.ref b74)]) (rest := [(.ref b86)]) (lenOf pd10 rfl) rfl rfl (Nat.le_of_eq rfl) (hb hby at_121)
        obtain ⟨rfl, Nq92, Kq92, Eq92, b92, cb92, Fv92, Fc92, Vq92, hz92⟩ := hQ92
        have nq92_b1 : b1 ≠ b92 := Nat.ne_of_lt (Nat.lt_of_lt_of_le F88.lt hz92)
        have nq92_b74 : b74 ≠ b92 := Nat.ne_of_lt (Nat.lt_of_lt_of_le F89.lt hz92)
        have nq92_b86 : b86 ≠ b92 := Nat.ne_of_lt (Nat.lt_of_lt_of_le A86.lt hz92)
        have gq92 : n0 ≤ b92 := Nat.le_trans Zs86 hz92
        have N92 := Fr.app N82 Nq92
        have Zs92 : n0 ≤ T92.heap.size := Nat.le_trans Zs86 Kq92.1
        have F93 := F87.keep Kq92 (allS gb86 all0)
        have F94 := F88.keep Kq92 (ninS ne86_b1 nin0)
        have F95 := F89.keep Kq92 (ninS ne86_b74 nin0)
        have hA96 := CHr.keep Kq92 (sfS sf_b86 sf0) hC.1
        have sf_b74 := hA96.safe F89.lt sf_b74
        have sf_b86 := hA96.safe A86.lt sf_b86
        have hkk := Nat.le_trans hkk hA96.2.1
        have hC := hC.trans hA96
        refine os st92 ?_
        show OG p e below Φ T92 m 124 #[iv x0_, iv x1_, iv x2_, iv x3_, iv x4_, iv x5_, iv nn, iv 2, rv b1, rv b74, .unset, .unset, .unset, .unset, .unset] [(.ref b86)]
        exact J124 (2 : Int32) b74 b86 _ _ _ _ _ (X92.more (by decide) (by decide)) rfl N92 Zs92 F93 F94 ⟨Eq92, _, _, _, _, _, Fv92, Fc92, Vq92, by decide, by decide⟩ hS hkk hZ hown hC
      · show OG p e below Φ T86 m 121 #[iv x0_, iv x1_, iv x2_, iv x3_, iv x4_, iv x5_, iv nn, iv 2, rv b1, rv b74, .unset, .unset, .unset, .unset, .unset] [(.ref b74), (.ref b86), (.ref b86)]
        by_cases hc97 : (255 : Int32) < (nar .char ((x3_ &&& (65535 : Int32)).toUInt32.toUInt16.toUInt32.toInt32))
        · show OG p e below Φ T86 m 121 #[iv x0_, iv x1_, iv x2_, iv x3_, iv x4_, iv x5_, iv nn, iv 2, rv b1, rv b74, .unset, .unset, .unset, .unset, .unset] [(.ref b74), (.ref b86), (.ref b86)]
          obtain ⟨_, T98, L98, X98, hQ98, st98⟩ := own_callSp X86 hx hZ rfl hown (ow7 hw) (ow8 hw) (ow6 hw) (ow9 hw) (by decide) (rsb2_1i1 l Z a0 hw [] b86 b74 c74 qc (nar .char ((x2_ &&& (65535 : Int32)).toUInt32.toUInt16.toUInt32.toInt32)) (nar .char ((x3_ &&& (65535 : Int32)).toUInt32.toUInt16.toUInt32.toInt32)) h86 n0 Zs86 A86 gb86 F86_31 F86_29 F89 (Ne.symm ne86_b74) S_cs hq F87 S_ad S_hb S_lb hc91 hc97 (own_narnar _)) e86 (W := 1) (by decide) (by decide) (by decide) (by decide) (pc := 121) (ls := #[iv x0_, iv x1_, iv x2_, iv x3_, iv x4_, iv x5_, iv nn, iv 2, rv b1, rv b74, .unset, .unset, .unset, .unset, .unset]) (stk := [(.ref b74), (.ref b86), (.ref b86)]) (by rw [hml]; rfl) (a := b86) (argsL := [(.ref b74)]) (rest := [(.ref b86)]) (lenOf pd10 rfl) rfl rfl (Nat.le_of_eq rfl) (hb hby at_121)
          obtain ⟨rfl, Nq98, Kq98, Eq98, b98, cb98, Fv98, Fc98, Vq98, hz98⟩ := hQ98
          have nq98_b1 : b1 ≠ b98 := Nat.ne_of_lt (Nat.lt_of_lt_of_le F88.lt hz98)
          have nq98_b74 : b74 ≠ b98 := Nat.ne_of_lt (Nat.lt_of_lt_of_le F89.lt hz98)
          have nq98_b86 : b86 ≠ b98 := Nat.ne_of_lt (Nat.lt_of_lt_of_le A86.lt hz98)
          have gq98 : n0 ≤ b98 := Nat.le_trans Zs86 hz98
          have N98 := Fr.app N82 Nq98
          have Zs98 : n0 ≤ T98.heap.size := Nat.le_trans Zs86 Kq98.1
          have F99 := F87.keep Kq98 (allS gb86 all0)
          have F100 := F88.keep Kq98 (ninS ne86_b1 nin0)
          have F101 := F89.keep Kq98 (ninS ne86_b74 nin0)
          have hA102 := CHr.keep Kq98 (sfS sf_b86 sf0) hC.1
          have sf_b74 := hA102.safe F89.lt sf_b74
          have sf_b86 := hA102.safe A86.lt sf_b86
          have hkk := Nat.le_trans hkk hA102.2.1
          have hC := hC.trans hA102
          refine os st98 ?_
          show OG p e below Φ T98 m 124 #[iv x0_, iv x1_, iv x2_, iv x3_, iv x4_, iv x5_, iv nn, iv 2, rv b1, rv b74, .unset, .unset, .unset, .unset, .unset] [(.ref b86)]
          exact J124 (2 : Int32) b74 b86 _ _ _ _ _ (X98.more (by decide) (by decide)) rfl N98 Zs98 F99 F100 ⟨Eq98, _, _, _, _, _, Fv98, Fc98, Vq98, by decide, by decide⟩ hS hkk hZ hown hC
        · show OG p e below Φ T86 m 121 #[iv x0_, iv x1_, iv x2_, iv x3_, iv x4_, iv x5_, iv nn, iv 2, rv b1, rv b74, .unset, .unset, .unset, .unset, .unset] [(.ref b74), (.ref b86), (.ref b86)]
          obtain ⟨_, T103, L103, X103, hQ103, st103⟩ := own_callSp X86 hx hZ rfl hown (ow7 hw) (ow8 hw) (ow6 hw) (ow9 hw) (by decide) (rsl2i1 l Z a0 hw [] b86 b74 c74 qc (nar .char ((x2_ &&& (65535 : Int32)).toUInt32.toUInt16.toUInt32.toInt32)) (nar .char ((x3_ &&& (65535 : Int32)).toUInt32.toUInt16.toUInt32.toInt32)) h86 n0 Zs86 A86 gb86 F86_31 F86_29 F89 (Ne.symm ne86_b74) (S_cs.ext F87.2) hq hc91 hc97) e86 (W := 1) (by decide) (by decide) (by decide) (by decide) (pc := 121) (ls := #[iv x0_, iv x1_, iv x2_, iv x3_, iv x4_, iv x5_, iv nn, iv 2, rv b1, rv b74, .unset, .unset, .unset, .unset, .unset]) (stk := [(.ref b74), (.ref b86), (.ref b86)]) (by rw [hml]; rfl) (a := b86) (argsL := [(.ref b74)]) (rest := [(.ref b86)]) (lenOf pd10 rfl) rfl rfl (Nat.le_of_eq rfl) (hb hby at_121)
          obtain ⟨rfl, Nq103, Kq103, Eq103, b103, cb103, Fv103, Fc103, Vq103, hz103⟩ := hQ103
          have nq103_b1 : b1 ≠ b103 := Nat.ne_of_lt (Nat.lt_of_lt_of_le F88.lt hz103)
          have nq103_b74 : b74 ≠ b103 := Nat.ne_of_lt (Nat.lt_of_lt_of_le F89.lt hz103)
          have nq103_b86 : b86 ≠ b103 := Nat.ne_of_lt (Nat.lt_of_lt_of_le A86.lt hz103)
          have gq103 : n0 ≤ b103 := Nat.le_trans Zs86 hz103
          have N103 := Fr.app N82 Nq103
          have Zs103 : n0 ≤ T103.heap.size := Nat.le_trans Zs86 Kq103.1
          have F104 := F87.keep Kq103 (allS gb86 all0)
          have F105 := F88.keep Kq103 (ninS ne86_b1 nin0)
          have F106 := F89.keep Kq103 (ninS ne86_b74 nin0)
          have hA107 := CHr.keep Kq103 (sfS sf_b86 sf0) hC.1
          have sf_b74 := hA107.safe F89.lt sf_b74
          have sf_b86 := hA107.safe A86.lt sf_b86
          have hkk := Nat.le_trans hkk hA107.2.1
          have hC := hC.trans hA107
          refine os st103 ?_
          show OG p e below Φ T103 m 124 #[iv x0_, iv x1_, iv x2_, iv x3_, iv x4_, iv x5_, iv nn, iv 2, rv b1, rv b74, .unset, .unset, .unset, .unset, .unset] [(.ref b86)]
          exact J124 (2 : Int32) b74 b86 _ _ _ _ _ (X103.more (by decide) (by decide)) rfl N103 Zs103 F104 F105 ⟨Eq103, _, _, _, _, _, Fv103, Fc103, Vq103, by decide, by decide⟩ hS hkk hZ hown hC
    · rw [hk35]
      show OG p e below Φ Tj m 48 #[iv x0_, iv x1_, iv x2_, iv x3_, iv x4_, iv x5_, iv nn, iv 3, rv b1, .unset, .unset, .unset, .unset, .unset, .unset] []
      refine os (fun _ z => XS.iload Xj.here hx rfl (hb hby at_48) rfl z) ?_
      obtain ⟨T108, h108, c108, X108, e108, E108, Ar108, st108⟩ := newP (aty := .char) Xj hx hZ (ow2 hw) ej (g := (mkF m 50 #[iv x0_, iv x1_, iv x2_, iv x3_, iv x4_, iv x5_, iv nn, iv 3, rv b1, .unset, .unset, .unset, .unset, .unset, .unset] [(.int 3)])) rfl (hb hby at_50) rfl (by decide) (cap := 3) (by decide) (by decide) (by decide) (by decide)
      obtain ⟨b108, g108⟩ : ∃ z, z = hj.size := ⟨_, rfl⟩
      rw [← g108] at Ar108 st108
      have ne108_b1 : b1 ≠ b108 := by rw [g108]; exact Nat.ne_of_lt fj1.lt
      have F109 := fj0.ext E108
      have F110 := fj1.ext E108
      have gb108 : n0 ≤ b108 := Nat.le_trans Zj (Nat.le_of_eq g108.symm)
      have Zs108 : n0 ≤ h108.size := Nat.le_trans Zj E108.1
      have hA111 := CHr.ext E108 hC.1
      have sf_b108 := Safe.ext E108 hC.1 (Safe.new (Nat.le_of_eq g108.symm))
      have hkk := Nat.le_trans hkk hA111.2.1
      have hC := hC.trans hA111
      have V108 : Arv Z h108 b108 c108 .char (3 : Int32) [(.int (0 : Int32)), (.int (0 : Int32)), (.int (0 : Int32))] (.int (0 : Int32)) := (Arv.new Ar108 (by decide)).pad (pad_rep [] _ 3)
      refine os st108 ?_
      show OG p e below Φ T108 m 52 #[iv x0_, iv x1_, iv x2_, iv x3_, iv x4_, iv x5_, iv nn, iv 3, rv b1, .unset, .unset, .unset, .unset, .unset, .unset] [(.ref b108)]
      refine os (fun _ z => XS.astore X108.here hx rfl (hb hby at_52) rfl rfl (l' := #[iv x0_, iv x1_, iv x2_, iv x3_, iv x4_, iv x5_, iv nn, iv 3, rv b1, rv b108, .unset, .unset, .unset, .unset, .unset]) rfl z) ?_
      show OG p e below Φ T108 m 54 #[iv x0_, iv x1_, iv x2_, iv x3_, iv x4_, iv x5_, iv nn, iv 3, rv b1, rv b108, .unset, .unset, .unset, .unset, .unset] []
      refine os (fun _ z => XS.iload X108.here hx rfl (hb hby at_54) rfl z) ?_
      refine os (fun _ z => XS.ifNo X108.here hx rfl (hb hby at_56) rfl (XT.i0_le_f (by decide)) z) ?_
      show OG p e below Φ T108 m 59 #[iv x0_, iv x1_, iv x2_, iv x3_, iv x4_, iv x5_, iv nn, iv 3, rv b1, rv b108, .unset, .unset, .unset, .unset, .unset] []
      refine os (fun _ z => XS.aload X108.here hx rfl (hb hby at_59) rfl rfl z) ?_
      refine os (fun _ z => XS.iconst X108.here hx rfl (hb hby at_61) z) ?_
      show OG p e below Φ T108 m 62 #[iv x0_, iv x1_, iv x2_, iv x3_, iv x4_, iv x5_, iv nn, iv 3, rv b1, rv b108, .unset, .unset, .unset, .unset, .unset] [(.int 0), (.ref b108)]
      refine os (fun _ z => XS.iloadN X108.here hx rfl (hb hby at_62) rfl z) ?_
      refine os (fun _ z => X108.ldcI hx hown (mvT hZ (ow3 hw)) rfl (hb hby at_63) z) ?_
      show OG p e below Φ T108 m 65 #[iv x0_, iv x1_, iv x2_, iv x3_, iv x4_, iv x5_, iv nn, iv 3, rv b1, rv b108, .unset, .unset, .unset, .unset, .unset] [(.int 65535), (.int x2_), (.int 0), (.ref b108)]
      refine os (fun _ z => XS.iand X108.here hx rfl (hb hby at_65) rfl z) ?_
      show OG p e below Φ T108 m 66 #[iv x0_, iv x1_, iv x2_, iv x3_, iv x4_, iv x5_, iv nn, iv 3, rv b1, rv b108, .unset, .unset, .unset, .unset, .unset] [(.int (x2_ &&& (65535 : Int32))), (.int 0), (.ref b108)]
      refine os (fun _ z => XT.i2c X108.here hx rfl (hb hby at_66) rfl z) ?_
      show OG p e below Φ T108 m 67 #[iv x0_, iv x1_, iv x2_, iv x3_, iv x4_, iv x5_, iv nn, iv 3, rv b1, rv b108, .unset, .unset, .unset, .unset, .unset] [(.int ((x2_ &&& (65535 : Int32)).toUInt32.toUInt16.toUInt32.toInt32)), (.int 0), (.ref b108)]
      obtain ⟨cl112, Aq112, Cq112, S112, M112, H112, G112⟩ := id V108
      have in112 : ¬ ((0 : Int32) < 0 ∨ cl112.slots.size ≤ (0 : Int32).toNatClampNeg) := inb_of S112 ⟨by decide, by decide⟩
      obtain ⟨T112, h112, X112, e112, W112, st112⟩ := stC X108 hx hZ e108 Aq112 in112 (g := (mkF m 67 #[iv x0_, iv x1_, iv x2_, iv x3_, iv x4_, iv x5_, iv nn, iv 3, rv b1, rv b108, .unset, .unset, .unset, .unset, .unset] [(.int ((x2_ &&& (65535 : Int32)).toUInt32.toUInt16.toUInt32.toInt32)), (.int 0), (.ref b108)])) rfl rfl (hb hby at_67)
      have W112 : Wr h108 h112 b108 (0 : Int32).toNatClampNeg (.int (nar .char ((x2_ &&& (65535 : Int32)).toUInt32.toUInt16.toUInt32.toInt32))) := W112
      have F113 := F109.wr W112 gb108
      have F114 := F110.other W112 ne108_b1
      have hA115 := CHr.wr W112 sf_b108 hC.1
      have sf_b108 := hA115.safe V108.lt sf_b108
      have hkk := Nat.le_trans hkk hA115.2.1
      have hC := hC.trans hA115
      have V112 : Arv Z h112 b108 c108 .char (3 : Int32) [(.int (nar .char ((x2_ &&& (65535 : Int32)).toUInt32.toUInt16.toUInt32.toInt32))), (.int (0 : Int32)), (.int (0 : Int32))] (.int (0 : Int32)) := Arv.set Aq112 Cq112 S112 M112 H112 G112 (fits_nar_char _) W112 0 (by decide) (by show 0 < 3; decide)
      have N112 := Fr.snoc X112 Nj gb108
      have Zs112 : n0 ≤ h112.size := by rw [W112.size]; exact Zs108
      refine os st112 ?_
      show OG p e below Φ T112 m 68 #[iv x0_, iv x1_, iv x2_, iv x3_, iv x4_, iv x5_, iv nn, iv 3, rv b1, rv b108, .unset, .unset, .unset, .unset, .unset] []
      refine os (fun _ z => XS.iload X112.here hx rfl (hb hby at_68) rfl z) ?_
      refine os (fun _ z => XS.iconst X112.here hx rfl (hb hby at_70) z) ?_
      show OG p e below Φ T112 m 71 #[iv x0_, iv x1_, iv x2_, iv x3_, iv x4_, iv x5_, iv nn, iv 3, rv b1, rv b108, .unset, .unset, .unset, .unset, .unset] [(.int 1), (.int 3)]
      refine os (fun _ z => XS.icmpNo X112.here hx rfl (hb hby at_71) rfl (XT.ii_le_f (by decide)) z) ?_
      show OG p e below Φ T112 m 74 #[iv x0_, iv x1_, iv x2_, iv x3_, iv x4_, iv x5_, iv nn, iv 3, rv b1, rv b108, .unset, .unset, .unset, .unset, .unset] []
      refine os (fun _ z => XS.aload X112.here hx rfl (hb hby at_74) rfl rfl z) ?_
      refine os (fun _ z => XS.iconst X112.here hx rfl (hb hby at_76) z) ?_
      show OG p e below Φ T112 m 77 #[iv x0_, iv x1_, iv x2_, iv x3_, iv x4_, iv x5_, iv nn, iv 3, rv b1, rv b108, .unset, .unset, .unset, .unset, .unset] [(.int 1), (.ref b108)]
      refine os (fun _ z => XS.iloadN X112.here hx rfl (hb hby at_77) rfl z) ?_
      refine os (fun _ z => X112.ldcI hx hown (mvT hZ (ow3 hw)) rfl (hb hby at_78) z) ?_
      show OG p e below Φ T112 m 80 #[iv x0_, iv x1_, iv x2_, iv x3_, iv x4_, iv x5_, iv nn, iv 3, rv b1, rv b108, .unset, .unset, .unset, .unset, .unset] [(.int 65535), (.int x3_), (.int 1), (.ref b108)]
      refine os (fun _ z => XS.iand X112.here hx rfl (hb hby at_80) rfl z) ?_
      show OG p e below Φ T112 m 81 #[iv x0_, iv x1_, iv x2_, iv x3_, iv x4_, iv x5_, iv nn, iv 3, rv b1, rv b108, .unset, .unset, .unset, .unset, .unset] [(.int (x3_ &&& (65535 : Int32))), (.int 1), (.ref b108)]
      refine os (fun _ z => XT.i2c X112.here hx rfl (hb hby at_81) rfl z) ?_
      show OG p e below Φ T112 m 82 #[iv x0_, iv x1_, iv x2_, iv x3_, iv x4_, iv x5_, iv nn, iv 3, rv b1, rv b108, .unset, .unset, .unset, .unset, .unset] [(.int ((x3_ &&& (65535 : Int32)).toUInt32.toUInt16.toUInt32.toInt32)), (.int 1), (.ref b108)]
      obtain ⟨cl116, Aq116, Cq116, S116, M116, H116, G116⟩ := id V112
      have in116 : ¬ ((1 : Int32) < 0 ∨ cl116.slots.size ≤ (1 : Int32).toNatClampNeg) := inb_of S116 ⟨by decide, by decide⟩
      obtain ⟨T116, h116, X116, e116, W116, st116⟩ := stC X112 hx hZ e112 Aq116 in116 (g := (mkF m 82 #[iv x0_, iv x1_, iv x2_, iv x3_, iv x4_, iv x5_, iv nn, iv 3, rv b1, rv b108, .unset, .unset, .unset, .unset, .unset] [(.int ((x3_ &&& (65535 : Int32)).toUInt32.toUInt16.toUInt32.toInt32)), (.int 1), (.ref b108)])) rfl rfl (hb hby at_82)
      have W116 : Wr h112 h116 b108 (1 : Int32).toNatClampNeg (.int (nar .char ((x3_ &&& (65535 : Int32)).toUInt32.toUInt16.toUInt32.toInt32))) := W116
      have F117 := F113.wr W116 gb108
      have F118 := F114.other W116 ne108_b1
      have hA119 := CHr.wr W116 sf_b108 hC.1
      have sf_b108 := hA119.safe V112.lt sf_b108
      have hkk := Nat.le_trans hkk hA119.2.1
      have hC := hC.trans hA119
      have V116 : Arv Z h116 b108 c108 .char (3 : Int32) [(.int (nar .char ((x2_ &&& (65535 : Int32)).toUInt32.toUInt16.toUInt32.toInt32))), (.int (nar .char ((x3_ &&& (65535 : Int32)).toUInt32.toUInt16.toUInt32.toInt32))), (.int (0 : Int32))] (.int (0 : Int32)) := Arv.set Aq116 Cq116 S116 M116 H116 G116 (fits_nar_char _) W116 1 (by decide) (by show 1 < 3; decide)
      have N116 := Fr.snoc X116 N112 gb108
      have Zs116 : n0 ≤ h116.size := by rw [W116.size]; exact Zs112
      refine os st116 ?_
      show OG p e below Φ T116 m 83 #[iv x0_, iv x1_, iv x2_, iv x3_, iv x4_, iv x5_, iv nn, iv 3, rv b1, rv b108, .unset, .unset, .unset, .unset, .unset] []
      refine os (fun _ z => XS.iload X116.here hx rfl (hb hby at_83) rfl z) ?_
      refine os (fun _ z => XS.iconst X116.here hx rfl (hb hby at_85) z) ?_
      show OG p e below Φ T116 m 86 #[iv x0_, iv x1_, iv x2_, iv x3_, iv x4_, iv x5_, iv nn, iv 3, rv b1, rv b108, .unset, .unset, .unset, .unset, .unset] [(.int 2), (.int 3)]
      refine os (fun _ z => XS.icmpNo X116.here hx rfl (hb hby at_86) rfl (XT.ii_le_f (by decide)) z) ?_
      show OG p e below Φ T116 m 89 #[iv x0_, iv x1_, iv x2_, iv x3_, iv x4_, iv x5_, iv nn, iv 3, rv b1, rv b108, .unset, .unset, .unset, .unset, .unset] []
      refine os (fun _ z => XS.aload X116.here hx rfl (hb hby at_89) rfl rfl z) ?_
      refine os (fun _ z => XS.iconst X116.here hx rfl (hb hby at_91) z) ?_
      show OG p e below Φ T116 m 92 #[iv x0_, iv x1_, iv x2_, iv x3_, iv x4_, iv x5_, iv nn, iv 3, rv b1, rv b108, .unset, .unset, .unset, .unset, .unset] [(.int 2), (.ref b108)]
      refine os (fun _ z => XS.iload X116.here hx rfl (hb hby at_92) rfl z) ?_
      refine os (fun _ z => X116.ldcI hx hown (mvT hZ (ow3 hw)) rfl (hb hby at_94) z) ?_
      show OG p e below Φ T116 m 96 #[iv x0_, iv x1_, iv x2_, iv x3_, iv x4_, iv x5_, iv nn, iv 3, rv b1, rv b108, .unset, .unset, .unset, .unset, .unset] [(.int 65535), (.int x4_), (.int 2), (.ref b108)]
      refine os (fun _ z => XS.iand X116.here hx rfl (hb hby at_96) rfl z) ?_
      show OG p e below Φ T116 m 97 #[iv x0_, iv x1_, iv x2_, iv x3_, iv x4_, iv x5_, iv nn, iv 3, rv b1, rv b108, .unset, .unset, .unset, .unset, .unset] [(.int (x4_ &&& (65535 : Int32))), (.int 2), (.ref b108)]
      refine os (fun _ z => XT.i2c X116.here hx rfl (hb hby at_97) rfl z) ?_
      show OG p e below Φ T116 m 98 #[iv x0_, iv x1_, iv x2_, iv x3_, iv x4_, iv x5_, iv nn, iv 3, rv b1, rv b108, .unset, .unset, .unset, .unset, .unset] [(.int ((x4_ &&& (65535 : Int32)).toUInt32.toUInt16.toUInt32.toInt32)), (.int 2), (.ref b108)]
      obtain ⟨cl120, Aq120, Cq120, S120, M120, H120, G120⟩ := id V116
      have in120 : ¬ ((2 : Int32) < 0 ∨ cl120.slots.size ≤ (2 : Int32).toNatClampNeg) := inb_of S120 ⟨by decide, by decide⟩
      obtain ⟨T120, h120, X120, e120, W120, st120⟩ := stC X116 hx hZ e116 Aq120 in120 (g := (mkF m 98 #[iv x0_, iv x1_, iv x2_, iv x3_, iv x4_, iv x5_, iv nn, iv 3, rv b1, rv b108, .unset, .unset, .unset, .unset, .unset] [(.int ((x4_ &&& (65535 : Int32)).toUInt32.toUInt16.toUInt32.toInt32)), (.int 2), (.ref b108)])) rfl rfl (hb hby at_98)
      have W120 : Wr h116 h120 b108 (2 : Int32).toNatClampNeg (.int (nar .char ((x4_ &&& (65535 : Int32)).toUInt32.toUInt16.toUInt32.toInt32))) := W120
      have F121 := F117.wr W120 gb108
      have F122 := F118.other W120 ne108_b1
      have hA123 := CHr.wr W120 sf_b108 hC.1
      have sf_b108 := hA123.safe V116.lt sf_b108
      have hkk := Nat.le_trans hkk hA123.2.1
      have hC := hC.trans hA123
      have V120 : Arv Z h120 b108 c108 .char (3 : Int32) [(.int (nar .char ((x2_ &&& (65535 : Int32)).toUInt32.toUInt16.toUInt32.toInt32))), (.int (nar .char ((x3_ &&& (65535 : Int32)).toUInt32.toUInt16.toUInt32.toInt32))), (.int (nar .char ((x4_ &&& (65535 : Int32)).toUInt32.toUInt16.toUInt32.toInt32)))] (.int (0 : Int32)) := Arv.set Aq120 Cq120 S120 M120 H120 G120 (fits_nar_char _) W120 2 (by decide) (by show 2 < 3; decide)
      have N120 := Fr.snoc X120 N116 gb108
      have Zs120 : n0 ≤ h120.size := by rw [W120.size]; exact Zs116
      refine os st120 ?_
      show OG p e below Φ T120 m 99 #[iv x0_, iv x1_, iv x2_, iv x3_, iv x4_, iv x5_, iv nn, iv 3, rv b1, rv b108, .unset, .unset, .unset, .unset, .unset] []
      refine os (fun _ z => XS.iload X120.here hx rfl (hb hby at_99) rfl z) ?_
      refine os (fun _ z => XS.iconst X120.here hx rfl (hb hby at_101) z) ?_
      show OG p e below Φ T120 m 102 #[iv x0_, iv x1_, iv x2_, iv x3_, iv x4_, iv x5_, iv nn, iv 3, rv b1, rv b108, .unset, .unset, .unset, .unset, .unset] [(.int 3), (.int 3)]
      refine os (fun _ z => XS.icmpYes X120.here hx rfl (pc0 := 102) (pc' := 115) rfl (hb hby at_102) rfl (XT.ii_le_t (by decide)) (by decide) (by decide) z) ?_
      show OG p e below Φ T120 m 115 #[iv x0_, iv x1_, iv x2_, iv x3_, iv x4_, iv x5_, iv nn, iv 3, rv b1, rv b108, .unset, .unset, .unset, .unset, .unset] []
      obtain ⟨T124, h124, X124, e124, E124, A124, D124, U124, st124⟩ := newO X120 hx hZ hown (ow4 hw) (ow5 hw) (ow6 hw) e120 (g := (mkF m 115 #[iv x0_, iv x1_, iv x2_, iv x3_, iv x4_, iv x5_, iv nn, iv 3, rv b1, rv b108, .unset, .unset, .unset, .unset, .unset] [])) rfl (hb hby at_115) (by decide) (by decide)
      obtain ⟨b124, g124⟩ : ∃ z, z = h120.size := ⟨_, rfl⟩
      rw [← g124] at A124 D124 st124 U124
      have ne124_b1 : b1 ≠ b124 := by rw [g124]; exact Nat.ne_of_lt F122.lt
      have ne124_b108 : b108 ≠ b124 := by rw [g124]; exact Nat.ne_of_lt V120.lt
      have F125 := F121.ext E124
      have F126 := F122.ext E124
      have F127 := V120.ext E124
      have gb124 : n0 ≤ b124 := Nat.le_trans Zs120 (Nat.le_of_eq g124.symm)
      have Zs124 : n0 ≤ h124.size := Nat.le_trans Zs120 E124.1
      have F124_29 : Fld Z h124 b124 "java/lang/String" "coder" "B" (.int (0 : Int32)) := D124 (Or.inr (ow29 hw)) (ty := .byte) (by decide)
      have F124_31 : Fld Z h124 b124 "java/lang/String" "value" "[B" .null := D124 (Or.inr (ow31 hw)) (ty := (.array .byte)) (by decide)
      have hA128 := CHr.ext E124 hC.1
      have sf_b124 := Safe.ext E124 hC.1 (Safe.new (Nat.le_of_eq g124.symm))
      have sf_b108 := hA128.safe V120.lt sf_b108
      have hkk := Nat.le_trans hkk hA128.2.1
      have hC := hC.trans hA128
      refine os (st124) ?_
      show OG p e below Φ T124 m 118 #[iv x0_, iv x1_, iv x2_, iv x3_, iv x4_, iv x5_, iv nn, iv 3, rv b1, rv b108, .unset, .unset, .unset, .unset, .unset] [(.ref b124)]
      refine os (fun _ z => XS.dup X124.here hx rfl (hb hby at_118) rfl rfl z) ?_
      refine os (fun _ z => XS.aload X124.here hx rfl (hb hby at_119) rfl rfl z) ?_
      show OG p e below Φ T124 m 121 #[iv x0_, iv x1_, iv x2_, iv x3_, iv x4_, iv x5_, iv nn, iv 3, rv b1, rv b108, .unset, .unset, .unset, .unset, .unset] [(.ref b108), (.ref b124), (.ref b124)]
      by_cases hc129 : (255 : Int32) < (nar .char ((x2_ &&& (65535 : Int32)).toUInt32.toUInt16.toUInt32.toInt32))
      · show OG p e below Φ T124 m 121 #[iv x0_, iv x1_, iv x2_, iv x3_, iv x4_, iv x5_, iv nn, iv 3, rv b1, rv b108, .unset, .unset, .unset, .unset, .unset] [(.ref b108), (.ref b124), (.ref b124)]
        obtain ⟨_, T130, L130, X130, hQ130, st130⟩ := own_callSp X124 hx hZ rfl hown (ow7 hw) (ow8 hw) (ow6 hw) (ow9 hw) (by decide) (rsb3_0i1 l Z a0 hw [] b124 b108 c108 qc (nar .char ((x2_ &&& (65535 : Int32)).toUInt32.toUInt16.toUInt32.toInt32)) (nar .char ((x3_ &&& (65535 : Int32)).toUInt32.toUInt16.toUInt32.toInt32)) (nar .char ((x4_ &&& (65535 : Int32)).toUInt32.toUInt16.toUInt32.toInt32)) h124 n0 Zs124 A124 gb124 F124_31 F124_29 F127 (Ne.symm ne124_b108) S_cs hq F125 S_ad S_hb S_lb hc129 (own_narnar _)) e124 (W := 1) (by decide) (by decide) (by decide) (by decide) (pc := 121) (ls := #[iv x0_, iv x1_, iv x2_, iv x3_, iv x4_, iv x5_, iv nn, iv 3, rv b1, rv b108, .unset, .unset, .unset, .unset, .unset]) (stk := [(.ref b108), (.ref b124), (.ref b124)]) (by rw [hml]; rfl) (a := b124) (argsL := [(.ref b108)]) (rest := [(.ref b124)]) (lenOf pd10 rfl) rfl rfl (Nat.le_of_eq rfl) (hb hby at_121)
        obtain ⟨rfl, Nq130, Kq130, Eq130, b130, cb130, Fv130, Fc130, Vq130, hz130⟩ := hQ130
        have nq130_b1 : b1 ≠ b130 := Nat.ne_of_lt (Nat.lt_of_lt_of_le F126.lt hz130)
        have nq130_b108 : b108 ≠ b130 := Nat.ne_of_lt (Nat.lt_of_lt_of_le F127.lt hz130)
        have nq130_b124 : b124 ≠ b130 := Nat.ne_of_lt (Nat.lt_of_lt_of_le A124.lt hz130)
        have gq130 : n0 ≤ b130 := Nat.le_trans Zs124 hz130
        have N130 := Fr.app N120 Nq130
        have Zs130 : n0 ≤ T130.heap.size := Nat.le_trans Zs124 Kq130.1
        have F131 := F125.keep Kq130 (allS gb124 all0)
        have F132 := F126.keep Kq130 (ninS ne124_b1 nin0)
        have F133 := F127.keep Kq130 (ninS ne124_b108 nin0)
        have hA134 := CHr.keep Kq130 (sfS sf_b124 sf0) hC.1
        have sf_b108 := hA134.safe F127.lt sf_b108
        have sf_b124 := hA134.safe A124.lt sf_b124
        have hkk := Nat.le_trans hkk hA134.2.1
        have hC := hC.trans hA134
        refine os st130 ?_
        show OG p e below Φ T130 m 124 #[iv x0_, iv x1_, iv x2_, iv x3_, iv x4_, iv x5_, iv nn, iv 3, rv b1, rv b108, .unset, .unset, .unset, .unset, .unset] [(.ref b124)]
        exact J124 (3 : Int32) b108 b124 _ _ _ _ _ (X130.more (by decide) (by decide)) rfl N130 Zs130 F131 F132 ⟨Eq130, _, _, _, _, _, Fv130, Fc130, Vq130, by decide, by decide⟩ hS hkk hZ hown hC
      · show OG p e below Φ T124 m 121 #[iv x0_, iv x1_, iv x2_, iv x3_, iv x4_, iv x5_, iv nn, iv 3, rv b1, rv b108, .unset, .unset, .unset, .unset, .unset] [(.ref b108), (.ref b124), (.ref b124)]
        by_cases hc135 : (255 : Int32) < (nar .char ((x3_ &&& (65535 : Int32)).toUInt32.toUInt16.toUInt32.toInt32))
        · show OG p e below Φ T124 m 121 #[iv x0_, iv x1_, iv x2_, iv x3_, iv x4_, iv x5_, iv nn, iv 3, rv b1, rv b108, .unset, .unset, .unset, .unset, .unset] [(.ref b108), (.ref b124), (.ref b124)]
          obtain ⟨_, T136, L136, X136, hQ136, st136⟩ := own_callSp X124 hx hZ rfl hown (ow7 hw) (ow8 hw) (ow6 hw) (ow9 hw) (by decide) (rsb3_1i1 l Z a0 hw [] b124 b108 c108 qc (nar .char ((x2_ &&& (65535 : Int32)).toUInt32.toUInt16.toUInt32.toInt32)) (nar .char ((x3_ &&& (65535 : Int32)).toUInt32.toUInt16.toUInt32.toInt32)) (nar .char ((x4_ &&& (65535 : Int32)).toUInt32.toUInt16.toUInt32.toInt32)) h124 n0 Zs124 A124 gb124 F124_31 F124_29 F127 (Ne.symm ne124_b108) S_cs hq F125 S_ad S_hb S_lb hc129 hc135 (own_narnar _)) e124 (W := 1) (by decide) (by decide) (by decide) (by decide) (pc := 121) (ls := #[iv x0_, iv x1_, iv x2_, iv x3_, iv x4_, iv x5_, iv nn, iv 3, rv b1, rv b108, .unset, .unset, .unset, .unset, .unset]) (stk := [(.ref b108), (.ref b124), (.ref b124)]) (by rw [hml]; rfl) (a := b124) (argsL := [(.ref b108)]) (rest := [(.ref b124)]) (lenOf pd10 rfl) rfl rfl (Nat.le_of_eq rfl) (hb hby at_121)
          obtain ⟨rfl, Nq136, Kq136, Eq136, b136, cb136, Fv136, Fc136, Vq136, hz136⟩ := hQ136
          have nq136_b1 : b1 ≠ b136 := Nat.ne_of_lt (Nat.lt_of_lt_of_le F126.lt hz136)
          have nq136_b108 : b108 ≠ b136 := Nat.ne_of_lt (Nat.lt_of_lt_of_le F127.lt hz136)
          have nq136_b124 : b124 ≠ b136 := Nat.ne_of_lt (Nat.lt_of_lt_of_le A124.lt hz136)
          have gq136 : n0 ≤ b136 := Nat.le_trans Zs124 hz136
          have N136 := Fr.app N120 Nq136
          have Zs136 : n0 ≤ T136.heap.size := Nat.le_trans Zs124 Kq136.1
          have F137 := F125.keep Kq136 (allS gb124 all0)
          have F138 := F126.keep Kq136 (ninS ne124_b1 nin0)
          have F139 := F127.keep Kq136 (ninS ne124_b108 nin0)
          have hA140 := CHr.keep Kq136 (sfS sf_b124 sf0) hC.1
          have sf_b108 := hA140.safe F127.lt sf_b108
          have sf_b124 := hA140.safe A124.lt sf_b124
          have hkk := Nat.le_trans hkk hA140.2.1
          have hC := hC.trans hA140
          refine os st136 ?_
          show OG p e below Φ T136 m 124 #[iv x0_, iv x1_, iv x2_, iv x3_, iv x4_, iv x5_, iv nn, iv 3, rv b1, rv b108, .unset, .unset, .unset, .unset, .unset] [(.ref b124)]
          exact J124 (3 : Int32) b108 b124 _ _ _ _ _ (X136.more (by decide) (by decide)) rfl N136 Zs136 F137 F138 ⟨Eq136, _, _, _, _, _, Fv136, Fc136, Vq136, by decide, by decide⟩ hS hkk hZ hown hC
        · show OG p e below Φ T124 m 121 #[iv x0_, iv x1_, iv x2_, iv x3_, iv x4_, iv x5_, iv nn, iv 3, rv b1, rv b108, .unset, .unset, .unset, .unset, .unset] [(.ref b108), (.ref b124), (.ref b124)]
          by_cases hc141 : (255 : Int32) < (nar .char ((x4_ &&& (65535 : Int32)).toUInt32.toUInt16.toUInt32.toInt32))
          · show OG p e below Φ T124 m 121 #[iv x0_, iv x1_, iv x2_, iv x3_, iv x4_, iv x5_, iv nn, iv 3, rv b1, rv b108, .unset, .unset, .unset, .unset, .unset] [(.ref b108), (.ref b124), (.ref b124)]
            obtain ⟨_, T142, L142, X142, hQ142, st142⟩ := own_callSp X124 hx hZ rfl hown (ow7 hw) (ow8 hw) (ow6 hw) (ow9 hw) (by decide) (rsb3_2i1 l Z a0 hw [] b124 b108 c108 qc (nar .char ((x2_ &&& (65535 : Int32)).toUInt32.toUInt16.toUInt32.toInt32)) (nar .char ((x3_ &&& (65535 : Int32)).toUInt32.toUInt16.toUInt32.toInt32)) (nar .char ((x4_ &&& (65535 : Int32)).toUInt32.toUInt16.toUInt32.toInt32)) h124 n0 Zs124 A124 gb124 F124_31 F124_29 F127 (Ne.symm ne124_b108) S_cs hq F125 S_ad S_hb S_lb hc129 hc135 hc141 (own_narnar _)) e124 (W := 1) (by decide) (by decide) (by decide) (by decide) (pc := 121) (ls := #[iv x0_, iv x1_, iv x2_, iv x3_, iv x4_, iv x5_, iv nn, iv 3, rv b1, rv b108, .unset, .unset, .unset, .unset, .unset]) (stk := [(.ref b108), (.ref b124), (.ref b124)]) (by rw [hml]; rfl) (a := b124) (argsL := [(.ref b108)]) (rest := [(.ref b124)]) (lenOf pd10 rfl) rfl rfl (Nat.le_of_eq rfl) (hb hby at_121)
            obtain ⟨rfl, Nq142, Kq142, Eq142, b142, cb142, Fv142, Fc142, Vq142, hz142⟩ := hQ142
            have nq142_b1 : b1 ≠ b142 := Nat.ne_of_lt (Nat.lt_of_lt_of_le F126.lt hz142)
            have nq142_b108 : b108 ≠ b142 := Nat.ne_of_lt (Nat.lt_of_lt_of_le F127.lt hz142)
            have nq142_b124 : b124 ≠ b142 := Nat.ne_of_lt (Nat.lt_of_lt_of_le A124.lt hz142)
            have gq142 : n0 ≤ b142 := Nat.le_trans Zs124 hz142
            have N142 := Fr.app N120 Nq142
            have Zs142 : n0 ≤ T142.heap.size := Nat.le_trans Zs124 Kq142.1
            have F143 := F125.keep Kq142 (allS gb124 all0)
            have F144 := F126.keep Kq142 (ninS ne124_b1 nin0)
            have F145 := F127.keep Kq142 (ninS ne124_b108 nin0)
            have hA146 := CHr.keep Kq142 (sfS sf_b124 sf0) hC.1
            have sf_b108 := hA146.safe F127.lt sf_b108
            have sf_b124 := hA146.safe A124.lt sf_b124
            have hkk := Nat.le_trans hkk hA146.2.1
            have hC := hC.trans hA146
            refine os st142 ?_
            show OG p e below Φ T142 m 124 #[iv x0_, iv x1_, iv x2_, iv x3_, iv x4_, iv x5_, iv nn, iv 3, rv b1, rv b108, .unset, .unset, .unset, .unset, .unset] [(.ref b124)]
            exact J124 (3 : Int32) b108 b124 _ _ _ _ _ (X142.more (by decide) (by decide)) rfl N142 Zs142 F143 F144 ⟨Eq142, _, _, _, _, _, Fv142, Fc142, Vq142, by decide, by decide⟩ hS hkk hZ hown hC
          · show OG p e below Φ T124 m 121 #[iv x0_, iv x1_, iv x2_, iv x3_, iv x4_, iv x5_, iv nn, iv 3, rv b1, rv b108, .unset, .unset, .unset, .unset, .unset] [(.ref b108), (.ref b124), (.ref b124)]
            obtain ⟨_, T147, L147, X147, hQ147, st147⟩ := own_callSp X124 hx hZ rfl hown (ow7 hw) (ow8 hw) (ow6 hw) (ow9 hw) (by decide) (rsl3i1 l Z a0 hw [] b124 b108 c108 qc (nar .char ((x2_ &&& (65535 : Int32)).toUInt32.toUInt16.toUInt32.toInt32)) (nar .char ((x3_ &&& (65535 : Int32)).toUInt32.toUInt16.toUInt32.toInt32)) (nar .char ((x4_ &&& (65535 : Int32)).toUInt32.toUInt16.toUInt32.toInt32)) h124 n0 Zs124 A124 gb124 F124_31 F124_29 F127 (Ne.symm ne124_b108) (S_cs.ext F125.2) hq hc129 hc135 hc141) e124 (W := 1) (by decide) (by decide) (by decide) (by decide) (pc := 121) (ls := #[iv x0_, iv x1_, iv x2_, iv x3_, iv x4_, iv x5_, iv nn, iv 3, rv b1, rv b108, .unset, .unset, .unset, .unset, .unset]) (stk := [(.ref b108), (.ref b124), (.ref b124)]) (by rw [hml]; rfl) (a := b124) (argsL := [(.ref b108)]) (rest := [(.ref b124)]) (lenOf pd10 rfl) rfl rfl (Nat.le_of_eq rfl) (hb hby at_121)
            obtain ⟨rfl, Nq147, Kq147, Eq147, b147, cb147, Fv147, Fc147, Vq147, hz147⟩ := hQ147
            have nq147_b1 : b1 ≠ b147 := Nat.ne_of_lt (Nat.lt_of_lt_of_le F126.lt hz147)
            have nq147_b108 : b108 ≠ b147 := Nat.ne_of_lt (Nat.lt_of_lt_of_le F127.lt hz147)
            have nq147_b124 : b124 ≠ b147 := Nat.ne_of_lt (Nat.lt_of_lt_of_le A124.lt hz147)
            have gq147 : n0 ≤ b147 := Nat.le_trans Zs124 hz147
            have N147 := Fr.app N120 Nq147
            have Zs147 : n0 ≤ T147.heap.size := Nat.le_trans Zs124 Kq147.1
            have F148 := F125.keep Kq147 (allS gb124 all0)
            have F149 := F126.keep Kq147 (ninS ne124_b1 nin0)
            have F150 := F127.keep Kq147 (ninS ne124_b108 nin0)
            have hA151 := CHr.keep Kq147 (sfS sf_b124 sf0) hC.1
            have sf_b108 := hA151.safe F127.lt sf_b108
            have sf_b124 := hA151.safe A124.lt sf_b124
            have hkk := Nat.le_trans hkk hA151.2.1
            have hC := hC.trans hA151
            refine os st147 ?_
            show OG p e below Φ T147 m 124 #[iv x0_, iv x1_, iv x2_, iv x3_, iv x4_, iv x5_, iv nn, iv 3, rv b1, rv b108, .unset, .unset, .unset, .unset, .unset] [(.ref b124)]
            exact J124 (3 : Int32) b108 b124 _ _ _ _ _ (X147.more (by decide) (by decide)) rfl N147 Zs147 F148 F149 ⟨Eq147, _, _, _, _, _, Fv147, Fc147, Vq147, by decide, by decide⟩ hS hkk hZ hown hC
    · rw [hk35]
      show OG p e below Φ Tj m 48 #[iv x0_, iv x1_, iv x2_, iv x3_, iv x4_, iv x5_, iv nn, iv 4, rv b1, .unset, .unset, .unset, .unset, .unset, .unset] []
      refine os (fun _ z => XS.iload Xj.here hx rfl (hb hby at_48) rfl z) ?_
      obtain ⟨T152, h152, c152, X152, e152, E152, Ar152, st152⟩ := newP (aty := .char) Xj hx hZ (ow2 hw) ej (g := (mkF m 50 #[iv x0_, iv x1_, iv x2_, iv x3_, iv x4_, iv x5_, iv nn, iv 4, rv b1, .unset, .unset, .unset, .unset, .unset, .unset] [(.int 4)])) rfl (hb hby at_50) rfl (by decide) (cap := 4) (by decide) (by decide) (by decide) (by decide)
      obtain ⟨b152, g152⟩ : ∃ z, z = hj.size := ⟨_, rfl⟩
      rw [← g152] at Ar152 st152
      have ne152_b1 : b1 ≠ b152 := by rw [g152]; exact Nat.ne_of_lt fj1.lt
      have F153 := fj0.ext E152
      have F154 := fj1.ext E152
      have gb152 : n0 ≤ b152 := Nat.le_trans Zj (Nat.le_of_eq g152.symm)
      have Zs152 : n0 ≤ h152.size := Nat.le_trans Zj E152.1
      have hA155 := CHr.ext E152 hC.1
      have sf_b152 := Safe.ext E152 hC.1 (Safe.new (Nat.le_of_eq g152.symm))
      have hkk := Nat.le_trans hkk hA155.2.1
      have hC := hC.trans hA155
      have V152 : Arv Z h152 b152 c152 .char (4 : Int32) [(.int (0 : Int32)), (.int (0 : Int32)), (.int (0 : Int32)), (.int (0 : Int32))] (.int (0 : Int32)) := (Arv.new Ar152 (by decide)).pad (pad_rep [] _ 4)
      refine os st152 ?_
      show OG p e below Φ T152 m 52 #[iv x0_, iv x1_, iv x2_, iv x3_, iv x4_, iv x5_, iv nn, iv 4, rv b1, .unset, .unset, .unset, .unset, .unset, .unset] [(.ref b152)]
      refine os (fun _ z => XS.astore X152.here hx rfl (hb hby at_52) rfl rfl (l' := #[iv x0_, iv x1_, iv x2_, iv x3_, iv x4_, iv x5_, iv nn, iv 4, rv b1, rv b152, .unset, .unset, .unset, .unset, .unset]) rfl z) ?_
      show OG p e below Φ T152 m 54 #[iv x0_, iv x1_, iv x2_, iv x3_, iv x4_, iv x5_, iv nn, iv 4, rv b1, rv b152, .unset, .unset, .unset, .unset, .unset] []
      refine os (fun _ z => XS.iload X152.here hx rfl (hb hby at_54) rfl z) ?_
      refine os (fun _ z => XS.ifNo X152.here hx rfl (hb hby at_56) rfl (XT.i0_le_f (by decide)) z) ?_
      show OG p e below Φ T152 m 59 #[iv x0_, iv x1_, iv x2_, iv x3_, iv x4_, iv x5_, iv nn, iv 4, rv b1, rv b152, .unset, .unset, .unset, .unset, .unset] []
      refine os (fun _ z => XS.aload X152.here hx rfl (hb hby at_59) rfl rfl z) ?_
      refine os (fun _ z => XS.iconst X152.here hx rfl (hb hby at_61) z) ?_
      show OG p e below Φ T152 m 62 #[iv x0_, iv x1_, iv x2_, iv x3_, iv x4_, iv x5_, iv nn, iv 4, rv b1, rv b152, .unset, .unset, .unset, .unset, .unset] [(.int 0), (.ref b152)]
      refine os (fun _ z => XS.iloadN X152.here hx rfl (hb hby at_62) rfl z) ?_
      refine os (fun _ z => X152.ldcI hx hown (mvT hZ (ow3 hw)) rfl (hb hby at_63) z) ?_
      show OG p e below Φ T152 m 65 #[iv x0_, iv x1_, iv x2_, iv x3_, iv x4_, iv x5_, iv nn, iv 4, rv b1, rv b152, .unset, .unset, .unset, .unset, .unset] [(.int 65535), (.int x2_), (.int 0), (.ref b152)]
      refine os (fun _ z => XS.iand X152.here hx rfl (hb hby at_65) rfl z) ?_
      show OG p e below Φ T152 m 66 #[iv x0_, iv x1_, iv x2_, iv x3_, iv x4_, iv x5_, iv nn, iv 4, rv b1, rv b152, .unset, .unset, .unset, .unset, .unset] [(.int (x2_ &&& (65535 : Int32))), (.int 0), (.ref b152)]
      refine os (fun _ z => XT.i2c X152.here hx rfl (hb hby at_66) rfl z) ?_
      show OG p e below Φ T152 m 67 #[iv x0_, iv x1_, iv x2_, iv x3_, iv x4_, iv x5_, iv nn, iv 4, rv b1, rv b152, .unset, .unset, .unset, .unset, .unset] [(.int ((x2_ &&& (65535 : Int32)).toUInt32.toUInt16.toUInt32.toInt32)), (.int 0), (.ref b152)]
      obtain ⟨cl156, Aq156, Cq156, S156, M156, H156, G156⟩ := id V152
      have in156 : ¬ ((0 : Int32) < 0 ∨ cl156.slots.size ≤ (0 : Int32).toNatClampNeg) := inb_of S156 ⟨by decide, by decide⟩
      obtain ⟨T156, h156, X156, e156, W156, st156⟩ := stC X152 hx hZ e152 Aq156 in156 (g := (mkF m 67 #[iv x0_, iv x1_, iv x2_, iv x3_, iv x4_, iv x5_, iv nn, iv 4, rv b1, rv b152, .unset, .unset, .unset, .unset, .unset] [(.int ((x2_ &&& (65535 : Int32)).toUInt32.toUInt16.toUInt32.toInt32)), (.int 0), (.ref b152)])) rfl rfl (hb hby at_67)
      have W156 : Wr h152 h156 b152 (0 : Int32).toNatClampNeg (.int (nar .char ((x2_ &&& (65535 : Int32)).toUInt32.toUInt16.toUInt32.toInt32))) := W156
      have F157 := F153.wr W156 gb152
      have F158 := F154.other W156 ne152_b1
      have hA159 := CHr.wr W156 sf_b152 hC.1
      have sf_b152 := hA159.safe V152.lt sf_b152
      have hkk := Nat.le_trans hkk hA159.2.1
      have hC := hC.trans hA159
      have V156 : Arv Z h156 b152 c152 .char (4 : Int32) [(.int (nar .char ((x2_ &&& (65535 : Int32)).toUInt32.toUInt16.toUInt32.toInt32))), (.int (0 : Int32)), (.int (0 : Int32)), (.int (0 : Int32))] (.int (0 : Int32)) := Arv.set Aq156 Cq156 S156 M156 H156 G156 (fits_nar_char _) W156 0 (by decide) (by show 0 < 4; decide)
      have N156 := Fr.snoc X156 Nj gb152
      have Zs156 : n0 ≤ h156.size := by rw [W156.size]; exact Zs152
      refine os st156 ?_
      show OG p e below Φ T156 m 68 #[iv x0_, iv x1_, iv x2_, iv x3_, iv x4_, iv x5_, iv nn, iv 4, rv b1, rv b152, .unset, .unset, .unset, .unset, .unset] []
      refine os (fun _ z => XS.iload X156.here hx rfl (hb hby at_68) rfl z) ?_
      refine os (fun _ z => XS.iconst X156.here hx rfl (hb hby at_70) z) ?_
      show OG p e below Φ T156 m 71 #[iv x0_, iv x1_, iv x2_, iv x3_, iv x4_, iv x5_, iv nn, iv 4, rv b1, rv b152, .unset, .unset, .unset, .unset, .unset] [(.int 1), (.int 4)]
      refine os (fun _ z => XS.icmpNo X156.here hx rfl (hb hby at_71) rfl (XT.ii_le_f (by decide)) z) ?_
      show OG p e below Φ T156 m 74 #[iv x0_, iv x1_, iv x2_, iv x3_, iv x4_, iv x5_, iv nn, iv 4, rv b1, rv b152, .unset, .unset, .unset, .unset, .unset] []
      refine os (fun _ z => XS.aload X156.here hx rfl (hb hby at_74) rfl rfl z) ?_
      refine os (fun _ z => XS.iconst X156.here hx rfl (hb hby at_76) z) ?_
      show OG p e below Φ T156 m 77 #[iv x0_, iv x1_, iv x2_, iv x3_, iv x4_, iv x5_, iv nn, iv 4, rv b1, rv b152, .unset, .unset, .unset, .unset, .unset] [(.int 1), (.ref b152)]
      refine os (fun _ z => XS.iloadN X156.here hx rfl (hb hby at_77) rfl z) ?_
      refine os (fun _ z => X156.ldcI hx hown (mvT hZ (ow3 hw)) rfl (hb hby at_78) z) ?_
      show OG p e below Φ T156 m 80 #[iv x0_, iv x1_, iv x2_, iv x3_, iv x4_, iv x5_, iv nn, iv 4, rv b1, rv b152, .unset, .unset, .unset, .unset, .unset] [(.int 65535), (.int x3_), (.int 1), (.ref b152)]
      refine os (fun _ z => XS.iand X156.here hx rfl (hb hby at_80) rfl z) ?_
      show OG p e below Φ T156 m 81 #[iv x0_, iv x1_, iv x2_, iv x3_, iv x4_, iv x5_, iv nn, iv 4, rv b1, rv b152, .unset, .unset, .unset, .unset, .unset] [(.int (x3_ &&& (65535 : Int32))), (.int 1), (.ref b152)]
      refine os (fun _ z => XT.i2c X156.here hx rfl (hb hby at_81) rfl z) ?_
      show OG p e below Φ T156 m 82 #[iv x0_, iv x1_, iv x2_, iv x3_, iv x4_, iv x5_, iv nn, iv 4, rv b1, rv b152, .unset, .unset, .unset, .unset, .unset] [(.int ((x3_ &&& (65535 : Int32)).toUInt32.toUInt16.toUInt32.toInt32)), (.int 1), (.ref b152)]
      obtain ⟨cl160, Aq160, Cq160, S160, M160, H160, G160⟩ := id V156
      have in160 : ¬ ((1 : Int32) < 0 ∨ cl160.slots.size ≤ (1 : Int32).toNatClampNeg) := inb_of S160 ⟨by decide, by decide⟩
      obtain ⟨T160, h160, X160, e160, W160, st160⟩ := stC X156 hx hZ e156 Aq160 in160 (g := (mkF m 82 #[iv x0_, iv x1_, iv x2_, iv x3_, iv x4_, iv x5_, iv nn, iv 4, rv b1, rv b152, .unset, .unset, .unset, .unset, .unset] [(.int ((x3_ &&& (65535 : Int32)).toUInt32.toUInt16.toUInt32.toInt32)), (.int 1), (.ref b152)])) rfl rfl (hb hby at_82)
      have W160 : Wr h156 h160 b152 (1 : Int32).toNatClampNeg (.int (nar .char ((x3_ &&& (65535 : Int32)).toUInt32.toUInt16.toUInt32.toInt32))) := W160
      have F161 := F157.wr W160 gb152
      have F162 := F158.other W160 ne152_b1
      have hA163 := CHr.wr W160 sf_b152 hC.1
      have sf_b152 := hA163.safe V156.lt sf_b152
      have hkk := Nat.le_trans hkk hA163.2.1
      have hC := hC.trans hA163
      have V160 : Arv Z h160 b152 c152 .char (4 : Int32) [(.int (nar .char ((x2_ &&& (65535 : Int32)).toUInt32.toUInt16.toUInt32.toInt32))), (.int (nar .char ((x3_ &&& (65535 : Int32)).toUInt32.toUInt16.toUInt32.toInt32))), (.int (0 : Int32)), (.int (0 : Int32))] (.int (0 : Int32)) := Arv.set Aq160 Cq160 S160 M160 H160 G160 (fits_nar_char _) W160 1 (by decide) (by show 1 < 4; decide)
      have N160 := Fr.snoc X160 N156 gb152
      have Zs160 : n0 ≤ h160.size := by rw [W160.size]; exact Zs156
      refine os st160 ?_
      show OG p e below Φ T160 m 83 #[iv x0_, iv x1_, iv x2_, iv x3_, iv x4_, iv x5_, iv nn, iv 4, rv b1, rv b152, .unset, .unset, .unset, .unset, .unset] []
      refine os (fun _ z => XS.iload X160.here hx rfl (hb hby at_83) rfl z) ?_
      refine os (fun _ z => XS.iconst X160.here hx rfl (hb hby at_85) z) ?_
      show OG p e below Φ T160 m 86 #[iv x0_, iv x1_, iv x2_, iv x3_, iv x4_, iv x5_, iv nn, iv 4, rv b1, rv b152, .unset, .unset, .unset, .unset, .unset] [(.int 2), (.int 4)]
      refine os (fun _ z => XS.icmpNo X160.here hx rfl (hb hby at_86) rfl (XT.ii_le_f (by decide)) z) ?_
      show OG p e below Φ T160 m 89 #[iv x0_, iv x1_, iv x2_, iv x3_, iv x4_, iv x5_, iv nn, iv 4, rv b1, rv b152, .unset, .unset, .unset, .unset, .unset] []
      refine os (fun _ z => XS.aload X160.here hx rfl (hb hby at_89) rfl rfl z) ?_
      refine os (fun _ z => XS.iconst X160.here hx rfl (hb hby at_91) z) ?_
      show OG p e below Φ T160 m 92 #[iv x0_, iv x1_, iv x2_, iv x3_, iv x4_, iv x5_, iv nn, iv 4, rv b1, rv b152, .unset, .unset, .unset, .unset, .unset] [(.int 2), (.ref b152)]
      refine os (fun _ z => XS.iload X160.here hx rfl (hb hby at_92) rfl z) ?_
      refine os (fun _ z => X160.ldcI hx hown (mvT hZ (ow3 hw)) rfl (hb hby at_94) z) ?_
      show OG p e below Φ T160 m 96 #[iv x0_, iv x1_, iv x2_, iv x3_, iv x4_, iv x5_, iv nn, iv 4, rv b1, rv b152, .unset, .unset, .unset, .unset, .unset] [(.int 65535), (.int x4_), (.int 2), (.ref b152)]
      refine os (fun _ z => XS.iand X160.here hx rfl (hb hby at_96) rfl z) ?_
      show OG p e below Φ T160 m 97 #[iv x0_, iv x1_, iv x2_, iv x3_, iv x4_, iv x5_, iv nn, iv 4, rv b1, rv b152, .unset, .unset, .unset, .unset, .unset] [(.int (x4_ &&& (65535 : Int32))), (.int 2), (.ref b152)]
      refine os (fun _ z => XT.i2c X160.here hx rfl (hb hby at_97) rfl z) ?_
      show OG p e below Φ T160 m 98 #[iv x0_, iv x1_, iv x2_, iv x3_, iv x4_, iv x5_, iv nn, iv 4, rv b1, rv b152, .unset, .unset, .unset, .unset, .unset] [(.int ((x4_ &&& (65535 : Int32)).toUInt32.toUInt16.toUInt32.toInt32)), (.int 2), (.ref b152)]
      obtain ⟨cl164, Aq164, Cq164, S164, M164, H164, G164⟩ := id V160
      have in164 : ¬ ((2 : Int32) < 0 ∨ cl164.slots.size ≤ (2 : Int32).toNatClampNeg) := inb_of S164 ⟨by decide, by decide⟩
      obtain ⟨T164, h164, X164, e164, W164, st164⟩ := stC X160 hx hZ e160 Aq164 in164 (g := (mkF m 98 #[iv x0_, iv x1_, iv x2_, iv x3_, iv x4_, iv x5_, iv nn, iv 4, rv b1, rv b152, .unset, .unset, .unset, .unset, .unset] [(.int ((x4_ &&& (65535 : Int32)).toUInt32.toUInt16.toUInt32.toInt32)), (.int 2), (.ref b152)])) rfl rfl (hb hby at_98)
      have W164 : Wr h160 h164 b152 (2 : Int32).toNatClampNeg (.int (nar .char ((x4_ &&& (65535 : Int32)).toUInt32.toUInt16.toUInt32.toInt32))) := W164
      have F165 := F161.wr W164 gb152
      have F166 := F162.other W164 ne152_b1
      have hA167 := CHr.wr W164 sf_b152 hC.1
      have sf_b152 := hA167.safe V160.lt sf_b152
      have hkk := Nat.le_trans hkk hA167.2.1
      have hC := hC.trans hA167
      have V164 : Arv Z h164 b152 c152 .char (4 : Int32) [(.int (nar .char ((x2_ &&& (65535 : Int32)).toUInt32.toUInt16.toUInt32.toInt32))), (.int (nar .char ((x3_ &&& (65535 : Int32)).toUInt32.toUInt16.toUInt32.toInt32))), (.int (nar .char ((x4_ &&& (65535 : Int32)).toUInt32.toUInt16.toUInt32.toInt32))), (.int (0 : Int32))] (.int (0 : Int32)) := Arv.set Aq164 Cq164 S164 M164 H164 G164 (fits_nar_char _) W164 2 (by decide) (by show 2 < 4; decide)
      have N164 := Fr.snoc X164 N160 gb152
      have Zs164 : n0 ≤ h164.size := by rw [W164.size]; exact Zs160
      refine os st164 ?_
      show OG p e below Φ T164 m 99 #[iv x0_, iv x1_, iv x2_, iv x3_, iv x4_, iv x5_, iv nn, iv 4, rv b1, rv b152, .unset, .unset, .unset, .unset, .unset] []
      refine os (fun _ z => XS.iload X164.here hx rfl (hb hby at_99) rfl z) ?_
      refine os (fun _ z => XS.iconst X164.here hx rfl (hb hby at_101) z) ?_
      show OG p e below Φ T164 m 102 #[iv x0_, iv x1_, iv x2_, iv x3_, iv x4_, iv x5_, iv nn, iv 4, rv b1, rv b152, .unset, .unset, .unset, .unset, .unset] [(.int 3), (.int 4)]
      refine os (fun _ z => XS.icmpNo X164.here hx rfl (hb hby at_102) rfl (XT.ii_le_f (by decide)) z) ?_
      show OG p e below Φ T164 m 105 #[iv x0_, iv x1_, iv x2_, iv x3_, iv x4_, iv x5_, iv nn, iv 4, rv b1, rv b152, .unset, .unset, .unset, .unset, .unset] []
      refine os (fun _ z => XS.aload X164.here hx rfl (hb hby at_105) rfl rfl z) ?_
      refine os (fun _ z => XS.iconst X164.here hx rfl (hb hby at_107) z) ?_
      show OG p e below Φ T164 m 108 #[iv x0_, iv x1_, iv x2_, iv x3_, iv x4_, iv x5_, iv nn, iv 4, rv b1, rv b152, .unset, .unset, .unset, .unset, .unset] [(.int 3), (.ref b152)]
      refine os (fun _ z => XS.iload X164.here hx rfl (hb hby at_108) rfl z) ?_
      refine os (fun _ z => X164.ldcI hx hown (mvT hZ (ow3 hw)) rfl (hb hby at_110) z) ?_
      show OG p e below Φ T164 m 112 #[iv x0_, iv x1_, iv x2_, iv x3_, iv x4_, iv x5_, iv nn, iv 4, rv b1, rv b152, .unset, .unset, .unset, .unset, .unset] [(.int 65535), (.int x5_), (.int 3), (.ref b152)]
      refine os (fun _ z => XS.iand X164.here hx rfl (hb hby at_112) rfl z) ?_
      show OG p e below Φ T164 m 113 #[iv x0_, iv x1_, iv x2_, iv x3_, iv x4_, iv x5_, iv nn, iv 4, rv b1, rv b152, .unset, .unset, .unset, .unset, .unset] [(.int (x5_ &&& (65535 : Int32))), (.int 3), (.ref b152)]
      refine os (fun _ z => XT.i2c X164.here hx rfl (hb hby at_113) rfl z) ?_
      show OG p e below Φ T164 m 114 #[iv x0_, iv x1_, iv x2_, iv x3_, iv x4_, iv x5_, iv nn, iv 4, rv b1, rv b152, .unset, .unset, .unset, .unset, .unset] [(.int ((x5_ &&& (65535 : Int32)).toUInt32.toUInt16.toUInt32.toInt32)), (.int 3), (.ref b152)]
      obtain ⟨cl168, Aq168, Cq168, S168, M168, H168, G168⟩ := id V164
      have in168 : ¬ ((3 : Int32) < 0 ∨ cl168.slots.size ≤ (3 : Int32).toNatClampNeg) := inb_of S168 ⟨by decide, by decide⟩
      obtain ⟨T168, h168, X168, e168, W168, st168⟩ := stC X164 hx hZ e164 Aq168 in168 (g := (mkF m 114 #[iv x0_, iv x1_, iv x2_, iv x3_, iv x4_, iv x5_, iv nn, iv 4, rv b1, rv b152, .unset, .unset, .unset, .unset, .unset] [(.int ((x5_ &&& (65535 : Int32)).toUInt32.toUInt16.toUInt32.toInt32)), (.int 3), (.ref b152)])) rfl rfl (hb hby at_114)
      have W168 : Wr h164 h168 b152 (3 : Int32).toNatClampNeg (.int (nar .char ((x5_ &&& (65535 : Int32)).toUInt32.toUInt16.toUInt32.toInt32))) := W168
      have F169 := F165.wr W168 gb152
      have F170 := F166.other W168 ne152_b1
      have hA171 := CHr.wr W168 sf_b152 hC.1
      have sf_b152 := hA171.safe V164.lt sf_b152
      have hkk := Nat.le_trans hkk hA171.2.1
      have hC := hC.trans hA171
      have V168 : Arv Z h168 b152 c152 .char (4 : Int32) [(.int (nar .char ((x2_ &&& (65535 : Int32)).toUInt32.toUInt16.toUInt32.toInt32))), (.int (nar .char ((x3_ &&& (65535 : Int32)).toUInt32.toUInt16.toUInt32.toInt32))), (.int (nar .char ((x4_ &&& (65535 : Int32)).toUInt32.toUInt16.toUInt32.toInt32))), (.int (nar .char ((x5_ &&& (65535 : Int32)).toUInt32.toUInt16.toUInt32.toInt32)))] (.int (0 : Int32)) := Arv.set Aq168 Cq168 S168 M168 H168 G168 (fits_nar_char _) W168 3 (by decide) (by show 3 < 4; decide)
      have N168 := Fr.snoc X168 N164 gb152
      have Zs168 : n0 ≤ h168.size := by rw [W168.size]; exact Zs164
      refine os st168 ?_
      show OG p e below Φ T168 m 115 #[iv x0_, iv x1_, iv x2_, iv x3_, iv x4_, iv x5_, iv nn, iv 4, rv b1, rv b152, .unset, .unset, .unset, .unset, .unset] []
      obtain ⟨T172, h172, X172, e172, E172, A172, D172, U172, st172⟩ := newO X168 hx hZ hown (ow4 hw) (ow5 hw) (ow6 hw) e168 (g := (mkF m 115 #[iv x0_, iv x1_, iv x2_, iv x3_, iv x4_, iv x5_, iv nn, iv 4, rv b1, rv b152, .unset, .unset, .unset, .unset, .unset] [])) rfl (hb hby at_115) (by decide) (by decide)
      obtain ⟨b172, g172⟩ : ∃ z, z = h168.size := ⟨_, rfl⟩
      rw [← g172] at A172 D172 st172 U172
      have ne172_b1 : b1 ≠ b172 := by rw [g172]; exact Nat.ne_of_lt F170.lt
      have ne172_b152 : b152 ≠ b172 := by rw [g172]; exact Nat.ne_of_lt V168.lt
      have F173 := F169.ext E172
      have F174 := F170.ext E172
      have F175 := V168.ext E172
      have gb172 : n0 ≤ b172 := Nat.le_trans Zs168 (Nat.le_of_eq g172.symm)
      have Zs172 : n0 ≤ h172.size := Nat.le_trans Zs168 E172.1
      have F172_29 : Fld Z h172 b172 "java/lang/String" "coder" "B" (.int (0 : Int32)) := D172 (Or.inr (ow29 hw)) (ty := .byte) (by decide)
      have F172_31 : Fld Z h172 b172 "java/lang/String" "value" "[B" .null := D172 (Or.inr (ow31 hw)) (ty := (.array .byte)) (by decide)
      have hA176 := CHr.ext E172 hC.1
      have sf_b172 := Safe.ext E172 hC.1 (Safe.new (Nat.le_of_eq g172.symm))
      have sf_b152 := hA176.safe V168.lt sf_b152
      have hkk := Nat.le_trans hkk hA176.2.1
      have hC := hC.trans hA176
      refine os (st172) ?_
      show OG p e below Φ T172 m 118 #[iv x0_, iv x1_, iv x2_, iv x3_, iv x4_, iv x5_, iv nn, iv 4, rv b1, rv b152, .unset, .unset, .unset, .unset, .unset] [(.ref b172)]
      refine os (fun _ z => XS.dup X172.here hx rfl (hb hby at_118) rfl rfl z) ?_
      refine os (fun _ z => XS.aload X172.here hx rfl (hb hby at_119) rfl rfl z) ?_
      show OG p e below Φ T172 m 121 #[iv x0_, iv x1_, iv x2_, iv x3_, iv x4_, iv x5_, iv nn, iv 4, rv b1, rv b152, .unset, .unset, .unset, .unset, .unset] [(.ref b152), (.ref b172), (.ref b172)]
      by_cases hc177 : (255 : Int32) < (nar .char ((x2_ &&& (65535 : Int32)).toUInt32.toUInt16.toUInt32.toInt32))
      · show OG p e below Φ T172 m 121 #[iv x0_, iv x1_, iv x2_, iv x3_, iv x4_, iv x5_, iv nn, iv 4, rv b1, rv b152, .unset, .unset, .unset, .unset, .unset] [(.ref b152), (.ref b172), (.ref b172)]
        obtain ⟨_, T178, L178, X178, hQ178, st178⟩ := own_callSp X172 hx hZ rfl hown (ow7 hw) (ow8 hw) (ow6 hw) (ow9 hw) (by decide) (rsb4_0i1 l Z a0 hw [] b172 b152 c152 qc (nar .char ((x2_ &&& (65535 : Int32)).toUInt32.toUInt16.toUInt32.toInt32)) (nar .char ((x3_ &&& (65535 : Int32)).toUInt32.toUInt16.toUInt32.toInt32)) (nar .char ((x4_ &&& (65535 : Int32)).toUInt32.toUInt16.toUInt32.toInt32)) (nar .char ((x5_ &&& (65535 : Int32)).toUInt32.toUInt16.toUInt32.toInt32)) h172 n0 Zs172 A172 gb172 F172_31 F172_29 F175 (Ne.symm ne172_b152) S_cs hq F173 S_ad S_hb S_lb hc177 (own_narnar _)) e172 (W := 1) (by decide) (by decide) (by decide) (by decide) (pc := 121) (ls := #[iv x0_, iv x1_, iv x2_, iv x3_, iv x4_, iv x5_, iv nn, iv 4, rv b1, rv b152, .unset, .unset, .unset, .unset, .unset]) (stk := [(.ref b152), (.ref b172), (.ref b172)]) (by rw [hml]; rfl) (a := b172) (argsL := [(.ref b152)]) (rest := [(.ref b172)]) (lenOf pd10 rfl) rfl rfl (Nat.le_of_eq rfl) (hb hby at_121)
        obtain ⟨rfl, Nq178, Kq178, Eq178, b178, cb178, Fv178, Fc178, Vq178, hz178⟩ := hQ178
        have nq178_b1 : b1 ≠ b178 := Nat.ne_of_lt (Nat.lt_of_lt_of_le F174.lt hz178)
        have nq178_b152 : b152 ≠ b178 := Nat.ne_of_lt (Nat.lt_of_lt_of_le F175.lt hz178)
        have nq178_b172 : b172 ≠ b178 := Nat.ne_of_lt (Nat.lt_of_lt_of_le A172.lt hz178)
        have gq178 : n0 ≤ b178 := Nat.le_trans Zs172 hz178
        have N178 := Fr.app N168 Nq178
        have Zs178 : n0 ≤ T178.heap.size := Nat.le_trans Zs172 Kq178.1
        have F179 := F173.keep Kq178 (allS gb172 all0)
        have F180 := F174.keep Kq178 (ninS ne172_b1 nin0)
        have F181 := F175.keep Kq178 (ninS ne172_b152 nin0)
        have hA182 := CHr.keep Kq178 (sfS sf_b172 sf0) hC.1
        have sf_b152 := hA182.safe F175.lt sf_b152
        have sf_b172 := hA182.safe A172.lt sf_b172
        have hkk := Nat.le_trans hkk hA182.2.1
        have hC := hC.trans hA182
        refine os st178 ?_
        show OG p e below Φ T178 m 124 #[iv x0_, iv x1_, iv x2_, iv x3_, iv x4_, iv x5_, iv nn, iv 4, rv b1, rv b152, .unset, .unset, .unset, .unset, .unset] [(.ref b172)]
        exact J124 (4 : Int32) b152 b172 _ _ _ _ _ (X178.more (by decide) (by decide)) rfl N178 Zs178 F179 F180 ⟨Eq178, _, _, _, _, _, Fv178, Fc178, Vq178, by decide, by decide⟩ hS hkk hZ hown hC
      · show OG p e below Φ T172 m 121 #[iv x0_, iv x1_, iv x2_, iv x3_, iv x4_, iv x5_, iv nn, iv 4, rv b1, rv b152, .unset, .unset, .unset, .unset, .unset] [(.ref b152), (.ref b172), (.ref b172)]
        by_cases hc183 : (255 : Int32) < (nar .char ((x3_ &&& (65535 : Int32)).toUInt32.toUInt16.toUInt32.toInt32))
        · show OG p e below Φ T172 m 121 #[iv x0_, iv x1_, iv x2_, iv x3_, iv x4_, iv x5_, iv nn, iv 4, rv b1, rv b152, .unset, .unset, .unset, .unset, .unset] [(.ref b152), (.ref b172), (.ref b172)]
          obtain ⟨_, T184, L184, X184, hQ184, st184⟩ := own_callSp X172 hx hZ rfl hown (ow7 hw) (ow8 hw) (ow6 hw) (ow9 hw) (by decide) (rsb4_1i1 l Z a0 hw [] b172 b152 c152 qc (nar .char ((x2_ &&& (65535 : Int32)).toUInt32.toUInt16.toUInt32.toInt32)) (nar .char ((x3_ &&& (65535 : Int32)).toUInt32.toUInt16.toUInt32.toInt32)) (nar .char ((x4_ &&& (65535 : Int32)).toUInt32.toUInt16.toUInt32.toInt32)) (nar .char ((x5_ &&& (65535 : Int32)).toUInt32.toUInt16.toUInt32.toInt32)) h172 n0 Zs172 A172 gb172 F172_31 F172_29 F175 (Ne.symm ne172_b152) S_cs hq F173 S_ad S_hb S_lb hc177 hc183 (own_narnar _)) e172 (W := 1) (by decide) (by decide) (by decide) (by decide) (pc := 121) (ls := #[iv x0_, iv x1_, iv x2_, iv x3_, iv x4_, iv x5_, iv nn, iv 4, rv b1, rv b152, .unset, .unset, .unset, .unset, .unset]) (stk := [(.ref b152), (.ref b172), (.ref b172)]) (by rw [hml]; rfl) (a := b172) (argsL := [(.ref b152)]) (rest := [(.ref b172)]) (lenOf pd10 rfl) rfl rfl (Nat.le_of_eq rfl) (hb hby at_121)
          obtain ⟨rfl, Nq184, Kq184, Eq184, b184, cb184, Fv184, Fc184, Vq184, hz184⟩ := hQ184
          have nq184_b1 : b1 ≠ b184 := Nat.ne_of_lt (Nat.lt_of_lt_of_le F174.lt hz184)
          have nq184_b152 : b152 ≠ b184 := Nat.ne_of_lt (Nat.lt_of_lt_of_le F175.lt hz184)
          have nq184_b172 : b172 ≠ b184 := Nat.ne_of_lt (Nat.lt_of_lt_of_le A172.lt hz184)
          have gq184 : n0 ≤ b184 := Nat.le_trans Zs172 hz184
          have N184 := Fr.app N168 Nq184
          have Zs184 : n0 ≤ T184.heap.size := Nat.le_trans Zs172 Kq184.1
          have F185 := F173.keep Kq184 (allS gb172 all0)
          have F186 := F174.keep Kq184 (ninS ne172_b1 nin0)
          have F187 := F175.keep Kq184 (ninS ne172_b152 nin0)
          have hA188 := CHr.keep Kq184 (sfS sf_b172 sf0) hC.1
          have sf_b152 := hA188.safe F175.lt sf_b152
          have sf_b172 := hA188.safe A172.lt sf_b172
          have hkk := Nat.le_trans hkk hA188.2.1
          have hC := hC.trans hA188
          refine os st184 ?_
          show OG p e below Φ T184 m 124 #[iv x0_, iv x1_, iv x2_, iv x3_, iv x4_, iv x5_, iv nn, iv 4, rv b1, rv b152, .unset, .unset, .unset, .unset, .unset] [(.ref b172)]
          exact J124 (4 : Int32) b152 b172 _ _ _ _ _ (X184.more (by decide) (by decide)) rfl N184 Zs184 F185 F186 ⟨Eq184, _, _, _, _, _, Fv184, Fc184, Vq184, by decide, by decide⟩ hS hkk hZ hown hC
        · show OG p e below Φ T172 m 121 #[iv x0_, iv x1_, iv x2_, iv x3_, iv x4_, iv x5_, iv nn, iv 4, rv b1, rv b152, .unset, .unset, .unset, .unset, .unset] [(.ref b152), (.ref b172), (.ref b172)]
          by_cases hc189 : (255 : Int32) < (nar .char ((x4_ &&& (65535 : Int32)).toUInt32.toUInt16.toUInt32.toInt32))
          · show OG p e below Φ T172 m 121 #[iv x0_, iv x1_, iv x2_, iv x3_, iv x4_, iv x5_, iv nn, iv 4, rv b1, rv b152, .unset, .unset, .unset, .unset, .unset] [(.ref b152), (.ref b172), (.ref b172)]
            obtain ⟨_, T190, L190, X190, hQ190, st190⟩ := own_callSp X172 hx hZ rfl hown (ow7 hw) (ow8 hw) (ow6 hw) (ow9 hw) (by decide) (rsb4_2i1 l Z a0 hw [] b172 b152 c152 qc (nar .char ((x2_ &&& (65535 : Int32)).toUInt32.toUInt16.toUInt32.toInt32)) (nar .char ((x3_ &&& (65535 : Int32)).toUInt32.toUInt16.toUInt32.toInt32)) (nar .char ((x4_ &&& (65535 : Int32)).toUInt32.toUInt16.toUInt32.toInt32)) (nar .char ((x5_ &&& (65535 : Int32)).toUInt32.toUInt16.toUInt32.toInt32)) h172 n0 Zs172 A172 gb172 F172_31 F172_29 F175 (Ne.symm ne172_b152) S_cs hq F173 S_ad S_hb S_lb hc177 hc183 hc189 (own_narnar _)) e172 (W := 1) (by decide) (by decide) (by decide) (by decide) (pc := 121) (ls := #[iv x0_, iv x1_, iv x2_, iv x3_, iv x4_, iv x5_, iv nn, iv 4, rv b1, rv b152, .unset, .unset, .unset, .unset, .unset]) (stk := [(.ref b152), (.ref b172), (.ref b172)]) (by rw [hml]; rfl) (a := b172) (argsL := [(.ref b152)]) (rest := [(.ref b172)]) (lenOf pd10 rfl) rfl rfl (Nat.le_of_eq rfl) (hb hby at_121)
            obtain ⟨rfl, Nq190, Kq190, Eq190, b190, cb190, Fv190, Fc190, Vq190, hz190⟩ := hQ190
            have nq190_b1 : b1 ≠ b190 := Nat.ne_of_lt (Nat.lt_of_lt_of_le F174.lt hz190)
            have nq190_b152 : b152 ≠ b190 := Nat.ne_of_lt (Nat.lt_of_lt_of_le F175.lt hz190)
            have nq190_b172 : b172 ≠ b190 := Nat.ne_of_lt (Nat.lt_of_lt_of_le A172.lt hz190)
            have gq190 : n0 ≤ b190 := Nat.le_trans Zs172 hz190
            have N190 := Fr.app N168 Nq190
            have Zs190 : n0 ≤ T190.heap.size := Nat.le_trans Zs172 Kq190.1
            have F191 := F173.keep Kq190 (allS gb172 all0)
            have F192 := F174.keep Kq190 (ninS ne172_b1 nin0)
            have F193 := F175.keep Kq190 (ninS ne172_b152 nin0)
            have hA194 := CHr.keep Kq190 (sfS sf_b172 sf0) hC.1
            have sf_b152 := hA194.safe F175.lt sf_b152
            have sf_b172 := hA194.safe A172.lt sf_b172
            have hkk := Nat.le_trans hkk hA194.2.1
            have hC := hC.trans hA194
            refine os st190 ?_
            show OG p e below Φ T190 m 124 #[iv x0_, iv x1_, iv x2_, iv x3_, iv x4_, iv x5_, iv nn, iv 4, rv b1, rv b152, .unset, .unset, .unset, .unset, .unset] [(.ref b172)]
            exact J124 (4 : Int32) b152 b172 _ _ _ _ _ (X190.more (by decide) (by decide)) rfl N190 Zs190 F191 F192 ⟨Eq190, _, _, _, _, _, Fv190, Fc190, Vq190, by decide, by decide⟩ hS hkk hZ hown hC
          · show OG p e below Φ T172 m 121 #[iv x0_, iv x1_, iv x2_, iv x3_, iv x4_, iv x5_, iv nn, iv 4, rv b1, rv b152, .unset, .unset, .unset, .unset, .unset] [(.ref b152), (.ref b172), (.ref b172)]
            by_cases hc195 : (255 : Int32) < (nar .char ((x5_ &&& (65535 : Int32)).toUInt32.toUInt16.toUInt32.toInt32))
            · show OG p e below Φ T172 m 121 #[iv x0_, iv x1_, iv x2_, iv x3_, iv x4_, iv x5_, iv nn, iv 4, rv b1, rv b152, .unset, .unset, .unset, .unset, .unset] [(.ref b152), (.ref b172), (.ref b172)]
              obtain ⟨_, T196, L196, X196, hQ196, st196⟩ := own_callSp X172 hx hZ rfl hown (ow7 hw) (ow8 hw) (ow6 hw) (ow9 hw) (by decide) (rsb4_3i1 l Z a0 hw [] b172 b152 c152 qc (nar .char ((x2_ &&& (65535 : Int32)).toUInt32.toUInt16.toUInt32.toInt32)) (nar .char ((x3_ &&& (65535 : Int32)).toUInt32.toUInt16.toUInt32.toInt32)) (nar .char ((x4_ &&& (65535 : Int32)).toUInt32.toUInt16.toUInt32.toInt32)) (nar .char ((x5_ &&& (65535 : Int32)).toUInt32.toUInt16.toUInt32.toInt32)) h172 n0 Zs172 A172 gb172 F172_31 F172_29 F175 (Ne.symm ne172_b152) S_cs hq F173 S_ad S_hb S_lb hc177 hc183 hc189 hc195 (own_narnar _)) e172 (W := 1) (by decide) (by decide) (by decide) (by decide) (pc := 121) (ls := #[iv x0_, iv x1_, iv x2_, iv x3_, iv x4_, iv x5_, iv nn, iv 4, rv b1, rv b152, .unset, .unset, .unset, .unset, .unset]) (stk := [(.ref b152), (.ref b172), (.ref b172)]) (by rw [hml]; rfl) (a := b172) (argsL := [(.ref b152)]) (rest := [(.ref b172)]) (lenOf pd10 rfl) rfl rfl (Nat.le_of_eq rfl) (hb hby at_121)
              obtain ⟨rfl, Nq196, Kq196, Eq196, b196, cb196, Fv196, Fc196, Vq196, hz196⟩ := hQ196
              have nq196_b1 : b1 ≠ b196 := Nat.ne_of_lt (Nat.lt_of_lt_of_le F174.lt hz196)
              have nq196_b152 : b152 ≠ b196 := Nat.ne_of_lt (Nat.lt_of_lt_of_le F175.lt hz196)
              have nq196_b172 : b172 ≠ b196 := Nat.ne_of_lt (Nat.lt_of_lt_of_le A172.lt hz196)
              have gq196 : n0 ≤ b196 := Nat.le_trans Zs172 hz196
              have N196 := Fr.app N168 Nq196
              have Zs196 : n0 ≤ T196.heap.size := Nat.le_trans Zs172 Kq196.1
              have F197 := F173.keep Kq196 (allS gb172 all0)
              have F198 := F174.keep Kq196 (ninS ne172_b1 nin0)
              have F199 := F175.keep Kq196 (ninS ne172_b152 nin0)
              have hA200 := CHr.keep Kq196 (sfS sf_b172 sf0) hC.1
              have sf_b152 := hA200.safe F175.lt sf_b152
              have sf_b172 := hA200.safe A172.lt sf_b172
              have hkk := Nat.le_trans hkk hA200.2.1
              have hC := hC.trans hA200
              refine os st196 ?_
              show OG p e below Φ T196 m 124 #[iv x0_, iv x1_, iv x2_, iv x3_, iv x4_, iv x5_, iv nn, iv 4, rv b1, rv b152, .unset, .unset, .unset, .unset, .unset] [(.ref b172)]
              exact J124 (4 : Int32) b152 b172 _ _ _ _ _ (X196.more (by decide) (by decide)) rfl N196 Zs196 F197 F198 ⟨Eq196, _, _, _, _, _, Fv196, Fc196, Vq196, by decide, by decide⟩ hS hkk hZ hown hC
            · show OG p e below Φ T172 m 121 #[iv x0_, iv x1_, iv x2_, iv x3_, iv x4_, iv x5_, iv nn, iv 4, rv b1, rv b152, .unset, .unset, .unset, .unset, .unset] [(.ref b152), (.ref b172), (.ref b172)]
              obtain ⟨_, T201, L201, X201, hQ201, st201⟩ := own_callSp X172 hx hZ rfl hown (ow7 hw) (ow8 hw) (ow6 hw) (ow9 hw) (by decide) (rsl4i1 l Z a0 hw [] b172 b152 c152 qc (nar .char ((x2_ &&& (65535 : Int32)).toUInt32.toUInt16.toUInt32.toInt32)) (nar .char ((x3_ &&& (65535 : Int32)).toUInt32.toUInt16.toUInt32.toInt32)) (nar .char ((x4_ &&& (65535 : Int32)).toUInt32.toUInt16.toUInt32.toInt32)) (nar .char ((x5_ &&& (65535 : Int32)).toUInt32.toUInt16.toUInt32.toInt32)) h172 n0 Zs172 A172 gb172 F172_31 F172_29 F175 (Ne.symm ne172_b152) (S_cs.ext F173.2) hq hc177 hc183 hc189 hc195) e172 (W := 1) (by decide) (by decide) (by decide) (by decide) (pc := 121) (ls := #[iv x0_, iv x1_, iv x2_, iv x3_, iv x4_, iv x5_, iv nn, iv 4, rv b1, rv b152, .unset, .unset, .unset, .unset, .unset]) (stk := [(.ref b152), (.ref b172), (.ref b172)]) (by rw [hml]; rfl) (a := b172) (argsL := [(.ref b152)]) (rest := [(.ref b172)]) (lenOf pd10 rfl) rfl rfl (Nat.le_of_eq rfl) (hb hby at_121)
              obtain ⟨rfl, Nq201, Kq201, Eq201, b201, cb201, Fv201, Fc201, Vq201, hz201⟩ := hQ201
              have nq201_b1 : b1 ≠ b201 := Nat.ne_of_lt (Nat.lt_of_lt_of_le F174.lt hz201)
              have nq201_b152 : b152 ≠ b201 := Nat.ne_of_lt (Nat.lt_of_lt_of_le F175.lt hz201)
              have nq201_b172 : b172 ≠ b201 := Nat.ne_of_lt (Nat.lt_of_lt_of_le A172.lt hz201)
              have gq201 : n0 ≤ b201 := Nat.le_trans Zs172 hz201
              have N201 := Fr.app N168 Nq201
              have Zs201 : n0 ≤ T201.heap.size := Nat.le_trans Zs172 Kq201.1
              have F202 := F173.keep Kq201 (allS gb172 all0)
              have F203 := F174.keep Kq201 (ninS ne172_b1 nin0)
              have F204 := F175.keep Kq201 (ninS ne172_b152 nin0)
              have hA205 := CHr.keep Kq201 (sfS sf_b172 sf0) hC.1
              have sf_b152 := hA205.safe F175.lt sf_b152
              have sf_b172 := hA205.safe A172.lt sf_b172
              have hkk := Nat.le_trans hkk hA205.2.1
              have hC := hC.trans hA205
              refine os st201 ?_
              show OG p e below Φ T201 m 124 #[iv x0_, iv x1_, iv x2_, iv x3_, iv x4_, iv x5_, iv nn, iv 4, rv b1, rv b152, .unset, .unset, .unset, .unset, .unset] [(.ref b172)]
              exact J124 (4 : Int32) b152 b172 _ _ _ _ _ (X201.more (by decide) (by decide)) rfl N201 Zs201 F202 F203 ⟨Eq201, _, _, _, _, _, Fv201, Fc201, Vq201, by decide, by decide⟩ hS hkk hZ hown hC
  show OG p e below Φ T1 m 20 #[iv x0_, iv x1_, iv x2_, iv x3_, iv x4_, iv x5_, iv nn, iv ((x1_ &&& (2147483647 : Int32)) % (5 : Int32)), rv b1, .unset, .unset, .unset, .unset, .unset, .unset] []
  refine os (fun _ z => XS.iload X1.here hx rfl (hb hby at_20) rfl z) ?_
  by_cases hc206 : 0 < nn
  · refine os (fun _ z => XS.ifNo X1.here hx rfl (hb hby at_22) rfl (XT.i0_le_f hc206) z) ?_
    show OG p e below Φ T1 m 25 #[iv x0_, iv x1_, iv x2_, iv x3_, iv x4_, iv x5_, iv nn, iv ((x1_ &&& (2147483647 : Int32)) % (5 : Int32)), rv b1, .unset, .unset, .unset, .unset, .unset, .unset] []
    refine os (fun _ z => XS.aload X1.here hx rfl (hb hby at_25) rfl rfl z) ?_
    refine os (fun _ z => XS.iconst X1.here hx rfl (hb hby at_27) z) ?_
    show OG p e below Φ T1 m 28 #[iv x0_, iv x1_, iv x2_, iv x3_, iv x4_, iv x5_, iv nn, iv ((x1_ &&& (2147483647 : Int32)) % (5 : Int32)), rv b1, .unset, .unset, .unset, .unset, .unset, .unset] [(.int 0), (.ref b1)]
    refine os (fun _ z => XS.iload X1.here hx rfl (hb hby at_28) rfl z) ?_
    refine os (fun _ z => XT.i2b X1.here hx rfl (hb hby at_30) rfl z) ?_
    show OG p e below Φ T1 m 31 #[iv x0_, iv x1_, iv x2_, iv x3_, iv x4_, iv x5_, iv nn, iv ((x1_ &&& (2147483647 : Int32)) % (5 : Int32)), rv b1, .unset, .unset, .unset, .unset, .unset, .unset] [(.int (x5_.toInt8.toInt32)), (.int 0), (.ref b1)]
    obtain ⟨cl207, Aq207, S207, M207⟩ := id O1
    obtain ⟨T207, h207, X207, e207, W207, st207⟩ := stB X1 hx hZ e1 Aq207 (inb_of S207 ⟨by decide, hc206⟩) (g := (mkF m 31 #[iv x0_, iv x1_, iv x2_, iv x3_, iv x4_, iv x5_, iv nn, iv ((x1_ &&& (2147483647 : Int32)) % (5 : Int32)), rv b1, .unset, .unset, .unset, .unset, .unset, .unset] [(.int (x5_.toInt8.toInt32)), (.int 0), (.ref b1)])) rfl rfl (hb hby at_31)
    have F208 := F2.wr W207 gb1
    have F209 := O1.same W207
    have hA210 := CHr.wr W207 sf_b1 hC.1
    have sf_b1 := hA210.safe O1.lt sf_b1
    have hkk := Nat.le_trans hkk hA210.2.1
    have hC := hC.trans hA210
    have N207 := Fr.snoc X207 N0 gb1
    have Zs207 : n0 ≤ h207.size := by rw [W207.size]; exact Zs1
    refine os st207 ?_
    show OG p e below Φ T207 m 32 #[iv x0_, iv x1_, iv x2_, iv x3_, iv x4_, iv x5_, iv nn, iv ((x1_ &&& (2147483647 : Int32)) % (5 : Int32)), rv b1, .unset, .unset, .unset, .unset, .unset, .unset] []
    refine os (fun _ z => XS.iload X207.here hx rfl (hb hby at_32) rfl z) ?_
    refine os (fun _ z => XS.iconst X207.here hx rfl (hb hby at_34) z) ?_
    show OG p e below Φ T207 m 35 #[iv x0_, iv x1_, iv x2_, iv x3_, iv x4_, iv x5_, iv nn, iv ((x1_ &&& (2147483647 : Int32)) % (5 : Int32)), rv b1, .unset, .unset, .unset, .unset, .unset, .unset] [(.int 1), (.int nn)]
    by_cases hc211 : (1 : Int32) < nn
    · refine os (fun _ z => XS.icmpNo X207.here hx rfl (hb hby at_35) rfl (XT.ii_le_f hc211) z) ?_
      show OG p e below Φ T207 m 38 #[iv x0_, iv x1_, iv x2_, iv x3_, iv x4_, iv x5_, iv nn, iv ((x1_ &&& (2147483647 : Int32)) % (5 : Int32)), rv b1, .unset, .unset, .unset, .unset, .unset, .unset] []
      refine os (fun _ z => XS.aload X207.here hx rfl (hb hby at_38) rfl rfl z) ?_
      refine os (fun _ z => XS.iload X207.here hx rfl (hb hby at_40) rfl z) ?_
      show OG p e below Φ T207 m 42 #[iv x0_, iv x1_, iv x2_, iv x3_, iv x4_, iv x5_, iv nn, iv ((x1_ &&& (2147483647 : Int32)) % (5 : Int32)), rv b1, .unset, .unset, .unset, .unset, .unset, .unset] [(.int nn), (.ref b1)]
      refine os (fun _ z => XS.iconst X207.here hx rfl (hb hby at_42) z) ?_
      refine os (fun _ z => XS.isub X207.here hx rfl (hb hby at_43) rfl z) ?_
      show OG p e below Φ T207 m 44 #[iv x0_, iv x1_, iv x2_, iv x3_, iv x4_, iv x5_, iv nn, iv ((x1_ &&& (2147483647 : Int32)) % (5 : Int32)), rv b1, .unset, .unset, .unset, .unset, .unset, .unset] [(.int (nn - (1 : Int32))), (.ref b1)]
      refine os (fun _ z => XS.iload X207.here hx rfl (hb hby at_44) rfl z) ?_
      refine os (fun _ z => XT.i2b X207.here hx rfl (hb hby at_46) rfl z) ?_
      show OG p e below Φ T207 m 47 #[iv x0_, iv x1_, iv x2_, iv x3_, iv x4_, iv x5_, iv nn, iv ((x1_ &&& (2147483647 : Int32)) % (5 : Int32)), rv b1, .unset, .unset, .unset, .unset, .unset, .unset] [(.int (x4_.toInt8.toInt32)), (.int (nn - (1 : Int32))), (.ref b1)]
      obtain ⟨cl212, Aq212, S212, M212⟩ := id F209
      obtain ⟨T212, h212, X212, e212, W212, st212⟩ := stB X207 hx hZ e207 Aq212 (inb_of S212 (own_nm1 hc211)) (g := (mkF m 47 #[iv x0_, iv x1_, iv x2_, iv x3_, iv x4_, iv x5_, iv nn, iv ((x1_ &&& (2147483647 : Int32)) % (5 : Int32)), rv b1, .unset, .unset, .unset, .unset, .unset, .unset] [(.int (x4_.toInt8.toInt32)), (.int (nn - (1 : Int32))), (.ref b1)])) rfl rfl (hb hby at_47)
      have F213 := F208.wr W212 gb1
      have F214 := F209.same W212
      have hA215 := CHr.wr W212 sf_b1 hC.1
      have sf_b1 := hA215.safe F209.lt sf_b1
      have hkk := Nat.le_trans hkk hA215.2.1
      have hC := hC.trans hA215
      have N212 := Fr.snoc X212 N207 gb1
      have Zs212 : n0 ≤ h212.size := by rw [W212.size]; exact Zs207
      refine os st212 ?_
      show OG p e below Φ T212 m 48 #[iv x0_, iv x1_, iv x2_, iv x3_, iv x4_, iv x5_, iv nn, iv ((x1_ &&& (2147483647 : Int32)) % (5 : Int32)), rv b1, .unset, .unset, .unset, .unset, .unset, .unset] []
      exact J48  _ _ _ _ _ (X212.more (by decide) (by decide)) e212 N212 Zs212 F213 F214 hS hkk hZ hown hC
    · refine os (fun _ z => XS.icmpYes X207.here hx rfl (pc0 := 35) (pc' := 48) rfl (hb hby at_35) rfl (XT.ii_le_t hc211) (by decide) (by decide) z) ?_
      show OG p e below Φ T207 m 48 #[iv x0_, iv x1_, iv x2_, iv x3_, iv x4_, iv x5_, iv nn, iv ((x1_ &&& (2147483647 : Int32)) % (5 : Int32)), rv b1, .unset, .unset, .unset, .unset, .unset, .unset] []
      exact J48  _ _ _ _ _ (X207.more (by decide) (by decide)) e207 N207 Zs207 F208 F209 hS hkk hZ hown hC
  · refine os (fun _ z => XS.ifYes X1.here hx rfl (pc0 := 22) (pc' := 32) rfl (hb hby at_22) rfl (XT.i0_le_t hc206) (by decide) (by decide) z) ?_
    show OG p e below Φ T1 m 32 #[iv x0_, iv x1_, iv x2_, iv x3_, iv x4_, iv x5_, iv nn, iv ((x1_ &&& (2147483647 : Int32)) % (5 : Int32)), rv b1, .unset, .unset, .unset, .unset, .unset, .unset] []
    refine os (fun _ z => XS.iload X1.here hx rfl (hb hby at_32) rfl z) ?_
    refine os (fun _ z => XS.iconst X1.here hx rfl (hb hby at_34) z) ?_
    show OG p e below Φ T1 m 35 #[iv x0_, iv x1_, iv x2_, iv x3_, iv x4_, iv x5_, iv nn, iv ((x1_ &&& (2147483647 : Int32)) % (5 : Int32)), rv b1, .unset, .unset, .unset, .unset, .unset, .unset] [(.int 1), (.int nn)]
    by_cases hc216 : (1 : Int32) < nn
    · refine os (fun _ z => XS.icmpNo X1.here hx rfl (hb hby at_35) rfl (XT.ii_le_f hc216) z) ?_
      show OG p e below Φ T1 m 38 #[iv x0_, iv x1_, iv x2_, iv x3_, iv x4_, iv x5_, iv nn, iv ((x1_ &&& (2147483647 : Int32)) % (5 : Int32)), rv b1, .unset, .unset, .unset, .unset, .unset, .unset] []
      refine os (fun _ z => XS.aload X1.here hx rfl (hb hby at_38) rfl rfl z) ?_
      refine os (fun _ z => XS.iload X1.here hx rfl (hb hby at_40) rfl z) ?_
      show OG p e below Φ T1 m 42 #[iv x0_, iv x1_, iv x2_, iv x3_, iv x4_, iv x5_, iv nn, iv ((x1_ &&& (2147483647 : Int32)) % (5 : Int32)), rv b1, .unset, .unset, .unset, .unset, .unset, .unset] [(.int nn), (.ref b1)]
      refine os (fun _ z => XS.iconst X1.here hx rfl (hb hby at_42) z) ?_
      refine os (fun _ z => XS.isub X1.here hx rfl (hb hby at_43) rfl z) ?_
      show OG p e below Φ T1 m 44 #[iv x0_, iv x1_, iv x2_, iv x3_, iv x4_, iv x5_, iv nn, iv ((x1_ &&& (2147483647 : Int32)) % (5 : Int32)), rv b1, .unset, .unset, .unset, .unset, .unset, .unset] [(.int (nn - (1 : Int32))), (.ref b1)]
      refine os (fun _ z => XS.iload X1.here hx rfl (hb hby at_44) rfl z) ?_
      refine os (fun _ z => XT.i2b X1.here hx rfl (hb hby at_46) rfl z) ?_
      show OG p e below Φ T1 m 47 #[iv x0_, iv x1_, iv x2_, iv x3_, iv x4_, iv x5_, iv nn, iv ((x1_ &&& (2147483647 : Int32)) % (5 : Int32)), rv b1, .unset, .unset, .unset, .unset, .unset, .unset] [(.int (x4_.toInt8.toInt32)), (.int (nn - (1 : Int32))), (.ref b1)]
      obtain ⟨cl217, Aq217, S217, M217⟩ := id O1
      obtain ⟨T217, h217, X217, e217, W217, st217⟩ := stB X1 hx hZ e1 Aq217 (inb_of S217 (own_nm1 hc216)) (g := (mkF m 47 #[iv x0_, iv x1_, iv x2_, iv x3_, iv x4_, iv x5_, iv nn, iv ((x1_ &&& (2147483647 : Int32)) % (5 : Int32)), rv b1, .unset, .unset, .unset, .unset, .unset, .unset] [(.int (x4_.toInt8.toInt32)), (.int (nn - (1 : Int32))), (.ref b1)])) rfl rfl (hb hby at_47)
      have F218 := F2.wr W217 gb1
      have F219 := O1.same W217
      have hA220 := CHr.wr W217 sf_b1 hC.1
      have sf_b1 := hA220.safe O1.lt sf_b1
      have hkk := Nat.le_trans hkk hA220.2.1
      have hC := hC.trans hA220
      have N217 := Fr.snoc X217 N0 gb1
      have Zs217 : n0 ≤ h217.size := by rw [W217.size]; exact Zs1
      refine os st217 ?_
      show OG p e below Φ T217 m 48 #[iv x0_, iv x1_, iv x2_, iv x3_, iv x4_, iv x5_, iv nn, iv ((x1_ &&& (2147483647 : Int32)) % (5 : Int32)), rv b1, .unset, .unset, .unset, .unset, .unset, .unset] []
      exact J48  _ _ _ _ _ (X217.more (by decide) (by decide)) e217 N217 Zs217 F218 F219 hS hkk hZ hown hC
    · refine os (fun _ z => XS.icmpYes X1.here hx rfl (pc0 := 35) (pc' := 48) rfl (hb hby at_35) rfl (XT.ii_le_t hc216) (by decide) (by decide) z) ?_
      show OG p e below Φ T1 m 48 #[iv x0_, iv x1_, iv x2_, iv x3_, iv x4_, iv x5_, iv nn, iv ((x1_ &&& (2147483647 : Int32)) % (5 : Int32)), rv b1, .unset, .unset, .unset, .unset, .unset, .unset] []
      exact J48  _ _ _ _ _ (X1.more (by decide) (by decide)) e1 N0 Zs1 F2 O1 hS hkk hZ hown hC

set_option maxRecDepth 65536 in
set_option maxHeartbeats 40000000 in
theorem comes_1 {Post : Tables → Env → Array Value → State → Outcome → State → Prop} (hpost : ∀ tb e args s v u, (limb_1_1.after args s (.returned v) u = true ∧ limb_1_2.after args s (.returned v) u = true ∧ True) → FramedW s (.returned v) u (Jvm.fieldLocs frame_1_writes args s ++ Jvm.arrayLocs frame_1_arrays args s ++ Jvm.staticLocs frame_1_statics s) 32 1216 → Post tb e args s (.returned v) u) :
    ArmFor flags0 classFile x code maxLocals ret World_1 tables_1 room_1 Calls_1 rest_1 Pre_1 Post := by
  intro l hfl _ _ p e ha hc hk s m args below hf hA hF happ hP
  obtain ⟨hcalls, hrest, hpre⟩ := hP
  obtain ⟨-, -, -, hnamed, -, -, -, hat⟩ := (Spec.applies_iff hf).mp happ
  obtain ⟨hg, hn⟩ := and_e (Cond.before_iff.mp (show (Jvm.Cond.and given_1 narrow_1).before args s = true from hpre))
  obtain ⟨g0, r0⟩ := and_e hg
  obtain ⟨k0, r1⟩ := and_e r0
  obtain ⟨k1, r2⟩ := and_e r1
  obtain ⟨k2, r3⟩ := and_e r2
  obtain ⟨k3, r4⟩ := and_e r3
  obtain ⟨k4, r5⟩ := and_e r4
  have k5 := r5
  obtain ⟨w0, w1, w2, w3, w4, w5, rfl⟩ : ∃ w0 w1 w2 w3 w4 w5 : Value, args = #[w0, w1, w2, w3, w4, w5] := by
    have hs : args.size = 6 := by simpa [Cond.value, given_1] using g0
    obtain ⟨L⟩ := args
    match L, hs with
    | [w0, w1, w2, w3, w4, w5], _ => exact ⟨w0, w1, w2, w3, w4, w5, rfl⟩
  have hw := fun d (hd : d ∈ tables_1) => atoms_spec (ws := Jvm.Cond.code x code maxLocals ret :: tables_1) hat d (List.mem_cons_of_mem _ hd)
  have hfit : Fit s := fun {y c} hc i hi => by
    obtain ⟨ha, rfl⟩ := Array.getElem?_eq_some_iff.mp hc
    have q := List.all_eq_true.mp ((Array.all_eq_true_iff_forall_mem.mp hF) _ (Array.getElem_mem ha)) i (List.mem_range.mpr hi)
    simpa [Array.getElem?_eq_getElem hi] using q
  obtain ⟨i0, ei0⟩ := is_v k0
  obtain rfl : w0 = (.int i0) := Option.some.inj ei0
  obtain ⟨i1, ei1⟩ := is_v k1
  obtain rfl : w1 = (.int i1) := Option.some.inj ei1
  obtain ⟨i2, ei2⟩ := is_v k2
  obtain rfl : w2 = (.int i2) := Option.some.inj ei2
  obtain ⟨i3, ei3⟩ := is_v k3
  obtain rfl : w3 = (.int i3) := Option.some.inj ei3
  obtain ⟨i4, ei4⟩ := is_v k4
  obtain rfl : w4 = (.int i4) := Option.some.inj ei4
  obtain ⟨i5, ei5⟩ := is_v k5
  obtain rfl : w5 = (.int i5) := Option.some.inj ei5
  have hrc : rest_1_c.before _ s = true := hrest
  rw [rest_1_c_eq] at hrc
  have hsets := (atoms_of jdkStatics_1 hrc).1
  obtain ⟨qc, v_q⟩ := is_v (Cond.before_iff.mp (hsets _ (List.mem_of_getElem? (i := 1) rfl)))
  have S_cs := Sta.start v_q (Or.inl (hsets _ (List.mem_of_getElem? (i := 0) rfl)))
  have hq : ¬ qc = 0 := fun z => by have u := not_v (Cond.before_iff.mp (hsets _ (List.mem_of_getElem? (i := 2) rfl))); rw [eq_i v_q (Term.int_eval 0) (by rw [z])] at u; cases u
  have vS_ad := own_eqV (Term.int_eval 1) rfl (Cond.before_iff.mp (hsets _ (List.mem_of_getElem? (i := 12) rfl)))
  have S_ad := Sta.start vS_ad (Or.inl (hsets _ (List.mem_of_getElem? (i := 11) rfl)))
  have vS_hb := own_eqV (Term.int_eval 0) rfl (Cond.before_iff.mp (hsets _ (List.mem_of_getElem? (i := 15) rfl)))
  have S_hb := Sta.start vS_hb (Or.inl (hsets _ (List.mem_of_getElem? (i := 14) rfl)))
  have vS_lb := own_eqV (Term.int_eval 8) rfl (Cond.before_iff.mp (hsets _ (List.mem_of_getElem? (i := 18) rfl)))
  have S_lb := Sta.start vS_lb (Or.inl (hsets _ (List.mem_of_getElem? (i := 17) rfl)))
  obtain ⟨n, o, h1, h2, h3, _, L, rfl, ⟨rfl, N⟩, -, hq⟩ := rm0 l s _ hw tables_1 i0 i1 i2 i3 i4 i5 qc s.heap s.heap.size (Nat.le_refl _) (Old.start s) S_cs hq S_ad S_hb S_lb p e ha hc hk s m _ below hf ((Spec.applies_iff_loose hf).mp happ).1 ⟨rfl, State.Warmed39.refl s, rfl, CHv.start (own_EW hw) (fun p hp => hcalls.1 p hp) (hsets _ (List.mem_of_getElem? (i := 2) rfl)) (ow1 hw) (ow5 hw), fun _ hx => nomatch hx⟩ trivial
  refine ⟨n, _, h1, h2, h3, hpost _ _ _ _ _ _ ⟨Cond.after_iff.mpr rfl, Cond.after_iff.mpr (eq_i res_at (Term.int_eval (1)) rfl), trivial⟩ ⟨hq.1, hq.2.1, hq.2.2.1, (hq.2.2.2.sift fun y hy => Or.inr (N y hy)).mono (by decide) (by decide)⟩⟩
theorem main_1_1 : Claimed_1_1 := comes_1 fun _ _ _ _ _ _ h hF => ⟨h.1, hF⟩
theorem main_1_2 : Claimed_1_2 := comes_1 fun _ _ _ _ _ _ h hF => ⟨h.2.1, hF⟩
end Jvm.Pilot.@@N@@
namespace Jvm.Pilot.@@N@@
open Jvm Jvm.ClassFile Sem Op Lib Jvm.Free Jvm.Stand Jvm.Pilot.@@N@@.Jvm.D
/-! MADE BY PROGRAM (witnessworld.py) out of the Statement's table words and the real class files: 20 classes; the members and pool entries that the words name. The judged class is class 1, her method 1. -/
namespace start1
open Jvm.ClassFile
def u (s : String) : CpInfo := .utf8 (stringToUtf16 s)
/-- a pool by its gaps: so many unusable entries, then the entry; so many at the end -/
def gap : Nat → List CpInfo → List CpInfo
  | 0, r => r
  | n + 1, r => .unusable :: gap n r
def poolList (es : List (Nat × CpInfo)) (last : Nat) : List CpInfo := es.foldr (fun e r => gap e.1 (e.2 :: r)) (gap last [])
def pool (es : List (Nat × CpInfo)) (last : Nat) : Array CpInfo := ⟨poolList es last⟩
def fileOf (pool : Array CpInfo) (this : Nat) (attrs : Array Attribute := #[]) (ms : Array MethodInfo := #[]) (fl : Nat := 33) (sup : Nat := 0) (ifs : Array Nat := #[]) (fds : Array FieldInfo := #[]) : ClassFile where
  minorVersion := 0
  majorVersion := 65
  constantPool := pool
  accessFlags := fl
  thisClass := this
  superClass := sup
  interfaces := ifs
  fields := fds
  methods := ms
  attributes := attrs
def plain (name : String) (sup : Option ClassId) : Class where
  name := name
  kind := .ordinary
  loader := none
  accessFlags := 33
  super := sup
  interfaces := #[]
  cf := none
  fields := #[]
  methods := #[]
  instanceTypes := #[]
  staticTypes := #[]
  resolved := #[]
  callSites := []
  init := .initialized
  statics := none
  mirror := none

def pool0 : Array CpInfo := pool [(5, u "<init>"), (0, u "()V"), (1, .class_ 10), (1, u "java/lang/Object")] 113

def k0c0 : Code := { maxStack := 0, maxLocals := 1, code := object_method_1_code, exceptionTable := #[], attributes := #[] }
def k0m0 : Method := { name := "<init>", desc := "()V", sig := { parameters := [], returnType := none }, accessFlags := 1, code := some k0c0 }
/-- java/lang/Object -/
def k0 : Class := { plain "java/lang/Object" none with
  accessFlags := 33
  interfaces := #[]
  cf := some (fileOf pool0 8 #[] #[{ accessFlags := 1, nameIndex := 5, descriptorIndex := 6, attributes := #[] }] 33 0 #[] #[])
  fields := #[]
  methods := #[k0m0]
  instanceTypes := #[]
  staticTypes := #[]
  resolved := Array.replicate 124 none
  statics := none }

def pool1 : Array CpInfo := pool [(2, .class_ 4), (1, u "java/lang/Object"), (0, u "<init>"), (0, u "()V"), (0, .integer 2147483647), (0, .integer 65535), (0, .class_ 10), (0, u "java/lang/String"), (0, .methodref 9 12), (0, .nameAndType 5 13), (0, u "([C)V"), (0, .methodref 15 16), (0, .class_ 17), (0, .nameAndType 18 19), (0, u "com/example/bindery/bindery/service/KeptPictures"), (0, u "size"), (0, u "(Ljava/lang/String;[B)J"), (0, .long 2), (1, .class_ 23), (0, u "com/example/bindery/bindery/service/KeptPicturesSizePinLaw"), (2, u "law"), (0, u "(IIIIII)Z")] 7

def k1m0 : Method := { name := "<init>", desc := "()V", sig := { parameters := [], returnType := none }, accessFlags := 1, code := none }
def k1c1 : Code := { maxStack := 8, maxLocals := 15, code := code, exceptionTable := #[], attributes := #[] }
def k1m1 : Method := { name := "law", desc := "(IIIIII)Z", sig := { parameters := [.int, .int, .int, .int, .int, .int], returnType := some .boolean }, accessFlags := 9, code := some k1c1 }
/-- com/example/bindery/bindery/service/KeptPicturesSizePinLaw -/
def k1 : Class := { plain "com/example/bindery/bindery/service/KeptPicturesSizePinLaw" (some 0) with
  accessFlags := 49
  interfaces := #[]
  cf := some (fileOf pool1 22 #[] #[{ accessFlags := 1, nameIndex := 5, descriptorIndex := 6, attributes := #[] }, { accessFlags := 9, nameIndex := 26, descriptorIndex := 27, attributes := #[] }] 49 2 #[] #[])
  fields := #[]
  methods := #[k1m0, k1m1]
  instanceTypes := #[]
  staticTypes := #[]
  resolved := Array.replicate 35 none
  statics := none }

def pool2 : Array CpInfo := pool [(1, .class_ 2), (0, u "java/io/Serializable"), (0, .class_ 4), (0, u "java/lang/Object")] 2

/-- java/io/Serializable -/
def k2 : Class := { plain "java/io/Serializable" (some 0) with
  accessFlags := 1537
  interfaces := #[]
  cf := some (fileOf pool2 1 #[] #[] 1537 3 #[] #[])
  fields := #[]
  methods := #[]
  instanceTypes := #[]
  staticTypes := #[]
  resolved := Array.replicate 7 none
  statics := none }

def pool3 : Array CpInfo := pool [(1, .class_ 2), (0, u "java/lang/Comparable"), (0, .class_ 4), (0, u "java/lang/Object")] 7

/-- java/lang/Comparable -/
def k3 : Class := { plain "java/lang/Comparable" (some 0) with
  accessFlags := 1537
  interfaces := #[]
  cf := some (fileOf pool3 1 #[] #[] 1537 3 #[] #[])
  fields := #[]
  methods := #[]
  instanceTypes := #[]
  staticTypes := #[]
  resolved := Array.replicate 12 none
  statics := none }

def pool4 : Array CpInfo := pool [(2, .class_ 4), (1, u "java/lang/CharSequence"), (42, .class_ 48), (0, u "java/lang/CharSequence$1CodePointIterator"), (10, .class_ 60), (0, u "java/lang/CharSequence$1CharIterator"), (5, .class_ 67), (0, u "java/lang/Object")] 63

/-- java/lang/CharSequence -/
def k4 : Class := { plain "java/lang/CharSequence" (some 0) with
  accessFlags := 1537
  interfaces := #[]
  cf := some (fileOf pool4 2 #[.nestMembers #[47, 59]] #[] 1537 66 #[] #[])
  fields := #[]
  methods := #[]
  instanceTypes := #[]
  staticTypes := #[]
  resolved := Array.replicate 131 none
  statics := none }

def pool5 : Array CpInfo := pool [(1, .class_ 2), (0, u "java/lang/constant/Constable"), (0, .class_ 4), (0, u "java/lang/Object")] 6

/-- java/lang/constant/Constable -/
def k5 : Class := { plain "java/lang/constant/Constable" (some 0) with
  accessFlags := 1537
  interfaces := #[]
  cf := some (fileOf pool5 1 #[] #[] 1537 3 #[] #[])
  fields := #[]
  methods := #[]
  instanceTypes := #[]
  staticTypes := #[]
  resolved := Array.replicate 11 none
  statics := none }

def pool6 : Array CpInfo := pool [(1, .class_ 2), (0, u "java/lang/constant/ConstantDesc"), (0, .class_ 4), (0, u "java/lang/Object")] 32

/-- java/lang/constant/ConstantDesc -/
def k6 : Class := { plain "java/lang/constant/ConstantDesc" (some 0) with
  accessFlags := 1537
  interfaces := #[]
  cf := some (fileOf pool6 1 #[] #[] 1537 3 #[] #[])
  fields := #[]
  methods := #[]
  instanceTypes := #[]
  staticTypes := #[]
  resolved := Array.replicate 37 none
  statics := none }

def pool7 : Array CpInfo := pool [(1, .methodref 2 3), (0, .class_ 4), (0, .nameAndType 5 6), (0, u "java/lang/Object"), (0, u "<init>"), (0, u "()V"), (0, .string 8), (0, u ""), (0, .fieldref 10 11), (0, .class_ 12), (0, .nameAndType 13 14), (0, u "java/lang/String"), (0, u "value"), (0, u "[B"), (0, .fieldref 10 16), (0, .nameAndType 17 18), (0, u "coder"), (0, u "B"), (2, u "hash"), (0, u "I"), (2, u "hashIsZero"), (0, u "Z"), (0, .methodref 10 28), (0, .nameAndType 5 29), (0, u "([CIILjava/lang/Void;)V"), (8, .fieldref 10 39), (0, .nameAndType 40 26), (0, u "COMPACT_STRINGS"), (1, .class_ 44), (1, u "java/lang/StringUTF16"), (0, u "compress"), (1, .methodref 42 48), (0, .nameAndType 49 50), (0, u "coderFromArrayLen"), (0, u "([BI)B"), (126, .methodref 42 178), (0, .nameAndType 45 179), (0, u "([CII)[B"), (154, u "()I"), (0, .methodref 10 336), (0, .nameAndType 17 337), (0, u "()B"), (169, u "length"), (67, .class_ 576), (0, u "java/lang/CharSequence"), (22, u "CASE_INSENSITIVE_ORDER"), (0, u "Ljava/util/Comparator;"), (409, u "([C)V"), (90, u "serialPersistentFields"), (0, u "[Ljava/io/ObjectStreamField;"), (0, .class_ 1104), (0, u "java/lang/String$CaseInsensitiveComparator"), (1, .class_ 1107), (0, u "java/io/Serializable"), (0, .class_ 1109), (0, u "java/lang/Comparable"), (0, .class_ 1111), (0, u "java/lang/constant/Constable"), (0, .class_ 1113), (0, u "java/lang/constant/ConstantDesc"), (2, u "serialVersionUID"), (0, u "J"), (3, u "REPL"), (0, u "C"), (2, u "LATIN1"), (1, u "UTF16")] 323

def k7m0 : Method := { name := "<init>", desc := "()V", sig := { parameters := [], returnType := none }, accessFlags := 1, code := none }
def k7c1 : Code := { maxStack := 5, maxLocals := 2, code := jdk_42_method_3_code, exceptionTable := #[], attributes := #[] }
def k7m1 : Method := { name := "<init>", desc := "([C)V", sig := { parameters := [(.array .char)], returnType := none }, accessFlags := 1, code := some k7c1 }
def k7c2 : Code := { maxStack := 2, maxLocals := 1, code := jdk_42_method_54_code, exceptionTable := #[], attributes := #[] }
def k7m2 : Method := { name := "length", desc := "()I", sig := { parameters := [], returnType := some .int }, accessFlags := 1, code := some k7c2 }
def k7c3 : Code := { maxStack := 4, maxLocals := 6, code := jdk_42_method_149_code, exceptionTable := #[], attributes := #[] }
def k7m3 : Method := { name := "<init>", desc := "([CIILjava/lang/Void;)V", sig := { parameters := [(.array .char), .int, .int, (.object "java/lang/Void")], returnType := none }, accessFlags := 2, code := some k7c3 }
def k7c4 : Code := { maxStack := 1, maxLocals := 1, code := jdk_42_method_152_code, exceptionTable := #[], attributes := #[] }
def k7m4 : Method := { name := "coder", desc := "()B", sig := { parameters := [], returnType := some .byte }, accessFlags := 0, code := some k7c4 }
/-- java/lang/String -/
def k7 : Class := { plain "java/lang/String" (some 0) with
  accessFlags := 49
  interfaces := #[2, 3, 4, 5, 6]
  cf := some (fileOf pool7 10 #[.nestMembers #[1103]] #[{ accessFlags := 1, nameIndex := 5, descriptorIndex := 6, attributes := #[] }, { accessFlags := 1, nameIndex := 5, descriptorIndex := 1010, attributes := #[] }, { accessFlags := 1, nameIndex := 507, descriptorIndex := 334, attributes := #[] }, { accessFlags := 2, nameIndex := 5, descriptorIndex := 29, attributes := #[] }, { accessFlags := 0, nameIndex := 17, descriptorIndex := 337, attributes := #[] }] 49 2 #[1106, 1108, 575, 1110, 1112] #[{ accessFlags := 18, nameIndex := 13, descriptorIndex := 14, attributes := #[] }, { accessFlags := 18, nameIndex := 17, descriptorIndex := 18, attributes := #[] }, { accessFlags := 2, nameIndex := 21, descriptorIndex := 22, attributes := #[] }, { accessFlags := 2, nameIndex := 25, descriptorIndex := 26, attributes := #[] }, { accessFlags := 26, nameIndex := 1116, descriptorIndex := 1117, attributes := #[] }, { accessFlags := 24, nameIndex := 40, descriptorIndex := 26, attributes := #[] }, { accessFlags := 26, nameIndex := 1101, descriptorIndex := 1102, attributes := #[] }, { accessFlags := 26, nameIndex := 1121, descriptorIndex := 1122, attributes := #[] }, { accessFlags := 25, nameIndex := 599, descriptorIndex := 600, attributes := #[] }, { accessFlags := 24, nameIndex := 1125, descriptorIndex := 18, attributes := #[] }, { accessFlags := 24, nameIndex := 1127, descriptorIndex := 18, attributes := #[] }])
  fields := #[{ name := "value", type := (.array .byte), accessFlags := 18, slot := 0, constantValue := 0 }, { name := "coder", type := .byte, accessFlags := 18, slot := 1, constantValue := 0 }, { name := "hash", type := .int, accessFlags := 2, slot := 2, constantValue := 0 }, { name := "hashIsZero", type := .boolean, accessFlags := 2, slot := 3, constantValue := 0 }, { name := "serialVersionUID", type := .long, accessFlags := 26, slot := 0, constantValue := 0 }, { name := "COMPACT_STRINGS", type := .boolean, accessFlags := 24, slot := 1, constantValue := 0 }, { name := "serialPersistentFields", type := (.array (.object "java/io/ObjectStreamField")), accessFlags := 26, slot := 2, constantValue := 0 }, { name := "REPL", type := .char, accessFlags := 26, slot := 3, constantValue := 0 }, { name := "CASE_INSENSITIVE_ORDER", type := (.object "java/util/Comparator"), accessFlags := 25, slot := 4, constantValue := 0 }, { name := "LATIN1", type := .byte, accessFlags := 24, slot := 5, constantValue := 0 }, { name := "UTF16", type := .byte, accessFlags := 24, slot := 6, constantValue := 0 }]
  methods := #[k7m0, k7m1, k7m2, k7m3, k7m4]
  instanceTypes := #[(.array .byte), .byte, .int, .boolean]
  staticTypes := #[.long, .boolean, (.array (.object "java/io/ObjectStreamField")), .char, (.object "java/util/Comparator"), .byte, .byte]
  resolved := Array.replicate 1451 none
  statics := some 0 }

def pool8 : Array CpInfo := pool [(6, .class_ 8), (1, u "java/lang/Object"), (0, u "<init>"), (0, u "()V"), (0, .methodref 12 13), (0, .class_ 14), (0, .nameAndType 15 16), (0, u "java/lang/StringUTF16"), (0, u "newBytesLength"), (0, u "(I)I"), (3, .integer 1073741823), (23, .fieldref 12 45), (0, .nameAndType 46 47), (0, u "$assertionsDisabled"), (0, u "Z"), (11, .fieldref 12 60), (0, .nameAndType 61 62), (0, u "HI_BYTE_SHIFT"), (0, u "I"), (0, .fieldref 12 64), (0, .nameAndType 65 62), (0, u "LO_BYTE_SHIFT"), (5, .methodref 12 72), (0, .nameAndType 73 74), (0, u "getChar"), (0, u "([BI)C"), (32, .methodref 12 108), (0, .nameAndType 109 110), (0, u "newBytesFor"), (0, u "(I)[B"), (0, .methodref 12 112), (0, .nameAndType 113 114), (0, u "putChar"), (0, u "([BII)V"), (0, .methodref 12 116), (0, .nameAndType 117 118), (0, u "compress"), (0, u "([CI[BII)I"), (0, .methodref 12 120), (0, .nameAndType 121 122), (0, u "toBytes"), (0, u "([CII)[B"), (138, u "coderFromArrayLen"), (0, u "([BI)B"), (106, .class_ 371), (1, u "java/lang/StringUTF16$LinesSpliterator"), (58, u "MAX_LENGTH"), (196, .class_ 628), (0, u "java/lang/StringUTF16$CodePointsSpliterator"), (0, .class_ 630), (0, u "java/lang/StringUTF16$CharsSpliterator")] 4

def k8m0 : Method := { name := "<init>", desc := "()V", sig := { parameters := [], returnType := none }, accessFlags := 0, code := none }
def k8c1 : Code := { maxStack := 1, maxLocals := 1, code := jdk_52_method_2_code, exceptionTable := #[], attributes := #[] }
def k8m1 : Method := { name := "newBytesFor", desc := "(I)[B", sig := { parameters := [.int], returnType := some (.array .byte) }, accessFlags := 9, code := some k8c1 }
def k8c2 : Code := { maxStack := 4, maxLocals := 1, code := jdk_52_method_3_code, exceptionTable := #[], attributes := #[] }
def k8m2 : Method := { name := "newBytesLength", desc := "(I)I", sig := { parameters := [.int], returnType := some .int }, accessFlags := 9, code := some k8c2 }
def k8c3 : Code := { maxStack := 4, maxLocals := 3, code := jdk_52_method_4_code, exceptionTable := #[], attributes := #[] }
def k8m3 : Method := { name := "putChar", desc := "([BII)V", sig := { parameters := [(.array .byte), .int, .int], returnType := none }, accessFlags := 8, code := some k8c3 }
def k8c4 : Code := { maxStack := 3, maxLocals := 2, code := jdk_52_method_5_code, exceptionTable := #[], attributes := #[] }
def k8m4 : Method := { name := "getChar", desc := "([BI)C", sig := { parameters := [(.array .byte), .int], returnType := some .char }, accessFlags := 8, code := some k8c4 }
def k8c5 : Code := { maxStack := 4, maxLocals := 5, code := jdk_52_method_14_code, exceptionTable := #[], attributes := #[] }
def k8m5 : Method := { name := "toBytes", desc := "([CII)[B", sig := { parameters := [(.array .char), .int, .int], returnType := some (.array .byte) }, accessFlags := 9, code := some k8c5 }
def k8c6 : Code := { maxStack := 2, maxLocals := 2, code := jdk_52_method_15_code, exceptionTable := #[], attributes := #[] }
def k8m6 : Method := { name := "coderFromArrayLen", desc := "([BI)B", sig := { parameters := [(.array .byte), .int], returnType := some .byte }, accessFlags := 8, code := some k8c6 }
def k8c7 : Code := { maxStack := 5, maxLocals := 6, code := jdk_52_method_16_code, exceptionTable := #[], attributes := #[] }
def k8m7 : Method := { name := "compress", desc := "([CII)[B", sig := { parameters := [(.array .char), .int, .int], returnType := some (.array .byte) }, accessFlags := 9, code := some k8c7 }
def k8c8 : Code := { maxStack := 3, maxLocals := 7, code := jdk_52_method_21_code, exceptionTable := #[], attributes := #[] }
def k8m8 : Method := { name := "compress", desc := "([CI[BII)I", sig := { parameters := [(.array .char), .int, (.array .byte), .int, .int], returnType := some .int }, accessFlags := 9, code := some k8c8 }
/-- java/lang/StringUTF16 -/
def k8 : Class := { plain "java/lang/StringUTF16" (some 0) with
  accessFlags := 48
  interfaces := #[]
  cf := some (fileOf pool8 12 #[.nestMembers #[627, 629, 369]] #[{ accessFlags := 0, nameIndex := 9, descriptorIndex := 10, attributes := #[] }, { accessFlags := 9, nameIndex := 109, descriptorIndex := 110, attributes := #[] }, { accessFlags := 9, nameIndex := 15, descriptorIndex := 16, attributes := #[] }, { accessFlags := 8, nameIndex := 113, descriptorIndex := 114, attributes := #[] }, { accessFlags := 8, nameIndex := 73, descriptorIndex := 74, attributes := #[] }, { accessFlags := 9, nameIndex := 121, descriptorIndex := 122, attributes := #[] }, { accessFlags := 8, nameIndex := 261, descriptorIndex := 262, attributes := #[] }, { accessFlags := 9, nameIndex := 117, descriptorIndex := 122, attributes := #[] }, { accessFlags := 9, nameIndex := 117, descriptorIndex := 118, attributes := #[] }] 48 6 #[] #[{ accessFlags := 26, nameIndex := 61, descriptorIndex := 62, attributes := #[] }, { accessFlags := 26, nameIndex := 65, descriptorIndex := 62, attributes := #[] }, { accessFlags := 24, nameIndex := 430, descriptorIndex := 62, attributes := #[] }, { accessFlags := 4120, nameIndex := 46, descriptorIndex := 47, attributes := #[] }])
  fields := #[{ name := "HI_BYTE_SHIFT", type := .int, accessFlags := 26, slot := 0, constantValue := 0 }, { name := "LO_BYTE_SHIFT", type := .int, accessFlags := 26, slot := 1, constantValue := 0 }, { name := "MAX_LENGTH", type := .int, accessFlags := 24, slot := 2, constantValue := 0 }, { name := "$assertionsDisabled", type := .boolean, accessFlags := 4120, slot := 3, constantValue := 0 }]
  methods := #[k8m0, k8m1, k8m2, k8m3, k8m4, k8m5, k8m6, k8m7, k8m8]
  instanceTypes := #[]
  staticTypes := #[.int, .int, .int, .boolean]
  resolved := Array.replicate 635 none
  statics := some 1 }

def pool9 : Array CpInfo := pool [(2, .class_ 4), (1, u "java/lang/Object"), (9, .class_ 16), (1, u "com/example/bindery/bindery/service/KeptPictures"), (0, u "pictures"), (0, u "Ljava/util/LinkedHashMap;"), (2, u "bound"), (0, u "J"), (8, u "size"), (0, u "(Ljava/lang/String;[B)J"), (6, u "taken"), (21, .class_ 62), (0, u "java/lang/String"), (6, .long 2), (1, .methodref 61 72), (0, .nameAndType 73 74), (0, u "length"), (0, u "()I"), (0, .long 96), (1, u "ENTRY_BYTES"), (0, u "I")] 16

def k9c0 : Code := { maxStack := 6, maxLocals := 2, code := prog_70_method_4_code, exceptionTable := #[], attributes := #[] }
def k9m0 : Method := { name := "size", desc := "(Ljava/lang/String;[B)J", sig := { parameters := [(.object "java/lang/String"), (.array .byte)], returnType := some .long }, accessFlags := 8, code := some k9c0 }
/-- com/example/bindery/bindery/service/KeptPictures -/
def k9 : Class := { plain "com/example/bindery/bindery/service/KeptPictures" (some 0) with
  accessFlags := 48
  interfaces := #[]
  cf := some (fileOf pool9 14 #[] #[{ accessFlags := 8, nameIndex := 31, descriptorIndex := 32, attributes := #[] }] 48 2 #[] #[{ accessFlags := 26, nameIndex := 77, descriptorIndex := 78, attributes := #[] }, { accessFlags := 18, nameIndex := 21, descriptorIndex := 22, attributes := #[] }, { accessFlags := 18, nameIndex := 17, descriptorIndex := 18, attributes := #[] }, { accessFlags := 2, nameIndex := 39, descriptorIndex := 22, attributes := #[] }])
  fields := #[{ name := "ENTRY_BYTES", type := .int, accessFlags := 26, slot := 0, constantValue := 0 }, { name := "bound", type := .long, accessFlags := 18, slot := 0, constantValue := 0 }, { name := "pictures", type := (.object "java/util/LinkedHashMap"), accessFlags := 18, slot := 1, constantValue := 0 }, { name := "taken", type := .long, accessFlags := 2, slot := 2, constantValue := 0 }]
  methods := #[k9m0]
  instanceTypes := #[.long, (.object "java/util/LinkedHashMap"), .long]
  staticTypes := #[.int]
  resolved := Array.replicate 95 none
  statics := none }

def pool10 : Array CpInfo := pool [(4, .class_ 6), (1, u "java/lang/Object"), (0, u "<init>"), (0, u "()V"), (5, .class_ 16), (1, u "java/lang/StringLatin1"), (104, u "$assertionsDisabled"), (0, u "Z"), (98, .class_ 223), (1, u "java/lang/StringLatin1$LinesSpliterator"), (166, .class_ 391), (0, u "java/lang/StringLatin1$CharsSpliterator")] 3

def k10m0 : Method := { name := "<init>", desc := "()V", sig := { parameters := [], returnType := none }, accessFlags := 0, code := none }
/-- java/lang/StringLatin1 -/
def k10 : Class := { plain "java/lang/StringLatin1" (some 0) with
  accessFlags := 48
  interfaces := #[]
  cf := some (fileOf pool10 14 #[.nestMembers #[390, 221]] #[{ accessFlags := 0, nameIndex := 7, descriptorIndex := 8, attributes := #[] }] 48 4 #[] #[{ accessFlags := 4120, nameIndex := 121, descriptorIndex := 122, attributes := #[] }])
  fields := #[{ name := "$assertionsDisabled", type := .boolean, accessFlags := 4120, slot := 0, constantValue := 0 }]
  methods := #[k10m0]
  instanceTypes := #[]
  staticTypes := #[.boolean]
  resolved := Array.replicate 395 none
  statics := none }

def pool11 : Array CpInfo := pool [(2, .class_ 4), (1, u "java/lang/Object"), (0, u "<init>"), (0, u "()V"), (17, .class_ 26), (1, u "jdk/internal/util/Preconditions"), (28, .class_ 56), (0, u "jdk/internal/util/Preconditions$4"), (57, .class_ 115), (0, u "jdk/internal/util/Preconditions$1"), (7, u "SIOOBE_FORMATTER"), (0, u "Ljava/util/function/BiFunction;"), (0, .class_ 126), (0, u "jdk/internal/util/Preconditions$2"), (3, u "AIOOBE_FORMATTER"), (0, .class_ 132), (0, u "jdk/internal/util/Preconditions$3"), (3, u "IOOBE_FORMATTER")] 57

def k11m0 : Method := { name := "<init>", desc := "()V", sig := { parameters := [], returnType := none }, accessFlags := 1, code := none }
/-- jdk/internal/util/Preconditions -/
def k11 : Class := { plain "jdk/internal/util/Preconditions" (some 0) with
  accessFlags := 33
  interfaces := #[]
  cf := some (fileOf pool11 24 #[.nestMembers #[55, 131, 125, 114]] #[{ accessFlags := 1, nameIndex := 5, descriptorIndex := 6, attributes := #[] }] 33 2 #[] #[{ accessFlags := 25, nameIndex := 123, descriptorIndex := 124, attributes := #[] }, { accessFlags := 25, nameIndex := 130, descriptorIndex := 124, attributes := #[] }, { accessFlags := 25, nameIndex := 136, descriptorIndex := 124, attributes := #[] }])
  fields := #[{ name := "SIOOBE_FORMATTER", type := (.object "java/util/function/BiFunction"), accessFlags := 25, slot := 0, constantValue := 0 }, { name := "AIOOBE_FORMATTER", type := (.object "java/util/function/BiFunction"), accessFlags := 25, slot := 1, constantValue := 0 }, { name := "IOOBE_FORMATTER", type := (.object "java/util/function/BiFunction"), accessFlags := 25, slot := 2, constantValue := 0 }]
  methods := #[k11m0]
  instanceTypes := #[]
  staticTypes := #[(.object "java/util/function/BiFunction"), (.object "java/util/function/BiFunction"), (.object "java/util/function/BiFunction")]
  resolved := Array.replicate 194 none
  statics := some 2 }

def pool12 : Array CpInfo := pool [(9, u "<init>"), (6, .class_ 18), (1, u "java/lang/Object"), (0, u "()V"), (1, .class_ 23), (1, u "jdk/internal/util/ArraysSupport"), (0, u "LOG2_ARRAY_LONG_INDEX_SCALE"), (0, u "I"), (2, u "U"), (0, u "Ljdk/internal/misc/Unsafe;"), (8, u "BIG_ENDIAN"), (0, u "Z"), (8, u "LOG2_BYTE_BIT_SIZE"), (4, u "LOG2_ARRAY_INT_INDEX_SCALE"), (54, u "JLA"), (0, u "Ljdk/internal/access/JavaLangAccess;"), (11, u "LOG2_ARRAY_BOOLEAN_INDEX_SCALE"), (9, u "LOG2_ARRAY_BYTE_INDEX_SCALE"), (5, u "LOG2_ARRAY_CHAR_INDEX_SCALE"), (5, u "LOG2_ARRAY_SHORT_INDEX_SCALE"), (18, u "LOG2_ARRAY_FLOAT_INDEX_SCALE"), (24, u "LOG2_ARRAY_DOUBLE_INDEX_SCALE"), (89, u "T_BOOLEAN"), (2, u "T_CHAR"), (1, u "T_FLOAT"), (1, u "T_DOUBLE"), (1, u "T_BYTE"), (1, u "T_SHORT"), (1, u "T_INT"), (1, u "T_LONG"), (1, u "SOFT_MAX_ARRAY_LENGTH")] 83

def k12m0 : Method := { name := "<init>", desc := "()V", sig := { parameters := [], returnType := none }, accessFlags := 2, code := none }
/-- jdk/internal/util/ArraysSupport -/
def k12 : Class := { plain "jdk/internal/util/ArraysSupport" (some 0) with
  accessFlags := 33
  interfaces := #[]
  cf := some (fileOf pool12 21 #[] #[{ accessFlags := 2, nameIndex := 9, descriptorIndex := 19, attributes := #[] }] 33 16 #[] #[{ accessFlags := 24, nameIndex := 28, descriptorIndex := 29, attributes := #[] }, { accessFlags := 26, nameIndex := 38, descriptorIndex := 39, attributes := #[] }, { accessFlags := 25, nameIndex := 121, descriptorIndex := 25, attributes := #[] }, { accessFlags := 25, nameIndex := 131, descriptorIndex := 25, attributes := #[] }, { accessFlags := 25, nameIndex := 137, descriptorIndex := 25, attributes := #[] }, { accessFlags := 25, nameIndex := 143, descriptorIndex := 25, attributes := #[] }, { accessFlags := 25, nameIndex := 53, descriptorIndex := 25, attributes := #[] }, { accessFlags := 25, nameIndex := 24, descriptorIndex := 25, attributes := #[] }, { accessFlags := 25, nameIndex := 162, descriptorIndex := 25, attributes := #[] }, { accessFlags := 25, nameIndex := 187, descriptorIndex := 25, attributes := #[] }, { accessFlags := 26, nameIndex := 48, descriptorIndex := 25, attributes := #[] }, { accessFlags := 25, nameIndex := 277, descriptorIndex := 25, attributes := #[] }, { accessFlags := 25, nameIndex := 280, descriptorIndex := 25, attributes := #[] }, { accessFlags := 25, nameIndex := 282, descriptorIndex := 25, attributes := #[] }, { accessFlags := 25, nameIndex := 284, descriptorIndex := 25, attributes := #[] }, { accessFlags := 25, nameIndex := 286, descriptorIndex := 25, attributes := #[] }, { accessFlags := 25, nameIndex := 288, descriptorIndex := 25, attributes := #[] }, { accessFlags := 25, nameIndex := 290, descriptorIndex := 25, attributes := #[] }, { accessFlags := 25, nameIndex := 292, descriptorIndex := 25, attributes := #[] }, { accessFlags := 26, nameIndex := 108, descriptorIndex := 109, attributes := #[] }, { accessFlags := 25, nameIndex := 294, descriptorIndex := 25, attributes := #[] }])
  fields := #[{ name := "U", type := (.object "jdk/internal/misc/Unsafe"), accessFlags := 24, slot := 0, constantValue := 0 }, { name := "BIG_ENDIAN", type := .boolean, accessFlags := 26, slot := 1, constantValue := 0 }, { name := "LOG2_ARRAY_BOOLEAN_INDEX_SCALE", type := .int, accessFlags := 25, slot := 2, constantValue := 0 }, { name := "LOG2_ARRAY_BYTE_INDEX_SCALE", type := .int, accessFlags := 25, slot := 3, constantValue := 0 }, { name := "LOG2_ARRAY_CHAR_INDEX_SCALE", type := .int, accessFlags := 25, slot := 4, constantValue := 0 }, { name := "LOG2_ARRAY_SHORT_INDEX_SCALE", type := .int, accessFlags := 25, slot := 5, constantValue := 0 }, { name := "LOG2_ARRAY_INT_INDEX_SCALE", type := .int, accessFlags := 25, slot := 6, constantValue := 0 }, { name := "LOG2_ARRAY_LONG_INDEX_SCALE", type := .int, accessFlags := 25, slot := 7, constantValue := 0 }, { name := "LOG2_ARRAY_FLOAT_INDEX_SCALE", type := .int, accessFlags := 25, slot := 8, constantValue := 0 }, { name := "LOG2_ARRAY_DOUBLE_INDEX_SCALE", type := .int, accessFlags := 25, slot := 9, constantValue := 0 }, { name := "LOG2_BYTE_BIT_SIZE", type := .int, accessFlags := 26, slot := 10, constantValue := 0 }, { name := "T_BOOLEAN", type := .int, accessFlags := 25, slot := 11, constantValue := 0 }, { name := "T_CHAR", type := .int, accessFlags := 25, slot := 12, constantValue := 0 }, { name := "T_FLOAT", type := .int, accessFlags := 25, slot := 13, constantValue := 0 }, { name := "T_DOUBLE", type := .int, accessFlags := 25, slot := 14, constantValue := 0 }, { name := "T_BYTE", type := .int, accessFlags := 25, slot := 15, constantValue := 0 }, { name := "T_SHORT", type := .int, accessFlags := 25, slot := 16, constantValue := 0 }, { name := "T_INT", type := .int, accessFlags := 25, slot := 17, constantValue := 0 }, { name := "T_LONG", type := .int, accessFlags := 25, slot := 18, constantValue := 0 }, { name := "JLA", type := (.object "jdk/internal/access/JavaLangAccess"), accessFlags := 26, slot := 19, constantValue := 0 }, { name := "SOFT_MAX_ARRAY_LENGTH", type := .int, accessFlags := 25, slot := 20, constantValue := 0 }]
  methods := #[k12m0]
  instanceTypes := #[]
  staticTypes := #[(.object "jdk/internal/misc/Unsafe"), .boolean, .int, .int, .int, .int, .int, .int, .int, .int, .int, .int, .int, .int, .int, .int, .int, .int, .int, (.object "jdk/internal/access/JavaLangAccess"), .int]
  resolved := Array.replicate 378 none
  statics := none }

def pool13 : Array CpInfo := pool [(1, u "java/lang/Cloneable"), (0, .class_ 1), (0, u "java/lang/Object"), (0, .class_ 3)] 3

/-- java/lang/Cloneable -/
def k13 : Class := { plain "java/lang/Cloneable" (some 0) with
  accessFlags := 1537
  interfaces := #[]
  cf := some (fileOf pool13 2 #[] #[] 1537 4 #[] #[])
  fields := #[]
  methods := #[]
  instanceTypes := #[]
  staticTypes := #[]
  resolved := Array.replicate 8 none
  statics := none }

/-- the primitive byte -/
def k14 : Class := { plain "byte" none with kind := .primitive 'B', accessFlags := 0x411 }
/-- [B -/
def k15 : Class := { plain "[B" (some 0) with kind := .array 14 .byte, interfaces := #[13, 2], accessFlags := 1041 }

/-- the primitive char -/
def k16 : Class := { plain "char" none with kind := .primitive 'C', accessFlags := 0x411 }
/-- [C -/
def k17 : Class := { plain "[C" (some 0) with kind := .array 16 .char, interfaces := #[13, 2], accessFlags := 1041 }

/-- the primitive int -/
def k18 : Class := { plain "int" none with kind := .primitive 'I', accessFlags := 0x411 }
/-- [I -/
def k19 : Class := { plain "[I" (some 0) with kind := .array 18 .int, interfaces := #[13, 2], accessFlags := 1041 }

def heap : Heap := #[{ cls := 7, slots := #[.long 0, .int 1, .null, .int 0, .null, .int 0, .int 0], vm := .statics 7 },
  { cls := 8, slots := #[.int 0, .int 8, .int 0, .int 1], vm := .statics 8 },
  { cls := 11, slots := #[.null, .null, .null], vm := .statics 11 }]
def classes : Array Class := #[k0, k1, k2, k3, k4, k5, k6, k7, k8, k9, k10, k11, k12, k13, k14, k15, k16, k17, k18, k19]
def interned : List (Array UInt16 × Addr) := []
def slotsUsed : Nat := 14
def theMethod : MethodId := ⟨1, 1⟩
def args0 : Array Value := #[.int 5, .int 5, .int 5, .int 5, .int 5, .int 5]
def aboutOver (below : List Frame) : State where
  vm := { classes := classes, interned := interned.toArray }
  heap := heap
  slotsUsed := slotsUsed
  threads := #[{ frames := .invoking theMethod args0 :: below }]
def below0 : List Frame := [.native { method := ⟨0, 0⟩, args := #[] }]
def about1 : State := aboutOver below0
def p0 : Program := .bare "" "" ""
def e0 : Env := launch0.env 0 0 0
theorem w_frames : about1.frames = Frame.invoking theMethod args0 :: below0 := rfl
set_option maxRecDepth 65536 in
theorem w_args : argsFit about1.vm theMethod args0 = true := by decide +kernel
set_option maxRecDepth 65536 in
theorem w_heap : heapFits about1 = true := by decide +kernel
set_option maxRecDepth 65536 in
theorem w_runnable : about1.curStatus? = some .runnable := by decide +kernel
set_option maxRecDepth 65536 in
theorem w_alone : about1.alone = true := by decide +kernel
set_option maxRecDepth 65536 in
theorem w_named : about1.methodNamed? x = some theMethod := by decide +kernel
set_option maxRecDepth 65536 in
theorem w_hears : about1.hears theMethod below0 = true := by decide +kernel
set_option maxRecDepth 65536 in
theorem w_ripe : about1.ripe theMethod args0 below0 = true := by decide +kernel
theorem w_running : about1.status = .running := rfl
set_option maxRecDepth 65536 in
theorem w_room : about1.hasRoom e0.platform room_1 = true :=
  launch0.hasRoom_least _ room_1 (by decide +kernel) (by decide +kernel) (by decide +kernel) (by decide +kernel) (by decide +kernel) (by decide +kernel)
theorem allAtoms_all (ts : List Jvm.Cond) (a : Array Jvm.Value) (st : Jvm.State) : (allAtoms ts).before a st = ts.all (fun c => c.before a st) := by
  induction ts with
  | nil => rfl
  | cons c t ih =>
    show (Jvm.Cond.and c (allAtoms t)).before a st = _
    rw [Jvm.Cond.before_and, ih, List.all_cons]
def words1 : List Jvm.Cond := Jvm.Cond.code x code maxLocals ret :: tables_1
/-- a 'code' word, met by the world's own term for the bytes: nothing is compared byte by byte -/
theorem code_word {y : MethodName} {bytes : ByteArray} {mx : Nat} {rt : Option FieldType} {a : Array Value} {s : State} {m : MethodId} {meth : Method} {c : Code} (h1 : s.methodNamed? y = some m) (h2 : s.vm.method? m = some meth) (h3 : meth.code = some c) (h4 : c.code = bytes)
    (h5 : (c.maxLocals == mx && c.exceptionTable.isEmpty && decide (c.maxStack ≤ mostOperands) && decide (meth.sig.returnType = rt) && !meth.locks && decide (parseMethodDescriptor y.desc = some meth.sig)) = true) : (Jvm.Cond.code y bytes mx rt).before a s = true := by
  simp only [Bool.and_eq_true, beq_iff_eq, Bool.not_eq_true', decide_eq_true_eq] at h5
  obtain ⟨⟨⟨⟨⟨g1, g2⟩, g3⟩, g4⟩, g5⟩, g6⟩ := h5
  simp [Cond.before, Cond.holds, Cond.value, h1, h2, h3, h4, g1, g2, g3, g4, g5, g6]
def isCode : Jvm.Cond → Bool
  | .code _ _ _ _ => true
  | _ => false
theorem all_split {L : List Jvm.Cond} {P : Jvm.Cond → Bool} (h1 : L.all (fun c => isCode c || P c) = true) (h2 : ∀ c ∈ L.filter isCode, P c = true) : L.all P = true := by
  refine List.all_eq_true.mpr fun c hc => ?_
  have h := List.all_eq_true.mp h1 c hc
  rcases Bool.eq_false_or_eq_true (isCode c) with hi | hi
  · exact h2 c (List.mem_filter.mpr ⟨hc, hi⟩)
  · simpa [hi] using h
set_option maxRecDepth 65536 in
theorem w_c0 : (Jvm.Cond.code x code maxLocals ret).before args0 about1 = true := code_word (m := ⟨1, 1⟩) (meth := k1m1) (c := k1c1) (by decide +kernel) rfl rfl rfl (by decide +kernel)
set_option maxRecDepth 65536 in
theorem w_c1 : (Jvm.Cond.code ({ cls := "java/lang/String", name := "<init>", desc := "([C)V" } : Jvm.MethodName) jdk_42_method_3_code (2 : Nat) (Option.none : Option Jvm.ClassFile.FieldType)).before args0 about1 = true := code_word (m := ⟨7, 1⟩) (meth := k7m1) (c := k7c1) (by decide +kernel) rfl rfl rfl (by decide +kernel)
set_option maxRecDepth 65536 in
theorem w_c2 : (Jvm.Cond.code ({ cls := "java/lang/String", name := "<init>", desc := "([CIILjava/lang/Void;)V" } : Jvm.MethodName) jdk_42_method_149_code (6 : Nat) (Option.none : Option Jvm.ClassFile.FieldType)).before args0 about1 = true := code_word (m := ⟨7, 3⟩) (meth := k7m3) (c := k7c3) (by decide +kernel) rfl rfl rfl (by decide +kernel)
set_option maxRecDepth 65536 in
theorem w_c3 : (Jvm.Cond.code ({ cls := "java/lang/Object", name := "<init>", desc := "()V" } : Jvm.MethodName) object_method_1_code (1 : Nat) (Option.none : Option Jvm.ClassFile.FieldType)).before args0 about1 = true := code_word (m := ⟨0, 0⟩) (meth := k0m0) (c := k0c0) (by decide +kernel) rfl rfl rfl (by decide +kernel)
set_option maxRecDepth 65536 in
theorem w_c4 : (Jvm.Cond.code ({ cls := "java/lang/StringUTF16", name := "compress", desc := "([CII)[B" } : Jvm.MethodName) jdk_52_method_16_code (6 : Nat) (Option.some (Jvm.ClassFile.FieldType.array Jvm.ClassFile.FieldType.byte))).before args0 about1 = true := code_word (m := ⟨8, 7⟩) (meth := k8m7) (c := k8c7) (by decide +kernel) rfl rfl rfl (by decide +kernel)
set_option maxRecDepth 65536 in
theorem w_c5 : (Jvm.Cond.code ({ cls := "java/lang/StringUTF16", name := "compress", desc := "([CI[BII)I" } : Jvm.MethodName) jdk_52_method_21_code (7 : Nat) (Option.some Jvm.ClassFile.FieldType.int)).before args0 about1 = true := code_word (m := ⟨8, 8⟩) (meth := k8m8) (c := k8c8) (by decide +kernel) rfl rfl rfl (by decide +kernel)
set_option maxRecDepth 65536 in
theorem w_c6 : (Jvm.Cond.code ({ cls := "java/lang/StringUTF16", name := "coderFromArrayLen", desc := "([BI)B" } : Jvm.MethodName) jdk_52_method_15_code (2 : Nat) (Option.some Jvm.ClassFile.FieldType.byte)).before args0 about1 = true := code_word (m := ⟨8, 6⟩) (meth := k8m6) (c := k8c6) (by decide +kernel) rfl rfl rfl (by decide +kernel)
set_option maxRecDepth 65536 in
theorem w_c7 : (Jvm.Cond.code ({ cls := "com/example/bindery/bindery/service/KeptPictures", name := "size", desc := "(Ljava/lang/String;[B)J" } : Jvm.MethodName) prog_70_method_4_code (2 : Nat) (Option.some Jvm.ClassFile.FieldType.long)).before args0 about1 = true := code_word (m := ⟨9, 0⟩) (meth := k9m0) (c := k9c0) (by decide +kernel) rfl rfl rfl (by decide +kernel)
set_option maxRecDepth 65536 in
theorem w_c8 : (Jvm.Cond.code ({ cls := "java/lang/String", name := "length", desc := "()I" } : Jvm.MethodName) jdk_42_method_54_code (1 : Nat) (Option.some Jvm.ClassFile.FieldType.int)).before args0 about1 = true := code_word (m := ⟨7, 2⟩) (meth := k7m2) (c := k7c2) (by decide +kernel) rfl rfl rfl (by decide +kernel)
set_option maxRecDepth 65536 in
theorem w_c9 : (Jvm.Cond.code ({ cls := "java/lang/String", name := "coder", desc := "()B" } : Jvm.MethodName) jdk_42_method_152_code (1 : Nat) (Option.some Jvm.ClassFile.FieldType.byte)).before args0 about1 = true := code_word (m := ⟨7, 4⟩) (meth := k7m4) (c := k7c4) (by decide +kernel) rfl rfl rfl (by decide +kernel)
set_option maxRecDepth 65536 in
theorem w_c10 : (Jvm.Cond.code ({ cls := "java/lang/StringUTF16", name := "toBytes", desc := "([CII)[B" } : Jvm.MethodName) jdk_52_method_14_code (5 : Nat) (Option.some (Jvm.ClassFile.FieldType.array Jvm.ClassFile.FieldType.byte))).before args0 about1 = true := code_word (m := ⟨8, 5⟩) (meth := k8m5) (c := k8c5) (by decide +kernel) rfl rfl rfl (by decide +kernel)
set_option maxRecDepth 65536 in
theorem w_c11 : (Jvm.Cond.code ({ cls := "java/lang/StringUTF16", name := "newBytesFor", desc := "(I)[B" } : Jvm.MethodName) jdk_52_method_2_code (1 : Nat) (Option.some (Jvm.ClassFile.FieldType.array Jvm.ClassFile.FieldType.byte))).before args0 about1 = true := code_word (m := ⟨8, 1⟩) (meth := k8m1) (c := k8c1) (by decide +kernel) rfl rfl rfl (by decide +kernel)
set_option maxRecDepth 65536 in
theorem w_c12 : (Jvm.Cond.code ({ cls := "java/lang/StringUTF16", name := "newBytesLength", desc := "(I)I" } : Jvm.MethodName) jdk_52_method_3_code (1 : Nat) (Option.some Jvm.ClassFile.FieldType.int)).before args0 about1 = true := code_word (m := ⟨8, 2⟩) (meth := k8m2) (c := k8c2) (by decide +kernel) rfl rfl rfl (by decide +kernel)
set_option maxRecDepth 65536 in
theorem w_c13 : (Jvm.Cond.code ({ cls := "java/lang/StringUTF16", name := "putChar", desc := "([BII)V" } : Jvm.MethodName) jdk_52_method_4_code (3 : Nat) (Option.none : Option Jvm.ClassFile.FieldType)).before args0 about1 = true := code_word (m := ⟨8, 3⟩) (meth := k8m3) (c := k8c3) (by decide +kernel) rfl rfl rfl (by decide +kernel)
set_option maxRecDepth 65536 in
theorem w_c14 : (Jvm.Cond.code ({ cls := "java/lang/StringUTF16", name := "getChar", desc := "([BI)C" } : Jvm.MethodName) jdk_52_method_5_code (2 : Nat) (Option.some Jvm.ClassFile.FieldType.char)).before args0 about1 = true := code_word (m := ⟨8, 4⟩) (meth := k8m4) (c := k8c4) (by decide +kernel) rfl rfl rfl (by decide +kernel)
def codes1 : List Jvm.Cond := [Jvm.Cond.code x code maxLocals ret, Jvm.Cond.code ({ cls := "java/lang/String", name := "<init>", desc := "([C)V" } : Jvm.MethodName) jdk_42_method_3_code (2 : Nat) (Option.none : Option Jvm.ClassFile.FieldType), Jvm.Cond.code ({ cls := "java/lang/String", name := "<init>", desc := "([CIILjava/lang/Void;)V" } : Jvm.MethodName) jdk_42_method_149_code (6 : Nat) (Option.none : Option Jvm.ClassFile.FieldType), Jvm.Cond.code ({ cls := "java/lang/Object", name := "<init>", desc := "()V" } : Jvm.MethodName) object_method_1_code (1 : Nat) (Option.none : Option Jvm.ClassFile.FieldType), Jvm.Cond.code ({ cls := "java/lang/StringUTF16", name := "compress", desc := "([CII)[B" } : Jvm.MethodName) jdk_52_method_16_code (6 : Nat) (Option.some (Jvm.ClassFile.FieldType.array Jvm.ClassFile.FieldType.byte)), Jvm.Cond.code ({ cls := "java/lang/StringUTF16", name := "compress", desc := "([CI[BII)I" } : Jvm.MethodName) jdk_52_method_21_code (7 : Nat) (Option.some Jvm.ClassFile.FieldType.int), Jvm.Cond.code ({ cls := "java/lang/StringUTF16", name := "coderFromArrayLen", desc := "([BI)B" } : Jvm.MethodName) jdk_52_method_15_code (2 : Nat) (Option.some Jvm.ClassFile.FieldType.byte), Jvm.Cond.code ({ cls := "com/example/bindery/bindery/service/KeptPictures", name := "size", desc := "(Ljava/lang/String;[B)J" } : Jvm.MethodName) prog_70_method_4_code (2 : Nat) (Option.some Jvm.ClassFile.FieldType.long), Jvm.Cond.code ({ cls := "java/lang/String", name := "length", desc := "()I" } : Jvm.MethodName) jdk_42_method_54_code (1 : Nat) (Option.some Jvm.ClassFile.FieldType.int), Jvm.Cond.code ({ cls := "java/lang/String", name := "coder", desc := "()B" } : Jvm.MethodName) jdk_42_method_152_code (1 : Nat) (Option.some Jvm.ClassFile.FieldType.byte), Jvm.Cond.code ({ cls := "java/lang/StringUTF16", name := "toBytes", desc := "([CII)[B" } : Jvm.MethodName) jdk_52_method_14_code (5 : Nat) (Option.some (Jvm.ClassFile.FieldType.array Jvm.ClassFile.FieldType.byte)), Jvm.Cond.code ({ cls := "java/lang/StringUTF16", name := "newBytesFor", desc := "(I)[B" } : Jvm.MethodName) jdk_52_method_2_code (1 : Nat) (Option.some (Jvm.ClassFile.FieldType.array Jvm.ClassFile.FieldType.byte)), Jvm.Cond.code ({ cls := "java/lang/StringUTF16", name := "newBytesLength", desc := "(I)I" } : Jvm.MethodName) jdk_52_method_3_code (1 : Nat) (Option.some Jvm.ClassFile.FieldType.int), Jvm.Cond.code ({ cls := "java/lang/StringUTF16", name := "putChar", desc := "([BII)V" } : Jvm.MethodName) jdk_52_method_4_code (3 : Nat) (Option.none : Option Jvm.ClassFile.FieldType), Jvm.Cond.code ({ cls := "java/lang/StringUTF16", name := "getChar", desc := "([BI)C" } : Jvm.MethodName) jdk_52_method_5_code (2 : Nat) (Option.some Jvm.ClassFile.FieldType.char)]
set_option maxRecDepth 65536 in
theorem codes_eq : words1.filter isCode = codes1 := rfl
theorem w_codes : ∀ c ∈ words1.filter isCode, c.before args0 about1 = true := by
  rw [codes_eq]
  intro c hc
  simp only [codes1, List.mem_cons, List.not_mem_nil, or_false] at hc
  rcases hc with rfl | rfl | rfl | rfl | rfl | rfl | rfl | rfl | rfl | rfl | rfl | rfl | rfl | rfl | rfl
  · exact w_c0
  · exact w_c1
  · exact w_c2
  · exact w_c3
  · exact w_c4
  · exact w_c5
  · exact w_c6
  · exact w_c7
  · exact w_c8
  · exact w_c9
  · exact w_c10
  · exact w_c11
  · exact w_c12
  · exact w_c13
  · exact w_c14
set_option maxRecDepth 65536 in
theorem w_t1 : (words1.take 24).all (fun c => isCode c || c.before args0 about1) = true := by decide +kernel
set_option maxRecDepth 65536 in
theorem w_t2 : ((words1.drop 24).take 24).all (fun c => isCode c || c.before args0 about1) = true := by decide +kernel
set_option maxRecDepth 65536 in
theorem w_t3 : ((words1.drop 24).drop 24).all (fun c => isCode c || c.before args0 about1) = true := by decide +kernel
theorem w_tables : (allAtoms (Jvm.Cond.code x code maxLocals ret :: tables_1)).before args0 about1 = true := by
  rw [allAtoms_all]
  show words1.all (fun c => c.before args0 about1) = true
  refine all_split ?_ w_codes
  rw [← List.take_append_drop 24 words1, List.all_append, w_t1, ← List.take_append_drop 24 (words1.drop 24), List.all_append, w_t2, w_t3]
  rfl
set_option maxRecDepth 65536 in
theorem w_rest : rest_1_c.before args0 about1 = true := by decide +kernel
set_option maxRecDepth 65536 in
theorem w_case : (Jvm.Cond.and given_1 narrow_1).before args0 about1 = true := by decide +kernel
set_option maxRecDepth 65536 in
theorem w_consts : constsHeld consts_1 about1 := Jvm.Lit.constsHeldB_iff.mp (by decide +kernel)
theorem w_applies : (headSpec (Jvm.Cond.code x code maxLocals ret :: tables_1) room_1).applies x e0.platform about1 = true :=
  (Spec.applies_iff w_frames).mpr ⟨w_running, w_runnable, w_alone, w_named, w_hears, w_ripe, w_room, w_tables⟩
theorem atStart : AtStart classFile x code maxLocals ret World_1 tables_1 room_1 Calls_1 rest_1 Pre_1 launch0 p0 e0 about1 theMethod args0 below0 :=
  ⟨lists_1, trivial, launch0.admits_env _ _ _, launch0.least_env, fairChoices_fair.cas, fairChoices_fair.clock, w_frames, w_args, w_heap, w_applies, ⟨w_consts, trivial⟩, w_rest, w_case⟩
end start1
theorem witness_1 : WitnessClaimed_1 := ⟨start1.p0, start1.e0, start1.about1, start1.theMethod, start1.args0, start1.below0, start1.atStart⟩
end Jvm.Pilot.@@N@@
